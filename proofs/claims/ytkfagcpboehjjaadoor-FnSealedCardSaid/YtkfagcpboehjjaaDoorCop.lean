/- Bytes are copied: any number of them; in a walk in order, and as a step of a region that draws its order. No condition but where things lie. -/
import Derived.Test.YtkfagcpboehjjaaDoorCopy
import Derived.Laws.CopyRow
namespace Go.Proofs.YtkfagcpboehjjaaDoor
set_option maxRecDepth 100000
open Go.RowKit

theorem wp_copy {o : Oper} {a : Act} {K : Act → World → Prop} {Q : Exit → Act → World → Prop} {w : World} (d s : Operand) (ho : o.op = .call { callee := .builtin .copy, args := #[d, s], argTypes := #[22, 22] })
    (g off dl dCap N sl sCap m : Nat) (ad : Addr) (f q : Nat → Int) (hd : a.eval d = .slice (some ⟨g, off, none⟩) dl dCap) (hs : a.eval s = .slice (some ad) sl sCap) (hm : m = Nat.min sl dl)
    (hb : ArrB w g N f) (hfit : off + m ≤ N) (hsrc : Src w ad m q)
    (h : ∀ w', Only [g] w w' → ArrB w' g N (fun j => if off ≤ j ∧ j < off + m then q (j - off) else f j) → K (a.put o.dst (goInt m)) w') : o.wp Tryd.prog a w K Q := by
  obtain ⟨cs, hblk, hN, hc⟩ := hb
  have hl : ((List.range m).map fun j => Value.int .u8 (q j)).length = m := by simp
  have hrun := run_copy_row (P := Tryd.prog) w 22 22 o.type 5 g off dl dCap ad sl sCap cs 5 ((List.range m).map fun j => Value.int .u8 (q j)) Tryd.underlying22 size5 hblk (by rw [hl]; exact hm) (fun j v hv => by
    have hj : j < m := by
      rcases Nat.lt_or_ge j m with h1 | h1
      · exact h1
      · rw [List.getElem?_eq_none (by rw [hl]; exact h1)] at hv; cases hv
    rw [hsrc j hj]
    simpa [hj] using hv) (by rw [hl]; omega) (fun v hv => by obtain ⟨j, _, rfl⟩ := List.mem_map.1 hv; rfl)
  unfold Oper.wp
  simp only [execOp, ho, resolve, invoke, builtin, Sem.run_bind, Sem.run_pure, Result.andThen_ok, List.map_toArray, List.map_cons, List.map_nil, hd, hs, hrun]
  rw [hl]
  refine h _ (Only.setRow g _) ⟨_, setRow_heap w g cs _ 5 (0, 0) hblk, ?_, fun j hj => ?_⟩
  · simp; omega
  · show _ = some (Value.int .u8 (if off ≤ j ∧ j < off + m then q (j - off) else f j))
    rw [List.getElem?_toArray, List.append_assoc]
    by_cases h1 : j < off
    · rw [List.getElem?_append_left (by simp; omega), List.getElem?_take, if_pos h1, if_neg (by omega), Array.getElem?_toList, hc j hj]
    · rw [List.getElem?_append_right (by simp; omega)]
      have e1 : j - (cs.toList.take off).length = j - off := by simp; omega
      rw [e1]
      by_cases h2 : j < off + m
      · rw [List.getElem?_append_left (by rw [hl]; omega), if_pos (by omega), List.getElem?_map, List.getElem?_range (by omega)]
        rfl
      · rw [List.getElem?_append_right (by rw [hl]; omega), hl, if_neg (by omega), List.getElem?_drop, Array.getElem?_toList, show off + m + (j - off - m) = j by omega, hc j hj]
theorem copy_any {ops : Array Oper} {rest : List Oper} {o : Oper} {a : Act} {Q : Exit → Act → World → Prop} {w : World} (hgd : o.guard = none) (d s : Operand) (ho : o.op = .call { callee := .builtin .copy, args := #[d, s], argTypes := #[22, 22] })
    (g off dl dCap N sl sCap m : Nat) (ad : Addr) (f q : Nat → Int) (hd : a.eval d = .slice (some ⟨g, off, none⟩) dl dCap) (hs : a.eval s = .slice (some ad) sl sCap) (hm : m = Nat.min sl dl)
    (hb : ArrB w g N f) (hfit : off + m ≤ N) (hsrc : Src w ad m q)
    (h : ∀ w', Only [g] w w' → ArrB w' g N (fun j => if off ≤ j ∧ j < off + m then q (j - off) else f j) → wpList Tryd.prog ops Q rest (a.put o.dst (goInt m)) w') : wpList Tryd.prog ops Q (o :: rest) a w :=
  wpList_plain hgd fun _ hK => wp_copy d s ho g off dl dCap N sl sCap m ad f q hd hs hm hb hfit hsrc fun w' h1 h2 => hK _ _ (h w' h1 h2)
theorem step_copy {ops : Array Oper} {o : Oper} {a : Act} {K : Act → World → Prop} {Q : Exit → Act → World → Prop} {E : Prop} {w : World} (hgd : o.guard = none) (d s : Operand) (ho : o.op = .call { callee := .builtin .copy, args := #[d, s], argTypes := #[22, 22] })
    (g off dl dCap N sl sCap m : Nat) (ad : Addr) (f q : Nat → Int) (hd : a.eval d = .slice (some ⟨g, off, none⟩) dl dCap) (hs : a.eval s = .slice (some ad) sl sCap) (hm : m = Nat.min sl dl)
    (hb : ArrB w g N f) (hfit : off + m ≤ N) (hsrc : Src w ad m q)
    (h : ∀ w', Only [g] w w' → ArrB w' g N (fun j => if off ≤ j ∧ j < off + m then q (j - off) else f j) → K (a.put o.dst (goInt m)) w') : if Region.wanted o (yielded ops a.tmps) = true then Oper.wp Tryd.prog o a w K Q else E := by
  have hw : Region.wanted o (yielded ops a.tmps) = true := by simp [Region.wanted, hgd]
  rw [if_pos hw]
  exact wp_copy d s ho g off dl dCap N sl sCap m ad f q hd hs hm hb hfit hsrc h
end Go.Proofs.YtkfagcpboehjjaaDoor
