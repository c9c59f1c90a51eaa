/- Sixteen bytes are copied. No condition but where things lie. -/
import Derived.Test.YtkfagcpboehjjaaDoorPerm
import Derived.Laws.CopyOwn
namespace Go.Proofs.YtkfagcpboehjjaaDoor
set_option maxRecDepth 100000
open Go.RowKit

theorem size5 : (Tryd.prog.info? 5).map (·.size) = some 1 := by kernel_rfl
theorem Only.setRow {w : World} (g : Nat) (c : Array Value) : Only [g] w (w.setRow g c) :=
  ⟨rfl, rfl, rfl, by simp [World.setRow], fun k _ hn => setRow_other w g k c (by simpa using hn)⟩

theorem copy16 {ops : Array Oper} {rest : List Oper} {o : Oper} {a : Act} {Q : Exit → Act → World → Prop} {w : World} (hgd : o.guard = none) (d s : Operand)
    (ho : o.op = .call { callee := .builtin .copy, args := #[d, s], argTypes := #[22, 22] }) (g off dCap N : Nat) (ad : Addr) (sCap : Nat) (f q : Nat → Int)
    (hd : a.eval d = .slice (some ⟨g, off, none⟩) 16 dCap) (hs : a.eval s = .slice (some ad) 16 sCap) (hb : ArrB w g N f) (hfit : off + 16 ≤ N) (hsrc : Src w ad 16 q)
    (h : ∀ w', Only [g] w w' → ArrB w' g N (fun j => if off ≤ j ∧ j < off + 16 then q (j - off) else f j) → wpList Tryd.prog ops Q rest (a.put o.dst (goInt 16)) w') : wpList Tryd.prog ops Q (o :: rest) a w := by
  obtain ⟨cs, hblk, hN, hc⟩ := hb
  have hl : ((List.range 16).map fun j => Value.int .u8 (q j)).length = 16 := by simp
  refine wpList_copy_own hgd d s 22 22 ho 5 Tryd.underlying22 size5 g off 16 dCap ad 16 sCap hd hs cs 5 hblk ((List.range 16).map fun j => Value.int .u8 (q j)) (by rw [hl]; rfl) (fun j v hv => ?_) (by rw [hl]; omega) (fun v hv => ?_) ?_
  · have hj : j < 16 := by
      rcases Nat.lt_or_ge j 16 with h1 | h1
      · exact h1
      · rw [List.getElem?_eq_none (by rw [hl]; exact h1)] at hv; cases hv
    rw [hsrc j hj]
    simpa [hj] using hv
  · obtain ⟨j, _, rfl⟩ := List.mem_map.1 hv; rfl
  · rw [hl]
    refine h _ (Only.setRow g _) ⟨_, setRow_heap w g cs _ 5 (0, 0) hblk, ?_, fun j hj => ?_⟩
    · simp; omega
    · show _ = some (Value.int .u8 (if off ≤ j ∧ j < off + 16 then q (j - off) else f j))
      rw [List.getElem?_toArray]
      by_cases h1 : j < off
      · rw [List.getElem?_append_left (by simp; omega), List.getElem?_take, if_pos h1, if_neg (by omega), Array.getElem?_toList, hc j hj]
      · rw [List.getElem?_append_right (by simp; omega)]
        have e1 : j - (cs.toList.take off).length = j - off := by simp; omega
        rw [e1]
        by_cases h2 : j < off + 16
        · rw [List.getElem?_append_left (by rw [hl]; omega), if_pos (by omega), List.getElem?_map, List.getElem?_range (by omega)]
          rfl
        · rw [List.getElem?_append_right (by rw [hl]; omega), hl, if_neg (by omega), List.getElem?_drop, Array.getElem?_toList, show off + 16 + (j - off - 16) = j by omega, hc j hj]
end Go.Proofs.YtkfagcpboehjjaaDoor
