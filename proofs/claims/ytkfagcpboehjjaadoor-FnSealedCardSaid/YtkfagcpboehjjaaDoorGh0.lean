/- The small parts of the package's hash of GCM: how many blocks there are; the lengths as bytes; a block filled up. No condition but where things lie. -/
import Derived.Test.YtkfagcpboehjjaaDoorGml
import Derived.Test.YtkfagcpboehjjaaDoorCop
import Derived.Test.YtkfagcpboehjjaaDoorSpd
import Derived.Laws.IdiomCopy
namespace Go.Proofs.YtkfagcpboehjjaaDoor
set_option maxRecDepth 100000
open Go.RowKit

def mK (n : Nat) : Nat := if n = 0 then 1 else n
def vK (n : Nat) : Nat := if n = 0 then 0 else 128
theorem calcG_any (n : Nat) (w : World) : Calls Tryd.prog 70 #[.int .i64 n, .int .i64 0] w fun e w' => e = .returned (.tuple #[.int .i64 (mK n : Nat), .int .i64 (vK n : Nat)]) ∧ w = w' := by
  by_cases h : n = 0
  · subst h
    go_enter Tryd.func70, Tryd.ntmps70
    go_wp2_with fail
    go_ret2
    exact ⟨rfl, rfl⟩
  · have h1 : ((n : Int) == 0) = false := by simp; omega
    have h2 : ((n : Int) != 0) = true := by simp; omega
    have h3 : ¬ ((n : Int) = 0) := by omega
    have e1 : mK n = n := if_neg h
    have e2 : vK n = 128 := if_neg h
    rw [e1, e2]
    go_enter Tryd.func70, Tryd.ntmps70
    go_wp2_with fail
    go_ret2
    exact ⟨rfl, rfl⟩
theorem calcE_any (n : Nat) (w : World) : Calls Tryd.prog 58 #[.int .i64 n, .int .i64 0] w fun e w' => e = .returned (.tuple #[.int .i64 (mK n : Nat), .int .i64 (vK n : Nat)]) ∧ w = w' := by
  by_cases h : n = 0
  · subst h
    go_enter Tryd.func58, Tryd.ntmps58
    go_wp2_with fail
    go_ret2
    exact ⟨rfl, rfl⟩
  · have h1 : ((n : Int) == 0) = false := by simp; omega
    have h2 : ((n : Int) != 0) = true := by simp; omega
    have h3 : ¬ ((n : Int) = 0) := by omega
    have e1 : mK n = n := if_neg h
    have e2 : vK n = 128 := if_neg h
    rw [e1, e2]
    go_enter Tryd.func58, Tryd.ntmps58
    go_wp2_with fail
    go_ret2
    exact ⟨rfl, rfl⟩
theorem calcD_any (n : Nat) (w : World) : Calls Tryd.prog 65 #[.int .i64 n, .int .i64 0] w fun e w' => e = .returned (.tuple #[.int .i64 (mK n : Nat), .int .i64 (vK n : Nat)]) ∧ w = w' := by
  by_cases h : n = 0
  · subst h
    go_enter Tryd.func65, Tryd.ntmps65
    go_wp2_with fail
    go_ret2
    exact ⟨rfl, rfl⟩
  · have h1 : ((n : Int) == 0) = false := by simp; omega
    have h2 : ((n : Int) != 0) = true := by simp; omega
    have h3 : ¬ ((n : Int) = 0) := by omega
    have e1 : mK n = n := if_neg h
    have e2 : vK n = 128 := if_neg h
    rw [e1, e2]
    go_enter Tryd.func65, Tryd.ntmps65
    go_wp2_with fail
    go_ret2
    exact ⟨rfl, rfl⟩

/-- The eight bytes of a length. -/
def len8 (n : Int) (j : Nat) : Int := bits .and .i64 (n / 2 ^ (56 - 8 * j)) 255 % 256
theorem len8_bf (n : Int) : Bf (len8 n) := fun j => by unfold len8; omega
theorem make8 (w : World) : (Instr.makeSlice 22 (.int .i64 8) (.int .i64 8)).run Tryd.prog w = .ok (.slice (some ⟨w.heap.size, 0, none⟩) 8 8) (w.alloc (.cells (ZB 8) 5)) := by kernel_rfl
theorem len8_any (n : Int) (w : World) : Calls Tryd.prog 72 #[.int .i64 n] w (GotB 8 (len8 n) w) := by
  have m1 := make8
  go_enter Tryd.func72, Tryd.ntmps72
  go_wp2_with fail
  go_ret
  refine ⟨_, rfl, Nat.le_refl _, ⟨_, Blk.new w 5 _, by simp [ZB], fun j hj => ?_⟩, (Only.refl _ _).alloc _⟩
  rcases (show j = 0 ∨ j = 1 ∨ j = 2 ∨ j = 3 ∨ j = 4 ∨ j = 5 ∨ j = 6 ∨ j = 7 by omega) with rfl | rfl | rfl | rfl | rfl | rfl | rfl | rfl <;> simp [ZB, len8]

/-- The lengths. -/
def lens (la lc : Int) (j : Nat) : Int := if j < 8 then len8 la j else len8 lc (j - 8)
theorem lens_list (la lc : Int) : fst 8 (len8 la) ++ fst 8 (len8 lc) = fst 16 (lens la lc) := by
  apply List.ext_getElem?
  intro j
  unfold fst lens
  by_cases h1 : j < 8
  · rw [List.getElem?_append_left (by simpa using h1)]
    simp [h1, show j < 16 by omega]
  · rw [List.getElem?_append_right (by simpa using h1)]
    by_cases h2 : j < 16
    · simp [h1, h2, show j - 8 < 8 by omega]
    · rw [List.getElem?_eq_none (by simp; omega), List.getElem?_eq_none (by simp; omega)]
theorem make0 (w : World) : (Instr.makeSlice 22 (.int .i64 0) (.int .i64 0)).run Tryd.prog w = .ok (.slice (some ⟨w.heap.size, 0, none⟩) 0 0) (w.alloc (.cells (madeCells #[.int .u8 0] 0) 5)) := by kernel_rfl
theorem own_nil (w : World) (base : Nat) : OwnB w base (.slice none 0 0) [] := ⟨rfl, .inl ⟨rfl, rfl⟩⟩

/-- Block g is n bytes, byte j being f j, and no more. -/
def ArrE (w : World) (g n : Nat) (f : Nat → Int) : Prop := ∃ cs, Blk w g 5 cs ∧ cs.size = n ∧ ∀ j, j < n → cs[j]? = some (.int .u8 (f j))
section
variable {w w' : World} {g n : Nat} {f : Nat → Int} {S : List Nat}
theorem ArrE.arr (h : ArrE w g n f) : ArrB w g n f := let ⟨cs, h1, h2, h3⟩ := h; ⟨cs, h1, by omega, h3⟩
theorem ArrE.only (h : ArrE w g n f) (ho : Only S w w') (hn : g ∉ S) : ArrE w' g n f := let ⟨cs, hb, h1⟩ := h; ⟨cs, ho.blk hb hn, h1⟩
theorem ArrE.lt (h : ArrE w g n f) : g < w.heap.size := let ⟨_, h, _, _⟩ := h; h.lt
theorem ArrE.own (h : ArrE w g n f) {base : Nat} (hb : base ≤ g) (hn : n ≤ maxLen) : OwnB w base (.slice (some ⟨g, 0, none⟩) n n) (fst n f) := by
  obtain ⟨cs, h1, h2, h3⟩ := h
  unfold OwnB
  rw [fst_length]
  refine ⟨by simp [fst_length], .inr ⟨g, n, cs, rfl, hb, h1, Nat.le_refl _, hn, by omega, ?_⟩⟩
  apply List.ext_getElem?
  intro j
  rw [List.getElem?_take]
  by_cases hj : j < n
  · rw [if_pos (by omega), Array.getElem?_toList, h3 j hj]
    simp [fst, hj]
  · rw [if_neg (by omega), List.getElem?_eq_none (by simp [fst_length]; omega)]
theorem ArrE.made (w : World) (n : Nat) : ArrE (w.alloc (.cells (madeCells #[.int .u8 0] n) 5)) w.heap.size n (fun _ => 0) :=
  ⟨_, Blk.new w 5 _, by rw [size_madeCells], fun j hj => by
    rw [← Array.getElem?_toList, toList_madeCells_one]
    simp [hj]⟩
theorem ArrE.zb (w : World) (n : Nat) : ArrE (w.alloc (.cells (ZB n) 5)) w.heap.size n (fun _ => 0) := ⟨ZB n, Blk.new w 5 _, by simp [ZB], fun j hj => by simp [ZB, hj]⟩
theorem Reads.src_fst {B : Nat} {ad : Addr} (h : Reads w B 1 (some ad) n ((fst n f).map (Value.int .u8))) : Src w ad n f := fun j hj => by
  obtain ⟨ad', e, _, hc⟩ := h.2 (by omega)
  cases e
  exact hc j _ (by simp [fst, hj])
end
theorem makeN (n : Nat) (hn : n ≤ 4000) (w : World) : (Instr.makeSlice 22 (.int .i64 n) (.int .i64 n)).run Tryd.prog w = .ok (.slice (some ⟨w.heap.size, 0, none⟩) n n) (w.alloc (.cells (madeCells #[.int .u8 0] n) 5)) :=
  run_make_row' (P := Tryd.prog) 22 5 (.int .u8 0) 1 Tryd.underlying22 info5' rfl .i64 .i64 n (by omega) (by omega) w

theorem wp_copyE {o : Oper} {a : Act} {K : Act → World → Prop} {Q : Exit → Act → World → Prop} {w : World} (d s : Operand) (ho : o.op = .call { callee := .builtin .copy, args := #[d, s], argTypes := #[22, 22] })
    (g n dCap sCap B : Nat) (A : Option Addr) (f q : Nat → Int) (hd : a.eval d = .slice (some ⟨g, 0, none⟩) n dCap) (hs : a.eval s = .slice A n sCap)
    (hb : ArrE w g n f) (hr : Reads w B 1 A n ((fst n q).map (Value.int .u8)))
    (h : ∀ w', Only [g] w w' → ArrE w' g n q → K (a.put o.dst (goInt n)) w') : o.wp Tryd.prog a w K Q := by
  obtain ⟨cs, hblk, hN, hc⟩ := hb
  rcases Nat.eq_zero_or_pos n with h0 | h0
  · subst h0
    have hrun := run_copy_none (P := Tryd.prog) w 22 22 o.type 5 (some ⟨g, 0, none⟩) A 0 dCap 0 sCap Tryd.underlying22 size5 rfl
    unfold Oper.wp
    simp only [execOp, ho, resolve, invoke, builtin, Sem.run_bind, Sem.run_pure, Result.andThen_ok, List.map_toArray, List.map_cons, List.map_nil, hd, hs, hrun]
    exact h w (Only.refl _ _) ⟨cs, hblk, hN, fun j hj => absurd hj (by omega)⟩
  · obtain ⟨ad, rfl, _, hcell⟩ := hr.2 h0
    have hl : ((fst n q).map (Value.int .u8)).length = n := by simp [fst_length]
    have hrun := run_copy_row (P := Tryd.prog) w 22 22 o.type 5 g 0 n dCap ad n sCap cs 5 ((fst n q).map (Value.int .u8)) Tryd.underlying22 size5 hblk (by rw [hl]; exact (Nat.min_self n).symm) hcell (by rw [hl]; omega) (fun v hv => by obtain ⟨j, _, rfl⟩ := List.mem_map.1 hv; rfl)
    unfold Oper.wp
    simp only [execOp, ho, resolve, invoke, builtin, Sem.run_bind, Sem.run_pure, Result.andThen_ok, List.map_toArray, List.map_cons, List.map_nil, hd, hs, hrun]
    rw [hl]
    refine h _ (Only.setRow g _) ⟨_, setRow_heap w g cs _ 5 (0, 0) hblk, ?_, fun j hj => ?_⟩
    · simp [fst_length]; omega
    · rw [List.getElem?_toArray, List.take_zero, List.nil_append, List.getElem?_append_left (by rw [hl]; exact hj)]
      simp [fst, hj]
theorem copy_exact {ops : Array Oper} {rest : List Oper} {o : Oper} {a : Act} {Q : Exit → Act → World → Prop} {w : World} (hgd : o.guard = none) (d s : Operand) (ho : o.op = .call { callee := .builtin .copy, args := #[d, s], argTypes := #[22, 22] })
    (g n dCap sCap B : Nat) (A : Option Addr) (f q : Nat → Int) (hd : a.eval d = .slice (some ⟨g, 0, none⟩) n dCap) (hs : a.eval s = .slice A n sCap)
    (hb : ArrE w g n f) (hr : Reads w B 1 A n ((fst n q).map (Value.int .u8)))
    (h : ∀ w', Only [g] w w' → ArrE w' g n q → wpList Tryd.prog ops Q rest (a.put o.dst (goInt n)) w') : wpList Tryd.prog ops Q (o :: rest) a w :=
  wpList_plain hgd fun _ hK => wp_copyE d s ho g n dCap sCap B A f q hd hs hb hr fun w' h1 h2 => hK _ _ (h w' h1 h2)
/-- Bytes, filled up with zeros to sixteen. -/
def fill (y : Nat) (q : Nat → Int) (j : Nat) : Int := if j < y then q j else 0
theorem fill_list (y z : Nat) (q : Nat → Int) (h : y + z = 16) : fst y q ++ fst z (fun _ => 0) = fst 16 (fill y q) := by
  apply List.ext_getElem?
  intro j
  unfold fst fill
  by_cases h1 : j < y
  · rw [List.getElem?_append_left (by simpa using h1)]
    simp [h1, show j < 16 by omega]
  · rw [List.getElem?_append_right (by simpa using h1)]
    by_cases h2 : j < 16
    · simp [h1, h2, show j - y < z by omega]
    · rw [List.getElem?_eq_none (by simp; omega), List.getElem?_eq_none (by simp; omega)]
end Go.Proofs.YtkfagcpboehjjaaDoor
