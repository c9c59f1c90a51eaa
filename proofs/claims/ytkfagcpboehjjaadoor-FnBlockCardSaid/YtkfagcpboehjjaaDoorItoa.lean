/- A number below a hundred, and a hundred, as text: nothing panics. No condition but that a table of the library's holds a number. -/
import Derived.Test.YtkfagcpboehjjaaDoorXor
import Derived.BigRegion
import Derived.Outline
import Derived.WalkSpells
import Derived.Handy
namespace Go.Proofs.YtkfagcpboehjjaaDoor
set_option maxRecDepth 100000
open Go.RowKit

/-- Some short text comes back. -/
def SomeStr (w : World) (e : Ending) (w' : World) : Prop := ∃ s : ByteArray, e = .returned (.string s) ∧ s.size ≤ 100 ∧ Only [] w w'

theorem small_any (n : Nat) (w : World) (hn : n < 100) : Calls Tryd.prog 73 #[.int .i64 n] w (SomeStr w) := by
  have l0 : (n : Int) < 100 := by omega
  have e1 : IntKind.i64.wrap ((n : Int) + 1) = ((n + 1 : Nat) : Int) := by rw [IntWalk.i64_in _ (by omega)]; omega
  have e2 : IntKind.i64.wrap ((n : Int) * 2) = ((2 * n : Nat) : Int) := by rw [IntWalk.i64_in _ (by omega)]; omega
  have e3 : IntKind.i64.wrap (((2 * n : Nat) : Int) + 2) = ((2 * n + 2 : Nat) : Int) := by rw [IntWalk.i64_in _ (by omega)]; omega
  by_cases h : n < 10
  · have l1 : (n : Int) < 10 := by omega
    go_enter Tryd.func73, Tryd.ntmps73
    go_wp2_with fail
    go_ret
    exact ⟨_, rfl, by simp [ByteArray.size_extract]; omega, Only.refl _ _⟩
  · have l1 : ¬ (n : Int) < 10 := by omega
    go_enter Tryd.func73, Tryd.ntmps73
    go_wp2_with fail
    go_ret
    exact ⟨_, rfl, by simp [ByteArray.size_extract]; omega, Only.refl _ _⟩
/-- Two or three. -/
def TwoThree (w : World) (e : Ending) (w' : World) : Prop := (e = .returned (.int .i64 2) ∨ e = .returned (.int .i64 3)) ∧ w = w'
theorem len64_any (w : World) : Calls Tryd.prog 81 #[.int .u64 100] w fun e w' => e = .returned (.int .i64 7) ∧ w = w' := by
  go_enter Tryd.func81, Tryd.ntmps81
  go_wp2_with fail
  go_ret
  exact ⟨by kernel_rfl, rfl⟩
theorem log_any (w : World) : Calls Tryd.prog 80 #[.int .i64 7] w fun e w' => e = .returned (.int .i64 2) ∧ w = w' := by
  go_enter Tryd.func80, Tryd.ntmps80
  go_wp2_with fail
  go_ret
  exact ⟨by kernel_rfl, rfl⟩
theorem bool_t (w : World) : Calls Tryd.prog 82 #[.bool true] w fun e w' => e = .returned (.int .i64 1) ∧ w = w' := by
  go_enter Tryd.func82, Tryd.ntmps82
  go_wp2_with fail
  go_ret
  exact ⟨rfl, rfl⟩
theorem bool_f (w : World) : Calls Tryd.prog 82 #[.bool false] w fun e w' => e = .returned (.int .i64 0) ∧ w = w' := by
  go_enter Tryd.func82, Tryd.ntmps82
  go_wp2_with fail
  go_ret
  exact ⟨rfl, rfl⟩
theorem digits_any (x : Int) (w : World) (hx : w.cell? ⟨7, 2, none⟩ = some (.int .u64 x)) : Calls Tryd.prog 74 #[.int .u64 100] w (TwoThree w) := by
  by_cases h : x ≤ 100
  · go_enter Tryd.func74, Tryd.ntmps74
    go_wp2_with (first | (go_at_call 81; refine (len64_any _).mono ?_; rintro e w' ⟨rfl, rfl⟩) | (go_at_call 80; refine (log_any _).mono ?_; rintro e w' ⟨rfl, rfl⟩) | (go_at_call 82; refine (bool_t _).mono ?_; rintro e w' ⟨rfl, rfl⟩))
    go_ret
    exact ⟨.inr rfl, rfl⟩
  · have hd : decide (x ≤ 100) = false := by simpa using h
    go_enter Tryd.func74, Tryd.ntmps74
    go_wp2_with (first | (go_at_call 81; refine (len64_any _).mono ?_; rintro e w' ⟨rfl, rfl⟩) | (go_at_call 80; refine (log_any _).mono ?_; rintro e w' ⟨rfl, rfl⟩) | (go_at_call 82; refine (bool_f _).mono ?_; rintro e w' ⟨rfl, rfl⟩))
    go_ret
    exact ⟨.inl rfl, rfl⟩
def ZA : Array Value := Array.replicate 24 (.int .u8 0)
/-- Twenty-four bytes in a block. -/
def D24 (g : Nat) (w : World) : Prop := ∃ cs, Blk w g 85 cs ∧ cs.size = 24 ∧ ∀ j, j < 24 → ∃ x : Int, cs[j]? = some (.int .u8 x)
theorem D24.zero {g : Nat} {w : World} (h : Blk w g 85 ZA) : D24 g w := ⟨ZA, h, by simp [ZA], fun j hj => ⟨0, by simp [ZA, hj]⟩⟩
theorem D24.set_ {g : Nat} {w : World} (h : D24 g w) (i : Nat) (v : Int) : D24 g (w.setCell ⟨g, i, none⟩ (.int .u8 v)) := by
  obtain ⟨cs, hb, hs, hc⟩ := h
  refine ⟨_, hb.set_ i _, by simpa using hs, fun j hj => ?_⟩
  rw [Array.getElem?_setIfInBounds]
  by_cases e : i = j
  · subst e; exact ⟨v, by simp [hs, hj]⟩
  · rw [if_neg e]; exact hc j hj
theorem D24.cell {g : Nat} {w : World} (h : D24 g w) {j : Nat} (hj : j < 24) : ∃ x : Int, w.cell? ⟨g, j, none⟩ = some (.int .u8 x) := by
  obtain ⟨cs, hb, _, hc⟩ := h
  obtain ⟨x, hx⟩ := hc j hj
  exact ⟨x, by rw [hb.cell, hx]⟩
theorem D24.drew {g : Nat} {w : World} (h : D24 g w) : D24 g w.drew := h
set_option maxHeartbeats 1000000 in
theorem base2_any (g : Nat) (w : World) (hb : Blk w g 85 ZA) : Calls Tryd.prog 75 #[.slice (some ⟨g, 1, none⟩) 2 23, .int .u64 100] w (Done [g] (D24 g) w) := by
  have f1 := hb.frozen 1
  have f2 := hb.frozen 2
  obtain ⟨x1, c1⟩ := (D24.zero hb).cell (j := 1) (by omega)
  obtain ⟨x2, c2⟩ := (D24.zero hb).cell (j := 2) (by omega)
  go_enter Tryd.func75, Tryd.ntmps75
  go_wp2_with fail
  go_rounds 1
  go_region
  go_wp2_with fail
  simp [bodyPost, results, Tryd.results75]
  exact ⟨rfl, (((Only.refl _ _).set1 (by simp) 2 _).set1 (by simp) 1 _).drew, (((D24.zero hb).set_ 2 _).set_ 1 _).drew⟩
set_option maxHeartbeats 1000000 in
theorem base3_any (g : Nat) (w : World) (hb : Blk w g 85 ZA) : Calls Tryd.prog 75 #[.slice (some ⟨g, 1, none⟩) 3 23, .int .u64 100] w (Done [g] (D24 g) w) := by
  have f1 := hb.frozen 1
  have f2 := hb.frozen 2
  have f3 := hb.frozen 3
  obtain ⟨x1, c1⟩ := (D24.zero hb).cell (j := 1) (by omega)
  obtain ⟨x2, c2⟩ := (D24.zero hb).cell (j := 2) (by omega)
  obtain ⟨x3, c3⟩ := (D24.zero hb).cell (j := 3) (by omega)
  go_enter Tryd.func75, Tryd.ntmps75
  go_wp2_with fail
  go_rounds 1
  go_region
  go_wp2_with fail
  simp [bodyPost, results, Tryd.results75]
  exact ⟨rfl, ((((Only.refl _ _).set1 (by simp) 3 _).set1 (by simp) 2 _).set1 (by simp) 1 _).drew, ((((D24.zero hb).set_ 3 _).set_ 2 _).set_ 1 _).drew⟩
end Go.Proofs.YtkfagcpboehjjaaDoor
