/- What all modes walk through. No condition. -/
import Derived.Test.YtkfagcpboehjjaaDoorPadu
import Derived.Test.YtkfagcpboehjjaaDoorNewc
import Derived.Test.YtkfagcpboehjjaaDoorCopy
namespace Go.Proofs.YtkfagcpboehjjaaDoor
set_option maxRecDepth 100000
open Go.RowKit

/-- What a mode gives back: n bytes and no error; what lay below base is as it was. -/
def GotM (base n : Nat) (F : Nat → Int) (w : World) (e : Ending) (w' : World) : Prop := ∃ go c, e = .returned (.tuple #[.slice (some ⟨go, 0, none⟩) n c, .nilIface]) ∧ base ≤ go ∧ ArrB w' go n F ∧ Below base w w'
/-- In the midst of a mode. -/
structure MW (w wr : World) (base g go k B a gk gb gr : Nat) (rk d F : Nat → Int) : Prop where
  bel : Below base w wr
  c : Ciph wr B a gk gb gr rk
  i : ArrB wr g (16 * k) d
  o : ArrB wr go (16 * k) F
theorem Tabs.of_below {w w' : World} {B : Nat} (h : Tabs w) (hb : Below B w w') (hB : 7 ≤ B) : Tabs w' := h.below hb hB

/-- The first j blocks are there. -/
def upto (O : Nat → Nat → Int) (j p : Nat) : Int := if p < 16 * j then pick O p else 0
theorem upto_zero (O : Nat → Nat → Int) (p : Nat) : (0 : Int) = upto O 0 p := by unfold upto; rw [if_neg (by omega)]
theorem upto_next {O : Nat → Nat → Int} {q : Nat → Int} {j p N : Nat} (hp : Hid (p = 16 * j)) (hq : Eq16 q (O j)) : ∀ x, x < N → (if p ≤ x ∧ x < p + 16 then q (x - p) else upto O j x) = upto O (j + 1) x := fun x _ => by
  have := hp.out
  subst this
  unfold upto
  by_cases h1 : 16 * j ≤ x ∧ x < 16 * j + 16
  · rw [if_pos h1, if_pos (by omega), hq _ (by omega)]
    unfold pick
    rw [show x / 16 = j by omega, show x % 16 = x - 16 * j by omega]
  · rw [if_neg h1]
    by_cases h2 : x < 16 * j
    · rw [if_pos h2, if_pos (by omega)]
    · rw [if_neg h2, if_neg (by omega)]
theorem upto_all (O : Nat → Nat → Int) (k p : Nat) (h : p < 16 * k) : upto O k p = pick O p := if_pos h
theorem ArrB.srcb {w : World} {g k j p : Nat} {d : Nat → Int} (h : ArrB w g (16 * k) d) (hp : Hid (p = 16 * j)) (hj : j < k) : Src w ⟨g, p, none⟩ 16 (blk d j) := by
  have := hp.out
  subst this
  exact h.src (o := 16 * j) (m := 16) (by omega)

theorem ArrB.upto_ {w : World} {g n m : Nat} {f : Nat → Int} (h : ArrB w g n f) (hm : m ≤ n) : ArrB w g m f := let ⟨cs, h1, h2, h3⟩ := h; ⟨cs, h1, by omega, fun j hj => h3 j (by omega)⟩
theorem below_drewN {B : Nat} {w w' : World} (h : Below B w w') (n : Nat) : Below B w (w'.drewN n) := ⟨h.os, h.tape, h.output, h.size, h.block⟩
theorem make_any (q : Nat) (h : q ≤ 4000) (w : World) : (Instr.makeSlice 22 (.int .i64 (16 * (q : Int))) (.int .i64 (16 * (q : Int)))).run Tryd.prog w = .ok (.slice (some ⟨w.heap.size, 0, none⟩) (16 * q) (16 * q)) (w.alloc (.cells (madeCells #[.int .u8 0] (16 * q)) 5)) := by
  have := run_make_row' (P := Tryd.prog) 22 5 (.int .u8 0) 1 Tryd.underlying22 info5' rfl .i64 .i64 (16 * q) (by omega) (by omega) w
  rw [show (16 * (q : Int)) = ((16 * q : Nat) : Int) by omega]
  exact this

theorem place (j k c : Nat) (hj : j < k) (hk : k ≤ 63) (hc : 16 * k ≤ c) : ∃ p : Nat, IntKind.i64.wrap ((j : Int) * 16) = (p : Int) ∧ IntKind.i64.wrap ((p : Int) + 16) = (p : Int) + 16 ∧ ((p : Int) + 16).toNat = p + 16 ∧ (p : Int) + 16 ≤ (c : Int) ∧ (p : Int) + 16 ≤ 16 * (k : Int) ∧ p + 16 ≤ 16 * k ∧ p + 16 - p = 16 ∧ ¬ c = p ∧ ¬ 16 * k = p ∧ ((p : Int) + 16 - (p : Int)).toNat = 16 ∧ 0 ≤ (p : Int) + 16 ∧ Hid (p = 16 * j) :=
  ⟨16 * j, by rw [IntWalk.i64_in _ (by omega)]; omega, IntWalk.i64_in _ (by omega), by omega, by omega, by omega, by omega, by omega, by omega, by omega, by omega, by omega, Lib.hid rfl⟩
end Go.Proofs.YtkfagcpboehjjaaDoor
