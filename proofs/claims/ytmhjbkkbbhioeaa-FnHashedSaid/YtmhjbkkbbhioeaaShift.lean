/- Bytes that lie at a block of their own; a shift by one bit, in place. No condition. -/
import Derived.Test.YtmhjbkkbbhioeaaByte
import Derived.Test.YtmhjbkkbbhioeaaTail
import Derived.BigQuiet
import Derived.LoopTactic
import Derived.Lib.Hide
import Derived.WalkSmall
namespace Go.Proofs.Ytmhjbkkbbhioeaa
open Go.RowKit

theorem OwnB.lift {w : World} {base base' : Nat} {v : Value} {l : List Int} (h : OwnB w base v l) (hb : base' ≤ base) : OwnB w base' v l :=
  ⟨h.1, h.2.imp id fun ⟨g, c, cur, h1, h2, h3⟩ => ⟨g, c, cur, h1, Nat.le_trans hb h2, h3⟩⟩
/-- A slice of the call's own, as it is written. -/
theorem OwnB.shaped {w : World} {base : Nat} {v : Value} {l : List Int} (h : OwnB w base v l) : ∃ A c, v = .slice A l.length c := by
  rcases h.2 with ⟨e, h0⟩ | ⟨g, cap, cur, e, _⟩
  · refine ⟨none, 0, ?_⟩
    rw [h0]; exact e
  · exact ⟨_, _, e⟩

/-- Block g begins with n bytes, byte j being f j. -/
def ArrB (w : World) (g n : Nat) (f : Nat → Int) : Prop :=
  ∃ cs, Blk w g 5 cs ∧ n ≤ cs.size ∧ ∀ j, j < n → cs[j]? = some (.int .u8 (f j))

section
variable {w w' : World} {g n : Nat} {f f' : Nat → Int}
theorem ArrB.lt (h : ArrB w g n f) : g < w.heap.size := let ⟨_, h, _, _⟩ := h; h.lt
theorem ArrB.cell (h : ArrB w g n f) {j : Nat} (hj : j < n) : w.cell? ⟨g, j, none⟩ = some (.int .u8 (f j)) := by
  obtain ⟨cs, hb, _, hc⟩ := h
  rw [hb.cell, hc j hj]
theorem ArrB.frozen (h : ArrB w g n f) (j : Nat) : w.frozen? ⟨g, j, none⟩ = false := let ⟨_, hb, _, _⟩ := h; hb.frozen j
theorem ArrB.drewN (h : ArrB w g n f) (k : Nat) : ArrB (w.drewN k) g n f := h
theorem ArrB.below {B : Nat} (h : ArrB w g n f) (hb : Below B w w') (hg : g < B) : ArrB w' g n f := let ⟨cs, h1, h⟩ := h; ⟨cs, h1.below hb hg, h⟩
theorem ArrB.congr (h : ArrB w g n f) (he : ∀ j, j < n → f j = f' j) : ArrB w g n f' := let ⟨cs, h1, h2, h3⟩ := h; ⟨cs, h1, h2, fun j hj => by rw [h3 j hj, he j hj]⟩
theorem ArrB.set_ (h : ArrB w g n f) (i : Nat) (x : Int) (he : ∀ j, j < n → f' j = if j = i then x else f j) : ArrB (w.setCell ⟨g, i, none⟩ (.int .u8 x)) g n f' := by
  obtain ⟨cs, h1, h2, h3⟩ := h
  refine ⟨_, h1.set_ i _, by simpa using h2, fun j hj => ?_⟩
  rw [he j hj, Array.getElem?_setIfInBounds]
  by_cases hij : i = j
  · subst hij
    have : i < cs.size := by omega
    simp [this]
  · rw [if_neg hij, h3 j hj, if_neg (fun e => hij e.symm)]
theorem ArrB.reads (h : ArrB w g n f) : Reads w w.heap.size 1 (some ⟨g, 0, none⟩) n (((List.range n).map f).map (Value.int .u8)) :=
  ⟨by simp, fun _ => ⟨_, rfl, h.lt, fun j u hu => by
    have e : (⟨g, 0, none⟩ : Addr).add j = ⟨g, j, none⟩ := by
      unfold Addr.add; by_cases h0 : j = 0 <;> simp [h0]
    have hj : j < n := by
      rcases Nat.lt_or_ge j n with h1 | h1
      · exact h1
      · rw [List.getElem?_eq_none (by simpa using h1)] at hu; cases hu
    rw [e, h.cell hj]
    simp [hj] at hu
    rw [← hu]⟩⟩
theorem ArrB.of_own {base c : Nat} {l : List Int} (h : OwnB w base (.slice (some ⟨g, 0, none⟩) l.length c) l) : base ≤ g ∧ l.length ≤ c ∧ c ≤ maxLen ∧ ArrB w g l.length (fun j => l.getD j 0) := by
  rcases h.2 with ⟨e, h0⟩ | ⟨g', cap, cur, e, hb, hh, h3, h4, h5, h6⟩
  · cases e
  · have e1 : g = g' := by injection e with e1 _ _; injection e1 with e1; injection e1
    have e2 : c = cap := by injection e
    subst e1; subst e2
    refine ⟨hb, h3, h4, cur, hh, by omega, fun j hj => ?_⟩
    have h7 : (List.take (l.length * 1) cur.toList)[j]? = (List.map (Value.int .u8) l)[j]? := by rw [h6]
    rw [List.getElem?_take, if_pos (by omega), List.getElem?_map, List.getElem?_eq_getElem hj, Array.getElem?_toList] at h7
    rw [h7]
    simp [List.getElem?_eq_getElem hj]
end

/-- A byte behind a shift of the whole by one bit. -/
def shr1 (f : Nat → Int) (j : Nat) : Int := if j = 0 then f 0 / 2 else f j / 2 + 128 * (f (j - 1) % 2)

theorem and_one_fin : ∀ x : Fin 256, bits .and .u8 ((x.val : Nat) : Int) 1 = ((x.val : Nat) : Int) % 2 := by decide +kernel
theorem or_128_fin : ∀ a : Fin 128, bits .or .u8 128 ((a.val : Nat) : Int) = ((a.val : Nat) : Int) + 128 ∧ bits .or .u8 ((a.val : Nat) : Int) 128 = ((a.val : Nat) : Int) + 128 ∧ bits .or .u8 0 ((a.val : Nat) : Int) = ((a.val : Nat) : Int) ∧ bits .or .u8 ((a.val : Nat) : Int) 0 = ((a.val : Nat) : Int) := by decide +kernel
theorem and_one {x : Int} (h0 : 0 ≤ x) (h1 : x ≤ 255) : bits .and .u8 x 1 = x % 2 := by
  have h := and_one_fin ⟨x.toNat, by omega⟩
  simpa [Int.toNat_of_nonneg h0] using h
theorem or_128 {a : Int} (h0 : 0 ≤ a) (h1 : a < 128) : bits .or .u8 128 a = a + 128 ∧ bits .or .u8 a 128 = a + 128 ∧ bits .or .u8 0 a = a ∧ bits .or .u8 a 0 = a := by
  have h := or_128_fin ⟨a.toNat, by omega⟩
  simpa [Int.toNat_of_nonneg h0] using h
theorem shift_lib {x y : Int} (h0 : 0 ≤ x) (h1 : x ≤ 255) (h2 : 0 ≤ y) (h3 : y ≤ 255) : bits .or .u8 (bits .and .u8 x 1 * 128 % 256) (y / 2) = y / 2 + 128 * (x % 2) := by
  rw [and_one h0 h1]
  have h := or_128 (a := y / 2) (by omega) (by omega)
  rcases (show x % 2 = 0 ∨ x % 2 = 1 by omega) with e | e
  · rw [e, show (0 : Int) * 128 % 256 = 0 from rfl, h.2.2.1]; omega
  · rw [e, show (1 : Int) * 128 % 256 = 128 from rfl, h.1]; omega
theorem shift_law {x y : Int} (h2 : 0 ≤ y) (h3 : y ≤ 255) : bits .or .u8 (y / 2) (x * 128 % 256) = y / 2 + 128 * (x % 2) := by
  have h := or_128 (a := y / 2) (by omega) (by omega)
  rcases (show x % 2 = 0 ∨ x % 2 = 1 by omega) with e | e
  · rw [show x * 128 % 256 = 0 by omega, h.2.2.2, e]; omega
  · rw [show x * 128 % 256 = 128 by omega, h.2.1, e]; omega

set_option maxHeartbeats 1000000 in
theorem rshift_any (g c : Nat) (f : Nat → Int) (w : World) (hby : ∀ j, j < 16 → 0 ≤ f j ∧ f j ≤ 255) (hA : ArrB w g 16 f) (_ : 16 ≤ c) (_ : c ≤ maxLen) :
    Calls Try.prog 21 #[.slice (some ⟨g, 0, none⟩) 16 c] w fun e w' => e = .returned (.tuple #[]) ∧ ArrB w' g 16 (shr1 f) ∧ Below g w w' := by
  go_enter Try.func21, Try.ntmps21
  go_wp2_with fail
  go_loopw [3] (fun i wr => ∃ k : Nat, k ≤ 16 ∧ i = .int .i64 ((k : Int) - 1) ∧ ArrB wr g 16 (fun j => if k ≤ j then shr1 f j else f j) ∧ Below g w wr) (fun i _ => (intOf i + 1).toNat)
  case atStart => exact ⟨16, by omega, rfl, hA.congr fun j hj => by rw [if_neg (by omega)], Below.refl _ _⟩
  case round =>
    obtain ⟨k, hk, rfl, hB, hbel⟩ := hrel
    by_cases h0 : k = 0
    · subst h0
      rw [show ((0 : Nat) : Int) - 1 = -1 from rfl]
      go_wp2_with fail
      simp [bodyPost, results, Try.results21]
      exact ⟨hB.congr fun j hj => by rw [if_pos (by omega)], hbel⟩
    · obtain ⟨m, rfl⟩ : ∃ m, k = m + 1 := ⟨k - 1, by omega⟩
      clear h0
      have hm1 : ((m + 1 : Nat) : Int) - 1 = (m : Int) := by omega
      rw [hm1]
      have a0 := hB.cell (j := m) (by omega)
      have f0 := hB.frozen m
      simp only [show ¬ (m + 1 ≤ m) by omega, if_false] at a0
      have l1 : (m : Int) < 16 := by omega
      have bm := hby m (by omega)
      by_cases hz : m = 0
      · subst hz
        go_wp2_with fail
        go_roundw
        case rel =>
          exact ⟨0, by omega, rfl, hB.set_ 0 _ fun j hj => by
            by_cases h : j = 0
            · subst h; rw [if_pos (by omega), if_pos rfl]; rfl
            · rw [if_neg h, if_pos (by omega), if_pos (by omega)], hbel.setCell (Nat.le_refl _) _⟩
        case measure => simp [intOf]
      · obtain ⟨p, e1, hp⟩ : ∃ p : Nat, IntKind.i64.wrap ((m : Int) - 1) = (p : Int) ∧ p + 1 = m := ⟨m - 1, by rw [IntWalk.i64_in _ (by omega)]; omega, by omega⟩
        have hB2 := hB.set_ (f' := fun j => if j = m then f m / 2 else if m + 1 ≤ j then shr1 f j else f j) m (f m / 2) (fun j hj => rfl)
        have b0 := hB2.cell (j := m) (by omega)
        have b1 := hB2.cell (j := p) (by omega)
        have f2 := hB2.frozen m
        simp only [if_true, show ¬ (p = m) by omega, show ¬ (m + 1 ≤ p) by omega, if_false] at b0 b1
        have l2 : (p : Int) < 16 := by omega
        have l3 : ((m : Int) != 0) = true := by simp; omega
        have HP := Lib.hid hp
        clear hp
        go_wp2_with fail
        refine region_quiet_tail 15 (by kernel_rfl) (by kernel_rfl) ?_
        simp only [List.take_succ_cons, List.take_zero, List.drop_succ_cons, List.drop_zero]
        iterate 15 (quiet_step (fail))
        refine wpQuiet_nil ?_
        intro _ hw'
        obtain ⟨nq2, rfl⟩ := hw'
        go_wp2_with fail
        go_roundw
        case rel =>
          have hp := HP.out
          have bp := hby p (by omega)
          refine ⟨m, by omega, by go_num, (hB2.drewN nq2).set_ m _ (fun j hj => ?_), ((below_drewN (hbel.setCell (Nat.le_refl _) _) nq2).setCell (Nat.le_refl _) _)⟩
          by_cases h : j = m
          · subst h
            rw [if_pos (Nat.le_refl _), if_pos rfl, shift_lib bp.1 bp.2 bm.1 bm.2]
            unfold shr1
            rw [if_neg hz, show j - 1 = p by omega]
          · rw [if_neg h, if_neg h]
            by_cases h2 : m ≤ j
            · rw [if_pos h2, if_pos (by omega)]
            · rw [if_neg h2, if_neg (by omega)]
        case measure => have := HP.out; simp [intOf]; omega

theorem shr1_byte {f : Nat → Int} (hby : ∀ j, j < 16 → 0 ≤ f j ∧ f j ≤ 255) {j : Nat} (hj : j < 16) : 0 ≤ shr1 f j ∧ shr1 f j ≤ 255 := by
  unfold shr1
  have h0 := hby 0 (by omega)
  have h1 := hby j hj
  have h2 := hby (j - 1) (by omega)
  split <;> omega

/-- Shifted: a copy, shifted. -/
theorem shifted_any (A : Option Addr) (c : Nat) (l : List Int) (w : World) (hr : Reads w w.heap.size 1 A 16 (l.map (Value.int .u8))) (hby : ∀ x ∈ l, 0 ≤ x ∧ x ≤ 255) :
    Calls Try.prog 11 #[.slice A 16 c] w fun e w' => ∃ g c', e = .returned (.slice (some ⟨g, 0, none⟩) 16 c') ∧ w.heap.size ≤ g ∧ ArrB w' g 16 (shr1 (fun j => l.getD j 0)) ∧ Below w.heap.size w w' := by
  have hl : l.length = 16 := by have := hr.1; simpa using this
  go_enter Try.func11, Try.ntmps11
  go_wp2_with fail
  refine (own_any A 16 c l w hr (by omega)).mono ?_
  rintro e w1 ⟨v, rfl, hv, hB1⟩
  obtain ⟨g, c', rfl, hg, -, hc, hm, -⟩ := hv.form (by omega)
  have hA := (ArrB.of_own hv).2.2.2
  rw [hl] at hA hc ⊢
  have hb2 : ∀ j, j < 16 → 0 ≤ l.getD j 0 ∧ l.getD j 0 ≤ 255 := fun j _ => byte_getD hby j
  clear hl hv
  go_wp2_with fail
  refine (rshift_any g c' _ w1 hb2 hA hc hm).mono ?_
  rintro e w2 ⟨rfl, hA2, hB2⟩
  go_wp2_with fail
  go_ret
  exact ⟨g, c', rfl, hg, hA2, hB1.trans (hB2.mono hg)⟩
end Go.Proofs.Ytmhjbkkbbhioeaa
