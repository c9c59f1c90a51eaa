/- The first mode, one way: nothing panics, no error. No condition but where things lie. -/
import Derived.Test.YteioblloppcjoaaDoorPadd
import Derived.Test.YteioblloppcjoaaDoorItob
import Derived.Test.YteioblloppcjoaaDoorEncr
import Derived.Test.YteioblloppcjoaaDoorCopy
namespace Go.Proofs.YteioblloppcjoaaDoor
set_option maxRecDepth 100000
open Go.RowKit

/-- What a mode gives back: a slice and no error; what lay below base is as it was. -/
def GotM (base : Nat) (w : World) (e : Ending) (w' : World) : Prop := ∃ A n c, e = .returned (.tuple #[.slice A n c, .nilIface]) ∧ Below base w w'
/-- In the midst of a mode. -/
structure MW (w wr : World) (base g go k B a gk gb gr : Nat) : Prop where
  bel : Below base w wr
  c : Ciph wr B a gk gb gr
  i : Bys wr g (16 * k)
  o : Bys wr go (16 * k)
theorem Tabs.of_below {w w' : World} {B : Nat} (h : Tabs w) (hb : Below B w w') (hB : 7 ≤ B) : Tabs w' := h.below hb hB
theorem Src.below {w w' : World} {B n : Nat} {ad : Addr} (h : Src w ad n) (hb : Below B w w') (hl : ad.block < B) : Src w' ad n := fun j hj =>
  let ⟨x, hx, hc⟩ := h j hj; ⟨x, hx, (hb.cell (by rw [block_of_add]; exact hl)).trans hc⟩

theorem make_any (q : Nat) (h : q ≤ 4000) (w : World) : (Instr.makeSlice 22 (.int .i64 (16 * (q : Int))) (.int .i64 (16 * (q : Int)))).run Tryd.prog w = .ok (.slice (some ⟨w.heap.size, 0, none⟩) (16 * q) (16 * q)) (w.alloc (.cells (madeCells #[.int .u8 0] (16 * q)) 5)) := by
  have := run_make_row' (P := Tryd.prog) 22 5 (.int .u8 0) 1 Tryd.underlying22 info5' rfl .i64 .i64 (16 * q) (by omega) (by omega) w
  rw [show (16 * (q : Int)) = ((16 * q : Nat) : Int) by omega]
  exact this

theorem place (j k c : Nat) (hj : j < k) (hk : k ≤ 40) (hc : 16 * k ≤ c) : ∃ p : Nat, IntKind.i64.wrap ((j : Int) * 16) = (p : Int) ∧ IntKind.i64.wrap ((p : Int) + 16) = (p : Int) + 16 ∧ ((p : Int) + 16).toNat = p + 16 ∧ (p : Int) + 16 ≤ (c : Int) ∧ (p : Int) + 16 ≤ 16 * (k : Int) ∧ p + 16 ≤ 16 * k ∧ p + 16 - p = 16 ∧ ¬ c = p ∧ ¬ 16 * k = p ∧ ((p : Int) + 16 - (p : Int)).toNat = 16 ∧ 0 ≤ (p : Int) + 16 :=
  ⟨16 * j, by rw [IntWalk.i64_in _ (by omega)]; omega, IntWalk.i64_in _ (by omega), by omega, by omega, by omega, by omega, by omega, by omega, by omega, by omega, by omega⟩

set_option maxHeartbeats 4000000 in
theorem ecb_any (K : Addr) (ck : Nat) (A : Option Addr) (n c base : Nat) (l : List Int) (w : World) (hK : Src w K 16) (hKb : K.block < base) (ht : Tabs w) (h7 : 7 ≤ base) (hb : base ≤ w.heap.size)
    (hl : l.length = n) (hown : OwnB w base (.slice A n c) l) (hby : ∀ x ∈ l, 0 ≤ x ∧ x ≤ 255) (hn : n ≤ 500) :
    Calls Tryd.prog 10 #[.slice (some K) 16 ck, .slice A n c, .bool true] w (GotM base w) := by
  go_enter Tryd.func10, Tryd.ntmps10
  go_wp2_with fail
  refine (pad_any A n c base l w hl hown hby hn hb).mono ?_
  rintro e w1 ⟨g, k, c1, rfl, hc1, hk4, hbg, hi1, bel1⟩
  clear hown hl hby
  have hmk := make_any k (by omega)
  have hsz1 := bel1.size
  have ho2 : Only [] w1 (w1.alloc (.cells (madeCells #[.int .u8 0] (16 * k)) 5)) := (Only.refl _ _).alloc _
  have bel2 : Below base w (w1.alloc (.cells (madeCells #[.int .u8 0] (16 * k)) 5)) := bel1.alloc (by omega) _
  have hi2 := hi1.only ho2 (by simp)
  have hgo := Bys.made w1 (16 * k)
  go_wp2_with fail
  refine (newc_any K ck _ (hK.below bel2 hKb) (ht.of_below bel2 h7) (by simp; omega) (by simp; omega)).mono ?_
  rintro e w3 ⟨a, gk, gb, gr, rfl, hC, ho3⟩
  have hm0 : MW w w3 base g w1.heap.size k (w1.heap.size + 1) a gk gb gr := ⟨bel2.trans (ho3.to_below (by simp; omega) (by simp)), by simpa using hC, hi2.only ho3 (by simp), hgo.only ho3 (by simp)⟩
  have hlt := hi1.lt
  clear hC ho3 hgo hi2 bel2 ho2 hmk hi1
  go_wp2_with fail
  go_loopw [10] (fun i wr => ∃ j : Nat, j ≤ k ∧ i = .int .i64 j ∧ MW w wr base g w1.heap.size k (w1.heap.size + 1) a gk gb gr) (fun i _ => k - (intOf i).toNat)
  case atStart => exact ⟨0, by omega, rfl, hm0⟩
  case round =>
    clear hm0
    obtain ⟨j, hj, rfl, hm⟩ := hrel
    by_cases hlt2 : j < k
    · as_aux_lemma =>
      have l1 : (j : Int) < (k : Int) := by omega
      obtain ⟨p, e0, e1, e2, b1, b2, b3, e3, e4, e5, e6, e7⟩ := place j k c1 hlt2 hk4 hc1
      have m1 := makeB16
      go_wp2_with fail
      have ha : Only [] wr (wr.alloc (.cells (ZB 16) 5)) := (Only.refl _ _).alloc _
      obtain ⟨r1, r2, r3, r4⟩ := hm.c.lt
      obtain ⟨q1, q2, q3, q4⟩ := hm.c.lo
      have hi := hm.i.lt
      have ho := hm.o.lt
      refine (encr_any (w1.heap.size + 1) a gk gb gr wr.heap.size _ ⟨g, p, none⟩ (wr.alloc (.cells (ZB 16) 5)) (hm.c.only ha (by simp) (by simp) (by simp) (by simp)) (by omega) (Bys.new wr 16) ((hm.i.alloc _).src b3)
        ((ht.of_below hm.bel h7).only ha (by omega) (by simp)) (by simp; omega) (by omega) (by omega) (by omega) (by omega) (by show g ≠ gb; omega)).mono ?_
      rintro e w4 ⟨rfl, ho4, ht4, hc4⟩
      have ho5 : Only [gb, gr] wr w4 := ha.mono (S' := [gb, gr]) (by simp) |>.then_ ho4 (by intro x hx hl; simp at hx ⊢; omega)
      have hi4 := hm.i.only ho5 (by simp; omega)
      have hoo := hm.o.only ho5 (by simp; omega)
      have bel4 := hm.bel.trans (ho5.to_below (B := base) (by omega) (by intro x hx; simp at hx; omega))
      go_wp2_with (refine copy16 rfl (.tmp 65) (.tmp 66) rfl w1.heap.size p (16 * k - p) (16 * k) ⟨wr.heap.size, 0, none⟩ 16 rfl rfl hoo (by omega) (ht4.src (by omega)) ?_; intro w6 ho6 hd6)
      go_roundw
      case rel =>
        exact ⟨j + 1, by omega, by go_num, bel4.trans (ho6.to_below (B := base) (by have := ho5.size; omega) (by intro x hx; simp at hx; omega)), hc4.only ho6 (by simp; omega) (by simp; omega) (by simp; omega) (by simp; omega), hi4.only ho6 (by simp; omega), hd6⟩
      case measure => simp [intOf]; omega
    · as_aux_lemma =>
      obtain rfl : j = k := by omega
      go_wp2_with fail
      go_ret2
      exact ⟨_, _, _, rfl, hm.bel⟩
end Go.Proofs.YteioblloppcjoaaDoor
