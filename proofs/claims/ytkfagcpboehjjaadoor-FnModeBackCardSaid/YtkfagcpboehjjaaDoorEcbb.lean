/- The mode ECB, back, exactly. No condition but where things lie. -/
import Derived.Test.YtkfagcpboehjjaaDoorModw
import Derived.Test.YtkfagcpboehjjaaDoorDecr
namespace Go.Proofs.YtkfagcpboehjjaaDoor
set_option maxRecDepth 100000
open Go.RowKit

set_option maxHeartbeats 8000000 in
theorem ecb_back (iv : Nat → Int) (K : Addr) (ck : Nat) (kf d : Nat → Int) (g k c1 base : Nat) (l : List Int) (w : World) (hK : Src w K 16 kf) (hKf : Bf kf) (hKb : K.block < base) (ht : Tabs w) (h7 : 7 ≤ base) (hb : base ≤ w.heap.size)
    (hc1 : 16 * k ≤ c1) (hk4 : k ≤ 63) (hbg : base ≤ g) (hi1 : ArrB w g (16 * k) d) (hdf : Bf d) (hpl : (padL l).length = 16 * k) (hback : ∀ p, p < 16 * k → pick (mO 1 (keyF kf) iv d true) p = lF (padL l) p) :
    Calls Tryd.prog 20 #[.slice (some K) 16 ck, .slice (some ⟨g, 0, none⟩) (16 * k) c1, .bool false] w (GotM base l.length (lF l) w) := by
  have HPL := Lib.hid hpl
  clear hpl
  have m1 := makeB16
  have bel1 := Below.refl base w
  obtain ⟨w1, hw1⟩ : ∃ w1, w1 = w := ⟨_, rfl⟩
  have hmk := make_any k (by omega)
  go_enter Tryd.func20, Tryd.ntmps20
  obtain ⟨O, HO⟩ : ∃ O, Hid (O = mO 1 (keyF kf) iv d true) := ⟨_, Lib.hid rfl⟩
  have hsz1 := bel1.size
  have hlt := hi1.lt
  have ho2 : Only [] w (w.alloc (.cells (madeCells #[.int .u8 0] (16 * k)) 5)) := (Only.refl _ _).alloc _
  have bel2 : Below base w (w.alloc (.cells (madeCells #[.int .u8 0] (16 * k)) 5)) := bel1.alloc (by omega) _
  have hi2 := hi1.only ho2 (by simp)
  have hgo := ArrB.made w (16 * k)
  go_wp2_with fail
  refine (newc_any K ck kf _ (hK.below bel2 hKb) hKf (ht.of_below bel2 h7) (by simp; omega) (by simp; omega)).mono ?_
  rintro e w3 ⟨a, gk, gb, gr, rfl, hC, ho3⟩
  have hC3 : Ciph w3 (w.heap.size + 1) a gk gb gr (keyF kf) := by simpa using hC
  have hm3 : MW w w3 base g w.heap.size k (w.heap.size + 1) a gk gb gr (keyF kf) d (upto O 0) := ⟨bel2.trans (ho3.to_below (by simp; omega) (by simp)), hC3, hi2.only ho3 (by simp), (hgo.only ho3 (by simp)).congr fun p _ => upto_zero O p⟩
  clear hC ho3 hgo hi2 bel2 ho2 hmk hi1
  generalize keyF kf = rk at *
  go_wp2_with fail
  go_loopw [13] (fun i wr => ∃ j : Nat, j ≤ k ∧ i = .int .i64 j ∧ MW w wr base g w.heap.size k (w.heap.size + 1) a gk gb gr rk d (upto O j)) (fun i _ => k - (intOf i).toNat)
  case atStart => exact ⟨0, by omega, rfl, hm3⟩
  case round =>
    clear hm3 hC3
    obtain ⟨j, hj, rfl, hm⟩ := hrel
    by_cases hlt2 : j < k
    · as_aux_lemma =>
      have l1 : (j : Int) < (k : Int) := by omega
      obtain ⟨p, e0, e1, e2, b1, b2, b3, e3, e4, e5, e6, e7, HP⟩ := place j k c1 hlt2 hk4 hc1
      have hq : Eq16 (D rk (blk d j)) (O j) := fun _ _ => by rw [HO.out]; rfl
      go_wp2_with fail
      have ha : Only [] wr (wr.alloc (.cells (ZB 16) 5)) := (Only.refl _ _).alloc _
      obtain ⟨r1, r2, r3, r4⟩ := hm.c.lt
      obtain ⟨q1, q2, q3, q4⟩ := hm.c.lo
      have hi := hm.i.lt
      have ho := hm.o.lt
      refine (decr_any (w.heap.size + 1) a gk gb gr wr.heap.size _ ⟨g, p, none⟩ (blk d j) rk (wr.alloc (.cells (ZB 16) 5)) (hm.c.only ha (by simp) (by simp) (by simp) (by simp)) (by omega) ⟨_, ArrB.new wr 16⟩ ((hm.i.alloc _).srcb HP hlt2) (blk_bf hdf j)
        ((ht.of_below hm.bel h7).only ha (by omega) (by simp)) (by simp; omega) (by omega) (by omega) (by omega) (by omega) (by show g ≠ gb; omega)).mono ?_
      rintro e w4 ⟨rfl, ho4, ht4, hc4⟩
      have ho5 : Only [gb, gr] wr w4 := ha.mono (S' := [gb, gr]) (by simp) |>.then_ ho4 (by intro x hx hl; simp at hx ⊢; omega)
      have hi4 := hm.i.only ho5 (by simp; omega)
      have hoo := hm.o.only ho5 (by simp; omega)
      have bel4 := hm.bel.trans (ho5.to_below (B := base) (by omega) (by intro x hx; simp at hx; omega))
      go_wp2_with (refine copy16 rfl (.tmp 93) (.tmp 94) rfl w.heap.size p (16 * k - p) (16 * k) ⟨wr.heap.size, 0, none⟩ 16 _ _ rfl rfl hoo (by omega) (ht4.src0 (by omega)) ?_; intro w6 ho6 hd6)
      go_roundw
      case rel =>
        exact ⟨j + 1, by omega, by go_num, bel4.trans (ho6.to_below (B := base) (by have := ho5.size; omega) (by intro x hx; simp at hx; omega)), hc4.only ho6 (by simp; omega) (by simp; omega) (by simp; omega) (by simp; omega), hi4.only ho6 (by simp; omega), hd6.congr (upto_next HP hq)⟩
      case measure => simp [intOf]; omega
    · as_aux_lemma =>
      obtain rfl : j = k := by omega
      have hfin : ArrB wr w.heap.size (16 * j) (lF (padL l)) := hm.o.congr fun p hp => by rw [upto_all O j p hp, HO.out]; exact hback p hp
      go_wp2_with fail
      refine (unpad_any w.heap.size (16 * j) j l wr HPL.out (Nat.le_refl _) hk4 hfin).mono ?_
      rintro e w4 ⟨rfl, nq, rfl⟩
      go_wp2_with fail
      go_ret2
      exact ⟨_, _, rfl, by omega, (ArrB.upto_ (hfin.drewN nq) (by rw [← HPL.out, padL_length]; omega)).congr fun p hp => padL_low l p hp, below_drewN hm.bel nq⟩
end Go.Proofs.YtkfagcpboehjjaaDoor
