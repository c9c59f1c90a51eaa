/- The mode CBC, back, exactly. No condition but where things lie. -/
import Derived.Test.YtkfagcpboehjjaaDoorModw
import Derived.Test.YtkfagcpboehjjaaDoorDecr
namespace Go.Proofs.YtkfagcpboehjjaaDoor
set_option maxRecDepth 100000
open Go.RowKit

set_option maxHeartbeats 8000000 in
theorem cbc_back (V : Addr) (cv : Nat) (iv : Nat → Int) (K : Addr) (ck : Nat) (kf d : Nat → Int) (g k c1 base : Nat) (l : List Int) (w : World) (hV : Src w V 16 iv) (hVb : V.block < base) (hK : Src w K 16 kf) (hKf : Bf kf) (hKb : K.block < base) (ht : Tabs w) (h7 : 7 ≤ base) (hb : base ≤ w.heap.size)
    (hc1 : 16 * k ≤ c1) (hk4 : k ≤ 63) (hbg : base ≤ g) (hi1 : ArrB w g (16 * k) d) (hdf : Bf d) (hpl : (padL l).length = 16 * k) (hback : ∀ p, p < 16 * k → pick (mO 2 (keyF kf) iv d true) p = lF (padL l) p) :
    Calls Tryd.prog 22 #[.slice (some V) 16 cv, .slice (some K) 16 ck, .slice (some ⟨g, 0, none⟩) (16 * k) c1, .bool false] w (GotM base l.length (lF l) w) := by
  have HPL := Lib.hid hpl
  clear hpl
  have m1 := makeB16
  have bel1 := Below.refl base w
  obtain ⟨w1, hw1⟩ : ∃ w1, w1 = w := ⟨_, rfl⟩
  have hmk := make_any k (by omega)
  go_enter Tryd.func22, Tryd.ntmps22
  obtain ⟨O, HO⟩ : ∃ O, Hid (O = mO 2 (keyF kf) iv d true) := ⟨_, Lib.hid rfl⟩
  have hsz1 := bel1.size
  have hlt := hi1.lt
  have ha1 : Only [] w (w.alloc (.cells (ZB 16) 5)) := (Only.refl _ _).alloc _
  have hV1 := hV.below (bel1.alloc (by omega) (.cells (ZB 16) 5)) hVb
  go_wp2_with (refine copy16 rfl (.tmp 32) (.tmp 33) rfl w.heap.size 0 16 16 V cv _ _ rfl rfl (ArrB.new w 16) (by omega) hV1 ?_; intro w2 ho2 hv2)
  have bel2 : Below base w w2 := (bel1.alloc (by omega) (.cells (ZB 16) 5)).trans (ho2.to_below (by simp; omega) (by intro x hx; simp at hx; omega))
  have hi2 := (hi1.only ha1 (by simp)).only ho2 (by simp; omega)
  have hs2 : w.heap.size < w2.heap.size := by have := ho2.size; simp at this; omega
  have ho3 : Only [] w2 (w2.alloc (.cells (madeCells #[.int .u8 0] (16 * k)) 5)) := (Only.refl _ _).alloc _
  go_wp2_with fail
  refine (newc_any K ck kf (w2.alloc (.cells (madeCells #[.int .u8 0] (16 * k)) 5)) (hK.below (bel2.alloc (by omega) _) hKb) hKf (ht.of_below (bel2.alloc (by omega) _) h7) (by simp; omega) (by simp; omega)).mono ?_
  rintro e w3 ⟨a, gk, gb, gr, rfl, hC, ho4⟩
  have hm0 : MW w w3 base g w2.heap.size k (w2.heap.size + 1) a gk gb gr (keyF kf) d (upto O 0) := ⟨(bel2.alloc (by omega) _).trans (ho4.to_below (by simp; omega) (by simp)), by simpa using hC, (hi2.only ho3 (by simp)).only ho4 (by simp), ((ArrB.made w2 (16 * k)).only ho4 (by simp)).congr fun p _ => upto_zero O p⟩
  have hv3 : ArrB w3 w.heap.size 16 iv := ((hv2.only ho3 (by simp)).only ho4 (by simp)).congr fun j hj => by rw [if_pos (by omega)]; rfl
  clear hC ho4 hi2 bel2 ho2 hmk hi1 ha1 hV1 hv2 ho3
  generalize keyF kf = rk at *
  go_wp2_with fail
  go_loopw [16, 11] (fun i v wr => ∃ (j : Nat) (ad : Addr) (cc : Nat), j ≤ k ∧ i = .int .i64 j ∧ v = .slice (some ad) 16 cc ∧ (ad.block = g ∨ ad.block = w.heap.size) ∧ Src wr ad 16 (prv iv d j) ∧ MW w wr base g w2.heap.size k (w2.heap.size + 1) a gk gb gr rk d (upto O j)) (fun i _ _ => k - (intOf i).toNat)
  case atStart => exact ⟨0, ⟨w.heap.size, 0, none⟩, 16, by omega, rfl, rfl, .inr rfl, hv3.src0 (by omega), hm0⟩
  case round =>
    clear hm0 hv3
    obtain ⟨j, ad, cc, hj, rfl, rfl, hadb, hv, hm⟩ := hrel
    by_cases hlt2 : j < k
    · as_aux_lemma =>
      have l1 : (j : Int) < (k : Int) := by omega
      obtain ⟨p, e0, e1, e2, b1, b2, b3, e3, e4, e5, e6, e7, HP⟩ := place j k c1 hlt2 hk4 hc1
      obtain ⟨r1, r2, r3, r4⟩ := hm.c.lt
      obtain ⟨q1, q2, q3, q4⟩ := hm.c.lo
      have hi := hm.i.lt
      have ho := hm.o.lt
      have hq : Eq16 (xb (D rk (blk d j)) (prv iv d j)) (O j) := fun _ _ => by rw [HO.out]; rfl
      have ha : Only [] wr (wr.alloc (.cells (ZB 16) 5)) := (Only.refl _ _).alloc _
      have hnext := hm.i.srcb HP hlt2
      go_wp2_with fail
      refine (decr_any (w2.heap.size + 1) a gk gb gr wr.heap.size _ ⟨g, p, none⟩ (blk d j) rk (wr.alloc (.cells (ZB 16) 5)) (hm.c.only ha (by simp) (by simp) (by simp) (by simp)) (by omega) ⟨_, ArrB.new wr 16⟩ ((hm.i.alloc _).srcb HP hlt2) (blk_bf hdf j)
        ((ht.of_below hm.bel h7).only ha (by omega) (by simp)) (by simp; omega) (by omega) (by omega) (by omega) (by omega) (by show g ≠ gb; omega)).mono ?_
      rintro e w4 ⟨rfl, ho4, ht4, hc4⟩
      have ho5 : Only [gb, gr] wr w4 := ha.mono (S' := [gb, gr]) (by simp) |>.then_ ho4 (by intro x hx hl; simp at hx ⊢; omega)
      have hi4 := hm.i.only ho5 (by simp; omega)
      have hoo4 := hm.o.only ho5 (by simp; omega)
      have bel4 := hm.bel.trans (ho5.to_below (B := base) (by omega) (by intro x hx; simp at hx; omega))
      have hv4 := hv.only ho5 (by omega) (by simp; omega)
      have hsz5 := ho5.size
      have hg4 := ht4.lt
      clear hm hv ho4 hnext
      go_wp2_with fail
      refine (xor_any ⟨wr.heap.size, 0, none⟩ ad _ _ (D rk (blk d j)) (prv iv d j) w4 (ht4.src0 (by omega)) hv4 hg4 (by omega)).mono ?_
      rintro e wx ⟨gx, rfl, hgx, hx, hox⟩
      have hcx := hc4.only hox (by simp) (by simp) (by simp) (by simp)
      have hix := hi4.only hox (by simp)
      have hoo := hoo4.only hox (by simp)
      have belx := bel4.trans (hox.to_below (B := base) (by omega) (by simp))
      have hszx := hox.size
      have hgx2 := hx.lt
      go_wp2_with (refine copy16 rfl (.tmp 106) (.tmp 107) rfl w2.heap.size p (16 * k - p) (16 * k) ⟨gx, 0, none⟩ 16 _ _ rfl rfl hoo (by omega) (hx.src0 (by omega)) ?_; intro w6 ho6 hd6)
      go_roundw
      case rel =>
        have hi6 := hix.only ho6 (by simp; omega)
        exact ⟨j + 1, ⟨g, p, none⟩, _, by omega, by go_num, rfl, .inl rfl, hi6.srcb HP hlt2, belx.trans (ho6.to_below (B := base) (by omega) (by intro x hx; simp at hx; omega)), hcx.only ho6 (by simp; omega) (by simp; omega) (by simp; omega) (by simp; omega), hi6, hd6.congr (upto_next HP hq)⟩
      case measure => simp [intOf]; omega
    · as_aux_lemma =>
      obtain rfl : j = k := by omega
      have hfin : ArrB wr w2.heap.size (16 * j) (lF (padL l)) := hm.o.congr fun p hp => by rw [upto_all O j p hp, HO.out]; exact hback p hp
      go_wp2_with fail
      refine (unpad_any w2.heap.size (16 * j) j l wr HPL.out (Nat.le_refl _) hk4 hfin).mono ?_
      rintro e w4 ⟨rfl, nq, rfl⟩
      go_wp2_with fail
      go_ret2
      exact ⟨_, _, rfl, by omega, (ArrB.upto_ (hfin.drewN nq) (by rw [← HPL.out, padL_length]; omega)).congr fun p hp => padL_low l p hp, below_drewN hm.bel nq⟩
end Go.Proofs.YtkfagcpboehjjaaDoor
