/- The mode CBC, forth, exactly. No condition but where things lie. -/
import Derived.Test.YtkfagcpboehjjaaDoorModw
import Derived.Test.YtkfagcpboehjjaaDoorEncr
namespace Go.Proofs.YtkfagcpboehjjaaDoor
set_option maxRecDepth 100000
open Go.RowKit

set_option maxHeartbeats 8000000 in
theorem cbc_any (V : Addr) (cv : Nat) (iv : Nat → Int) (K : Addr) (ck : Nat) (kf : Nat → Int) (A : Option Addr) (n c base : Nat) (l : List Int) (w : World) (hV : Src w V 16 iv) (hVb : V.block < base) (hK : Src w K 16 kf) (hKf : Bf kf) (hKb : K.block < base) (ht : Tabs w) (h7 : 7 ≤ base) (hb : base ≤ w.heap.size)
    (hl : l.length = n) (hown : OwnB w base (.slice A n c) l) (hby : Byl l) (hn : n ≤ 1000) :
    Calls Tryd.prog 22 #[.slice (some V) 16 cv, .slice (some K) 16 ck, .slice A n c, .bool true] w (GotM base (padL l).length (pick (mO 2 (keyF kf) iv (lF (padL l)) false)) w) := by
  have m1 := makeB16
  go_enter Tryd.func22, Tryd.ntmps22
  go_wp2_with fail
  refine (pad_any A n c base l w hl hown hn hb).mono ?_
  rintro e w1 ⟨g, k, c1, rfl, hc1, hk4, hbg, hk, hi1, bel1⟩
  have hdf := lF_bf (padL_byl hby)
  have HK := Lib.hid hk
  clear hown hl hby hk
  generalize lF (padL l) = d at *
  obtain ⟨O, HO⟩ : ∃ O, Hid (O = mO 2 (keyF kf) iv d false) := ⟨_, Lib.hid rfl⟩
  have hmk := make_any k (by omega)
  have hsz1 := bel1.size
  have hlt := hi1.lt
  have ha1 : Only [] w1 (w1.alloc (.cells (ZB 16) 5)) := (Only.refl _ _).alloc _
  have hV1 := hV.below (bel1.alloc (by omega) (.cells (ZB 16) 5)) hVb
  go_wp2_with (refine copy16 rfl (.tmp 32) (.tmp 33) rfl w1.heap.size 0 16 16 V cv _ _ rfl rfl (ArrB.new w1 16) (by omega) hV1 ?_; intro w2 ho2 hv2)
  have bel2 : Below base w w2 := (bel1.alloc (by omega) (.cells (ZB 16) 5)).trans (ho2.to_below (by simp; omega) (by intro x hx; simp at hx; omega))
  have hi2 := (hi1.only ha1 (by simp)).only ho2 (by simp; omega)
  have hs2 : w1.heap.size < w2.heap.size := by have := ho2.size; simp at this; omega
  have ho3 : Only [] w2 (w2.alloc (.cells (madeCells #[.int .u8 0] (16 * k)) 5)) := (Only.refl _ _).alloc _
  go_wp2_with fail
  refine (newc_any K ck kf (w2.alloc (.cells (madeCells #[.int .u8 0] (16 * k)) 5)) (hK.below (bel2.alloc (by omega) _) hKb) hKf (ht.of_below (bel2.alloc (by omega) _) h7) (by simp; omega) (by simp; omega)).mono ?_
  rintro e w3 ⟨a, gk, gb, gr, rfl, hC, ho4⟩
  have hm0 : MW w w3 base g w2.heap.size k (w2.heap.size + 1) a gk gb gr (keyF kf) d (upto O 0) := ⟨(bel2.alloc (by omega) _).trans (ho4.to_below (by simp; omega) (by simp)), by simpa using hC, (hi2.only ho3 (by simp)).only ho4 (by simp), ((ArrB.made w2 (16 * k)).only ho4 (by simp)).congr fun p _ => upto_zero O p⟩
  have hv3 : ArrB w3 w1.heap.size 16 iv := ((hv2.only ho3 (by simp)).only ho4 (by simp)).congr fun j hj => by rw [if_pos (by omega)]; rfl
  clear hC ho4 hi2 bel2 ho2 hmk hi1 ha1 hV1 hv2 ho3
  generalize keyF kf = rk at *
  go_wp2_with fail
  go_loopw [13, 11] (fun i v wr => ∃ j gi : Nat, j ≤ k ∧ i = .int .i64 j ∧ v = .slice (some ⟨gi, 0, none⟩) 16 16 ∧ ArrB wr gi 16 (cbcS rk iv d j) ∧ MW w wr base g w2.heap.size k (w2.heap.size + 1) a gk gb gr rk d (upto O j)) (fun i _ _ => k - (intOf i).toNat)
  case atStart => exact ⟨0, _, by omega, rfl, rfl, hv3, hm0⟩
  case round =>
    clear hm0 hv3
    obtain ⟨j, gi, hj, rfl, rfl, hv, hm⟩ := hrel
    by_cases hlt2 : j < k
    · as_aux_lemma =>
      have l1 : (j : Int) < (k : Int) := by omega
      obtain ⟨p, e0, e1, e2, b1, b2, b3, e3, e4, e5, e6, e7, HP⟩ := place j k c1 hlt2 hk4 hc1
      obtain ⟨r1, r2, r3, r4⟩ := hm.c.lt
      obtain ⟨q1, q2, q3, q4⟩ := hm.c.lo
      have hi := hm.i.lt
      have ho := hm.o.lt
      have hq : Eq16 (cbcS rk iv d (j + 1)) (O j) := fun _ _ => by rw [HO.out]; rfl
      go_wp2_with fail
      refine (xor_any ⟨g, p, none⟩ ⟨gi, 0, none⟩ _ _ (blk d j) (cbcS rk iv d j) wr (hm.i.srcb HP hlt2) (hv.src0 (by omega)) hi hv.lt).mono ?_
      rintro e wx ⟨gx, rfl, hgx, hx, hox⟩
      have hcx := hm.c.only hox (by simp) (by simp) (by simp) (by simp)
      have hix := hm.i.only hox (by simp)
      have hoox := hm.o.only hox (by simp)
      have belx := hm.bel.trans (hox.to_below (B := base) (by omega) (by simp))
      have hszx := hox.size
      have hgx2 := hx.lt
      clear hm hv hox
      go_wp2_with fail
      have ha : Only [] wx (wx.alloc (.cells (ZB 16) 5)) := (Only.refl _ _).alloc _
      refine (encr_any (w2.heap.size + 1) a gk gb gr wx.heap.size _ ⟨gx, 0, none⟩ (xb (blk d j) (cbcS rk iv d j)) rk (wx.alloc (.cells (ZB 16) 5)) (hcx.only ha (by simp) (by simp) (by simp) (by simp)) (by omega) ⟨_, ArrB.new wx 16⟩ ((hx.alloc _).src0 (by omega)) (xb_bf _ _)
        ((ht.of_below belx h7).only ha (by omega) (by simp)) (by simp; omega) (by omega) (by omega) (by omega) (by omega) (by show gx ≠ gb; omega)).mono ?_
      rintro e w4 ⟨rfl, ho4, ht4', hc4⟩
      have ht4 : ArrB w4 wx.heap.size 16 (cbcS rk iv d (j + 1)) := ht4'
      have ho5 : Only [gb, gr] wx w4 := ha.mono (S' := [gb, gr]) (by simp) |>.then_ ho4 (by intro x hx hl; simp at hx ⊢; omega)
      have hi4 := hix.only ho5 (by simp; omega)
      have hoo := hoox.only ho5 (by simp; omega)
      have bel4 := belx.trans (ho5.to_below (B := base) (by omega) (by intro x hx; simp at hx; omega))
      go_wp2_with (refine copy16 rfl (.tmp 74) (.tmp 75) rfl w2.heap.size p (16 * k - p) (16 * k) ⟨wx.heap.size, 0, none⟩ 16 _ _ rfl rfl hoo (by omega) (ht4.src0 (by omega)) ?_; intro w6 ho6 hd6)
      go_roundw
      case rel =>
        exact ⟨j + 1, _, by omega, by go_num, rfl, ht4.only ho6 (by simp; omega), bel4.trans (ho6.to_below (B := base) (by have := ho5.size; omega) (by intro x hx; simp at hx; omega)), hc4.only ho6 (by simp; omega) (by simp; omega) (by simp; omega) (by simp; omega), hi4.only ho6 (by simp; omega), hd6.congr (upto_next HP hq)⟩
      case measure => simp [intOf]; omega
    · as_aux_lemma =>
      obtain rfl : j = k := by omega
      go_wp2_with fail
      go_ret2
      refine ⟨w2.heap.size, 16 * j, by rw [HK.out]; rfl, by omega, ?_, hm.bel⟩
      rw [HK.out, ← HO.out]
      exact hm.o.congr fun p hp => upto_all O j p hp
end Go.Proofs.YtkfagcpboehjjaaDoor
