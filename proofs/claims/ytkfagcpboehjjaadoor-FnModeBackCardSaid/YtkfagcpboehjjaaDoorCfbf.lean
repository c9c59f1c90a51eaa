/- The mode CFB, forth, exactly. No condition but where things lie. -/
import Derived.Test.YtkfagcpboehjjaaDoorModw
import Derived.Test.YtkfagcpboehjjaaDoorEncr
namespace Go.Proofs.YtkfagcpboehjjaaDoor
set_option maxRecDepth 100000
open Go.RowKit

set_option maxHeartbeats 8000000 in
theorem cfb_any (V : Addr) (cv : Nat) (iv : Nat → Int) (K : Addr) (ck : Nat) (kf : Nat → Int) (A : Option Addr) (n c base : Nat) (l : List Int) (w : World) (hV : Src w V 16 iv) (hVf : Bf iv) (hVb : V.block < base) (hK : Src w K 16 kf) (hKf : Bf kf) (hKb : K.block < base) (ht : Tabs w) (h7 : 7 ≤ base) (hb : base ≤ w.heap.size)
    (hl : l.length = n) (hown : OwnB w base (.slice A n c) l) (hby : Byl l) (hn : n ≤ 1000) :
    Calls Tryd.prog 23 #[.slice (some V) 16 cv, .slice (some K) 16 ck, .slice A n c, .bool true] w (GotM base (padL l).length (pick (mO 3 (keyF kf) iv (lF (padL l)) false)) w) := by
  have m1 := makeB16
  go_enter Tryd.func23, Tryd.ntmps23
  go_wp2_with fail
  refine (pad_any A n c base l w hl hown hn hb).mono ?_
  rintro e w1 ⟨g, k, c1, rfl, hc1, hk4, hbg, hk, hi1, bel1⟩
  have hdf := lF_bf (padL_byl hby)
  have HK := Lib.hid hk
  clear hown hl hby hk
  generalize lF (padL l) = d at *
  obtain ⟨O, HO⟩ : ∃ O, Hid (O = mO 3 (keyF kf) iv d false) := ⟨_, Lib.hid rfl⟩
  have hmk := make_any k (by omega)
  have hsz1 := bel1.size
  have hlt := hi1.lt
  have ho2 : Only [] w1 (w1.alloc (.cells (madeCells #[.int .u8 0] (16 * k)) 5)) := (Only.refl _ _).alloc _
  have bel2 : Below base w (w1.alloc (.cells (madeCells #[.int .u8 0] (16 * k)) 5)) := bel1.alloc (by omega) _
  have hi2 := hi1.only ho2 (by simp)
  have hgo := ArrB.made w1 (16 * k)
  go_wp2_with fail
  refine (newc_any K ck kf _ (hK.below bel2 hKb) hKf (ht.of_below bel2 h7) (by simp; omega) (by simp; omega)).mono ?_
  rintro e w3 ⟨a, gk, gb, gr, rfl, hC, ho3⟩
  have hC3 : Ciph w3 (w1.heap.size + 1) a gk gb gr (keyF kf) := by simpa using hC
  have hm3 : MW w w3 base g w1.heap.size k (w1.heap.size + 1) a gk gb gr (keyF kf) d (upto O 0) := ⟨bel2.trans (ho3.to_below (by simp; omega) (by simp)), hC3, hi2.only ho3 (by simp), (hgo.only ho3 (by simp)).congr fun p _ => upto_zero O p⟩
  clear hC ho3 hgo hi2 bel2 ho2 hmk hi1
  generalize keyF kf = rk at *
  obtain ⟨r1, r2, r3, r4⟩ := hC3.lt
  obtain ⟨q1, q2, q3, q4⟩ := hC3.lo
  have hall : Only [] w3 (((w3.alloc (.cells (ZB 16) 5)).alloc (.cells (ZB 16) 5)).alloc (.cells (ZB 16) 5)) := (((Only.refl _ _).alloc _).alloc _).alloc _
  have hm0 : MW w (((w3.alloc (.cells (ZB 16) 5)).alloc (.cells (ZB 16) 5)).alloc (.cells (ZB 16) 5)) base g w1.heap.size k (w1.heap.size + 1) a gk gb gr rk d (upto O 0) :=
    ⟨hm3.bel.trans (hall.to_below (by omega) (by simp)), hC3.only hall (by simp) (by simp) (by simp) (by simp), hm3.i.only hall (by simp), hm3.o.only hall (by simp)⟩
  have hK0 : ∃ o, ArrB (((w3.alloc (.cells (ZB 16) 5)).alloc (.cells (ZB 16) 5)).alloc (.cells (ZB 16) 5)) w3.heap.size 16 o := ⟨_, ((ArrB.new w3 16).alloc _).alloc _⟩
  have hv0 : ∃ o, ArrB (((w3.alloc (.cells (ZB 16) 5)).alloc (.cells (ZB 16) 5)).alloc (.cells (ZB 16) 5)) (w3.heap.size + 1) 16 o := by
    have := (ArrB.new (w3.alloc (.cells (ZB 16) 5)) 16).alloc (.cells (ZB 16) 5)
    exact ⟨_, by simpa using this⟩
  clear hall hm3 hC3
  go_wp2_with fail
  obtain ⟨gK, hgK⟩ : ∃ gK, gK = w3.heap.size := ⟨_, rfl⟩
  rw [← hgK] at hK0 hv0 r1 r2 r3 r4
  go_loopw [15, 13] (fun i v wr => ∃ j gi : Nat, j ≤ k ∧ i = .int .i64 j ∧ v = .slice (some ⟨gi, 0, none⟩) 16 16 ∧ (∃ o, ArrB wr gi 16 o ∧ (0 < j → o = cfbS rk iv d j)) ∧ gK < gi ∧ (∃ o, ArrB wr gK 16 o) ∧ MW w wr base g w1.heap.size k (w1.heap.size + 1) a gk gb gr rk d (upto O j)) (fun i _ _ => k - (intOf i).toNat)
  case atStart => exact ⟨0, gK + 1, by omega, rfl, by rw [hgK], hv0.imp fun _ h => ⟨h, fun h0 => absurd h0 (Nat.lt_irrefl 0)⟩, by omega, hK0, hm0⟩
  case round =>
    rw [← hgK]
    clear hm0 hv0 hK0 hgK
    obtain ⟨j, gi, hj, rfl, rfl, ⟨oi, hv, hvo⟩, hgi, hK2, hm⟩ := hrel
    by_cases hlt2 : j < k
    · have l1 : (j : Int) < (k : Int) := by omega
      obtain ⟨p, e0, e1, e2, b1, b2, b3, e3, e4, e5, e6, e7, HP⟩ := place j k c1 hlt2 hk4 hc1
      have hi := hm.i.lt
      have ho := hm.o.lt
      have hKl := hK2.elim fun _ h => h.lt
      by_cases hj0 : j = 0
      · as_aux_lemma =>
        subst hj0
        obtain rfl : p = 0 := by rw [IntWalk.i64_in _ (by omega)] at e0; omega
        have z3 : (16 : Int) ≤ (c1 : Int) := by omega
        have z4 : (16 : Int) ≤ 16 * (k : Int) := by omega
        have z5 : 16 ≤ c1 := by omega
        have z6 : 16 ≤ 16 * k := by omega
        have z7 : ¬ c1 = 0 := by omega
        have z8 : ¬ 16 * k = 0 := by omega
        have v0 : IntKind.i64.wrap 0 = 0 := rfl
        have v1 : IntKind.i64.wrap 16 = 16 := rfl
        clear e0 e1 e2 e3 e4 e5 e6 e7 b1 b2
        have hq : Eq16 (xb (E rk iv) (blk d 0)) (O 0) := fun _ _ => by rw [HO.out]; rfl
        go_wp2_with fail
        refine (encr_any (w1.heap.size + 1) a gk gb gr gK _ V iv rk wr hm.c (by omega) hK2 (hV.below hm.bel hVb) hVf (ht.of_below hm.bel h7) (by omega) (by omega) (by omega) (by omega) (by omega) (by omega)).mono ?_
        rintro e w4 ⟨rfl, ho4, ht4, hc4⟩
        have hi4 := hm.i.only ho4 (by simp; omega)
        have hoo4 := hm.o.only ho4 (by simp; omega)
        have bel4 := hm.bel.trans (ho4.to_below (B := base) (by omega) (by intro x hx; simp at hx; omega))
        have hsz4 := ho4.size
        go_wp2_with fail
        refine region_quiet_tail 9 (by kernel_rfl) (by kernel_rfl) ?_
        simp only [List.take_succ_cons, List.take_zero, List.drop_succ_cons, List.drop_zero]
        repeat (quiet_step (fail))
        refine wpQuiet_nil ?_
        intro _ hw'
        obtain ⟨nq, rfl⟩ := hw'
        go_wp2_with fail
        have od : Only [] w4 (w4.drewN nq) := (Only.refl _ _).drewN nq
        refine (xor_any ⟨gK, 0, none⟩ ⟨g, 0, none⟩ _ _ (E rk iv) (blk d 0) (w4.drewN nq) (ht4.src0 (by omega)) (hi4.srcb (Lib.hid rfl) hlt2) (by show gK < w4.heap.size; omega) (by show g < w4.heap.size; omega)).mono ?_
        rintro e wx ⟨gx, rfl, hgx, hx, hox'⟩
        have hox := od.then_ hox' (by simp)
        have hcx := hc4.only hox (by simp) (by simp) (by simp) (by simp)
        have hix := hi4.only hox (by simp)
        have hoo := hoo4.only hox (by simp)
        have hKx := ht4.only hox (by simp)
        have belx := bel4.trans (hox.to_below (B := base) (by omega) (by simp))
        have hszx := hox.size
        have hgx1 : w4.heap.size ≤ gx := hgx
        clear hox hox' od hgx
        go_wp2_with (refine copy16 rfl (.tmp 73) (.tmp 74) rfl w1.heap.size 0 (16 * k) (16 * k) ⟨gx, 0, none⟩ 16 _ _ rfl rfl hoo (by omega) (hx.src0 (by omega)) ?_; intro w6 ho6 hd6)
        go_roundw
        case rel =>
          exact ⟨0 + 1, gx, by omega, by go_num, rfl, ⟨_, hx.only ho6 (by simp; omega), fun _ => rfl⟩, by omega, ⟨_, hKx.only ho6 (by simp; omega)⟩, belx.trans (ho6.to_below (B := base) (by omega) (by intro x hx; simp at hx; omega)), hcx.only ho6 (by simp; omega) (by simp; omega) (by simp; omega) (by simp; omega), hix.only ho6 (by simp; omega), hd6.congr (upto_next (Lib.hid rfl) hq)⟩
        case measure => simp [intOf]; omega
      · as_aux_lemma =>
        have z1 : ¬ ((j : Int) = 0) := by omega
        have z2 : ((j : Int) == 0) = false := by simp; omega
        have hq : Eq16 (xb (E rk (cfbS rk iv d j)) (blk d j)) (O j) := fun _ _ => by rw [HO.out]; rfl
        go_wp2_with fail
        refine (encr_any (w1.heap.size + 1) a gk gb gr gK _ ⟨gi, 0, none⟩ (cfbS rk iv d j) rk wr hm.c (by omega) hK2 ((hvo (by omega) ▸ hv).src0 (by omega)) (cfbS_bf hVf j) (ht.of_below hm.bel h7) hv.lt (by omega) (by omega) (by omega) (by omega) (by show gi ≠ gb; omega)).mono ?_
        rintro e w4 ⟨rfl, ho4, ht4, hc4⟩
        have hi4 := hm.i.only ho4 (by simp; omega)
        have hoo4 := hm.o.only ho4 (by simp; omega)
        have bel4 := hm.bel.trans (ho4.to_below (B := base) (by omega) (by intro x hx; simp at hx; omega))
        have hsz4 := ho4.size
        go_wp2_with fail
        refine region_quiet_tail 9 (by kernel_rfl) (by kernel_rfl) ?_
        simp only [List.take_succ_cons, List.take_zero, List.drop_succ_cons, List.drop_zero]
        repeat (quiet_step (fail))
        refine wpQuiet_nil ?_
        intro _ hw'
        obtain ⟨nq, rfl⟩ := hw'
        go_wp2_with fail
        have od : Only [] w4 (w4.drewN nq) := (Only.refl _ _).drewN nq
        refine (xor_any ⟨gK, 0, none⟩ ⟨g, p, none⟩ _ _ (E rk (cfbS rk iv d j)) (blk d j) (w4.drewN nq) (ht4.src0 (by omega)) (hi4.srcb HP hlt2) (by show gK < w4.heap.size; omega) (by show g < w4.heap.size; omega)).mono ?_
        rintro e wx ⟨gx, rfl, hgx, hx, hox'⟩
        have hox := od.then_ hox' (by simp)
        have hcx := hc4.only hox (by simp) (by simp) (by simp) (by simp)
        have hix := hi4.only hox (by simp)
        have hoo := hoo4.only hox (by simp)
        have hKx := ht4.only hox (by simp)
        have belx := bel4.trans (hox.to_below (B := base) (by omega) (by simp))
        have hszx := hox.size
        have hgx1 : w4.heap.size ≤ gx := hgx
        clear hox hox' od hgx
        go_wp2_with (refine copy16 rfl (.tmp 96) (.tmp 97) rfl w1.heap.size p (16 * k - p) (16 * k) ⟨gx, 0, none⟩ 16 _ _ rfl rfl hoo (by omega) (hx.src0 (by omega)) ?_; intro w6 ho6 hd6)
        go_roundw
        case rel =>
          exact ⟨j + 1, gx, by omega, by go_num, rfl, ⟨_, hx.only ho6 (by simp; omega), fun _ => rfl⟩, by omega, ⟨_, hKx.only ho6 (by simp; omega)⟩, belx.trans (ho6.to_below (B := base) (by omega) (by intro x hx; simp at hx; omega)), hcx.only ho6 (by simp; omega) (by simp; omega) (by simp; omega) (by simp; omega), hix.only ho6 (by simp; omega), hd6.congr (upto_next HP hq)⟩
        case measure => simp [intOf]; omega
    · as_aux_lemma =>
      obtain rfl : j = k := by omega
      go_wp2_with fail
      go_ret2
      refine ⟨w1.heap.size, 16 * j, by rw [HK.out]; rfl, by omega, ?_, hm.bel⟩
      rw [HK.out, ← HO.out]
      exact hm.o.congr fun p hp => upto_all O j p hp
end Go.Proofs.YtkfagcpboehjjaaDoor
