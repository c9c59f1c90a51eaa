/- The package's decryption by GCM over whole blocks, exactly. No condition but where things lie. -/
import Derived.Test.YtkfagcpboehjjaaDoorGce
namespace Go.Proofs.YtkfagcpboehjjaaDoor
set_option maxRecDepth 100000
open Go.RowKit

section
variable {w wr w' : World} {gI B a gk g gr gE gC gY gH gy gT n : Nat} {rk y hk F F' : Nat → Int}
/-- The places, one behind the other. -/
structure DL (w : World) (B a gk g gr gE gC gY gH gy gT : Nat) : Prop where
  h : w.heap.size ≤ gH
  y0 : gy < gE
  hy : gH < gE
  eb : gE < B
  ba : B ≤ a ∧ B ≤ gk ∧ B ≤ g ∧ B ≤ gr
  at_ : a < gT ∧ gk < gT ∧ g < gT ∧ gr < gT
  ty : gT < gY
  yc : gY < gC
theorem EW.encrd (hm : EW w wr gI B a gk g gr gE gC gY gH gy n rk y hk F) (hl : DL w B a gk g gr gE gC gY gH gy gT) (h4 : Only [g, gr, gE] wr w') (hE : ∃ o, ArrB w' gE 16 o) (hc : Ciph w' B a gk g gr rk) : EW w w' gI B a gk g gr gE gC gY gH gy n rk y hk F := by
  obtain ⟨l1, l2, l3, l4, l5, l6, l7, l8⟩ := hl
  exact ⟨hm.o.then_ h4 (by intro x hx hl; simp at hx ⊢; omega), hc, hE, hm.x.only h4 (by simp; omega), hm.yv.only h4 (by simp; omega), hm.y0.only h4 (by simp; omega), hm.hh.only h4 (by simp; omega)⟩
theorem EW.nextd {w5 : World} (hm : EW w wr gI B a gk g gr gE gC gY gH gy n rk y hk F) (hl : DL w B a gk g gr gE gC gY gH gy gT) (h5 : Only [] wr w5) (h6 : Only [gC] w5 w') (hx : ArrB w' gC (16 * n) F') : EW w w' gI B a gk g gr gE gC gY gH gy n rk y hk F' := by
  obtain ⟨l1, l2, l3, l4, l5, l6, l7, l8⟩ := hl
  have hs := hm.o.size
  exact ⟨(hm.o.then_ h5 (by simp)).then_ h6 (by intro x hx hl; simp at hx ⊢; omega), (hm.c.only h5 (by simp) (by simp) (by simp) (by simp)).only h6 (by simp; omega) (by simp; omega) (by simp; omega) (by simp; omega), hm.e.imp fun _ h => (h.only h5 (by simp)).only h6 (by simp; omega), hx,
    (hm.yv.only h5 (by simp)).only h6 (by simp; omega), (hm.y0.only h5 (by simp)).only h6 (by simp; omega), (hm.hh.only h5 (by simp)).only h6 (by simp; omega)⟩
end

set_option maxHeartbeats 16000000 in
theorem gcmd_any (K : Addr) (ck gI cI : Nat) (ap : Addr) (n cp : Nat) (A : Option Addr) (na ca base : Nat) (kf p a0 : Nat → Int) (l : List Int) (w : World) (hK : Src w K 16 kf) (hKf : Bf kf) (hKl : K.block < w.heap.size) (hKI : K.block ≠ gI)
    (ht : Tabs w) (h7 : 7 ≤ w.heap.size) (hg7 : 7 ≤ gI) (hI : OwnB w base (.slice (some ⟨gI, 0, none⟩) 12 cI) l) (hI12 : l.length = 12) (hIb : Byl l) (hI255 : ∀ j, j < 12 → lF l j ≠ 255) (hbase : base ≤ w.heap.size)
    (hP : Src w ap (16 * n) p) (hPl : ap.block < w.heap.size) (hPI : ap.block ≠ gI) (hcp : 16 * n ≤ cp) (hn : n ≤ 31) (hn0 : 0 < n)
    (hA : Reads w w.heap.size 1 A (16 * na) ((fst (16 * na) a0).map (Value.int .u8))) (hAI : ∀ ad, A = some ad → ad.block ≠ gI) (hca : 16 * na ≤ ca) (hna : na ≤ 31) :
    Calls Tryd.prog 52 #[.slice (some K) 16 ck, .slice (some ⟨gI, 0, none⟩) 12 cI, .slice (some ap) (16 * n : Nat) cp, .slice A (16 * na : Nat) ca] w (fun e w' => ∃ gC gT, e = .returned (.tuple #[.slice (some ⟨gC, 0, none⟩) (16 * n) (16 * n), .slice (some ⟨gT, 0, none⟩) 16 16]) ∧ w.heap.size ≤ gC ∧ w.heap.size ≤ gT ∧
      ArrB w' gC (16 * n) (pick (gO (keyF kf) (lF (l ++ [0, 0, 0, 1])) p)) ∧ ArrB w' gT 16 (xb (E (keyF kf) (lF (l ++ [0, 0, 0, 1]))) (ghash (E (keyF kf) (fun _ => 0)) na n a0 p)) ∧ Only [gI] w w') := by
  have m1 := makeB16
  have cc0 := calcD_any n
  rw [show mK n = n from if_neg (by omega), show vK n = 128 from if_neg (by omega)] at cc0
  have e2 : IntKind.i64.wrap (((16 * n : Nat) : Int).tdiv 16) = (n : Int) := by rw [IntWalk.i64_quo _ _ (by omega)]; omega
  have e4 : ((16 * n : Nat) : Int).tmod 16 = 0 := by rw [Int.tmod_eq_emod_of_nonneg (by omega)]; omega
  obtain ⟨n1, f1, hn1⟩ : ∃ n1 : Nat, IntKind.i64.wrap ((n : Int) + 1) = (n1 : Int) ∧ n1 = n + 1 := ⟨n + 1, by rw [IntWalk.i64_in _ (by omega)]; omega, rfl⟩
  have f2 := IntWalk.i64_in (16 * (n1 : Int)) (by omega)
  have hmk1 := make_any n1 (by omega)
  have hmk := make_any n (by omega)
  obtain ⟨np, d1, HNP⟩ := drop1 n hn0 (by omega)
  obtain ⟨y, HY⟩ : ∃ y, Hid (y = lF (l ++ [0, 0, 0, 1])) := ⟨_, Lib.hid rfl⟩
  have hyf : Bf y := by
    rw [HY.out]
    exact lF_bf (fun x hx => by
      rcases List.mem_append.1 hx with h | h
      · exact hIb x h
      · simp at h; omega)
  have hy15 : y 15 = 1 := by rw [HY.out]; unfold lF; rw [List.getD_eq_getElem?_getD, List.getElem?_append_right (by omega), hI12]; rfl
  have hy255 : ∀ j, j < 15 → y j ≠ 255 := fun j hj => by
    rw [HY.out]
    by_cases h : j < 12
    · have := hI255 j h
      unfold lF at this ⊢
      rwa [List.getD_eq_getElem?_getD, List.getElem?_append_left (by omega), ← List.getD_eq_getElem?_getD]
    · unfold lF
      rw [List.getD_eq_getElem?_getD, List.getElem?_append_right (by omega), hI12]
      rcases (show j = 12 ∨ j = 13 ∨ j = 14 by omega) with rfl | rfl | rfl <;> decide
  have hnp := HNP.out
  obtain ⟨qn, QNF, QN⟩ := place_pl n n1 n1 (16 * n1) (by omega) (by omega) (by omega) (Nat.le_refl _)
  obtain ⟨lo, LOF, LO⟩ : ∃ lo : Nat, Hid (IntKind.i64.wrap ((np : Int) * 16) = (lo : Int) ∧ (lo : Int) ≤ 16 * (n : Int) ∧ 16 * n - lo = 16 ∧ ¬ cp = lo ∧ ¬ 16 * n = lo ∧ lo ≤ 16 * n ∧ (16 * (n : Int) - (lo : Int)).toNat = 16) ∧ Hid (lo = 16 * np) :=
    ⟨16 * np, Lib.hid ⟨by rw [IntWalk.i64_in _ (by omega)]; omega, by omega, by omega, by omega, by omega, by omega, by omega⟩, Lib.hid rfl⟩
  have HL12 := Lib.hid hI12
  have HN1 := Lib.hid hn1
  clear hI12 hnp hn1
  go_enter Tryd.func52, Tryd.ntmps52
  go_wp2_with fail
  refine (geth_any K ck kf w hK hKf hKl ht h7).mono ?_
  rintro e w1 ⟨gH, rfl, hgH, hhH, hoH⟩
  go_wp2_with fail
  refine (gety_any (.slice (some ⟨gH, 0, none⟩) 16 16) base gI cI l w1 (hI.below hoH.to_below' (Nat.le_refl _)) HL12.out (Nat.le_trans hbase hoH.size)).mono ?_
  rintro e w2 ⟨gy, cy, rfl, hgy, hhy, hoY⟩
  rw [← HY.out] at hhy
  have hIl : gI < w.heap.size := by
    obtain ⟨g', c', e1, _, h2, _⟩ := hI.form (by rw [HL12.out]; decide)
    injection e1 with e1 _ _
    injection e1 with e1
    injection e1 with e1
    omega
  have s1 := hoH.size
  have s2 := hoY.size
  have ha3 : Only [] w2 (w2.alloc (.cells (ZB 16) 5)) := (Only.refl _ _).alloc _
  have hE3 := ArrB.new w2 16
  have hoT : Only [gI] w (w2.alloc (.cells (ZB 16) 5)) := ((hoH.mono (S' := [gI]) (by simp)).then_ hoY (fun x hx _ => hx)).then_ ha3 (by simp)
  have hyl := hhy.lt
  have hHl := (hhH.only hoY (by simp; omega)).lt
  have hHT := (hhH.only hoY (by simp; omega)).only ha3 (by simp)
  have hYT := hhy.only ha3 (by simp)
  have hKT := hK.only hoT hKl (by simpa using hKI)
  have htT : Tabs (w2.alloc (.cells (ZB 16) 5)) := ht.only hoT h7 (by intro k hk; simp at hk; omega)
  have sT := hoT.size
  clear hhH hhy hoH hoY ha3 hI
  go_wp2_with fail
  refine (newc_any K ck kf (w2.alloc (.cells (ZB 16) 5)) hKT hKf htT (by omega) (by omega)).mono ?_
  rintro e w5 ⟨a, gk, g, gr, rfl, hcip, hoc⟩
  obtain ⟨r1, r2, r3, r4⟩ := hcip.lt
  obtain ⟨q1, q2, q3, q4⟩ := hcip.lo
  have sc := hoc.size
  have hB2 : (w2.alloc (.cells (ZB 16) 5)).heap.size = w2.heap.size + 1 := by simp
  rw [hB2] at hcip q1 q2 q3 q4 sc
  have hE5 := hE3.only hoc (by simp)
  have hH5 := hHT.only hoc (by simp)
  have hY5 := hYT.only hoc (by simp)
  have hoT5 := hoT.then_ hoc (by simp)
  have ht5 : Tabs w5 := ht.only hoT5 h7 (by intro k hk; simp at hk; omega)
  clear hHT hYT hKT htT hoT hoc hE3 sT hB2
  go_wp2_with fail
  refine (encr_any (w2.heap.size + 1) a gk g gr w2.heap.size cy ⟨gy, 0, none⟩ y (keyF kf) w5 hcip (by omega) ⟨_, hE5⟩ (hY5.src0 (Nat.le_refl _)) hyf ht5 hY5.lt (by omega) (by omega) (by omega) (by omega) (by show gy ≠ g; omega)).mono ?_
  rintro e w6 ⟨rfl, ho6, ht6, hc6⟩
  have hoT6 : Only [gI] w w6 := hoT5.then_ ho6 (by intro x hx hl; simp at hx ⊢; omega)
  have hH6 := hH5.only ho6 (by simp; omega)
  have hY6 := hY5.only ho6 (by simp; omega)
  have s6 := ho6.size
  clear hoT5 ho6 hH5 hY5 hE5 ht5 hcip
  have hP6 : Src w6 ap (16 * n) p := hP.only hoT6 hPl (by simpa using hPI)
  have hPR : Reads w6 w6.heap.size 1 (some ap) (16 * n) ((fst (16 * n) p).map (Value.int .u8)) := ⟨by simp [fst_length], fun _ => ⟨ap, rfl, Nat.lt_of_lt_of_le hPl hoT6.size, fun j u hu => by
    have hj : j < 16 * n := by
      rcases Nat.lt_or_ge j (16 * n) with h1 | h1
      · exact h1
      · rw [List.getElem?_eq_none (by simp [fst_length]; exact h1)] at hu; cases hu
    rw [hP6 j hj]
    simpa [fst, hj] using hu⟩⟩
  have hgs := ghash_any ⟨gH, 0, none⟩ 16 A na ca (some ap) n cp (E (keyF kf) (fun _ => 0)) a0 p w6 (hH6.src0 (Nat.le_refl _)) hH6.lt (hA.only1 hoT6 (by simpa using hAI)) hPR hna hn hn0 hca hcp
  go_wp2_with fail
  refine hgs.mono ?_
  rintro e w8 ⟨gh, oh, cg, rfl, hgh, hsh, lgh, hcg, hog⟩
  have ht8 := ht6.only hog (by simp)
  go_wp2_with fail
  refine (add_any ⟨w2.heap.size, 0, none⟩ ⟨gh, oh, none⟩ _ _ _ _ w8 (ht8.src0 (Nat.le_refl _)) hsh ht8.lt lgh).mono ?_
  rintro e w9 ⟨gT, rfl, hgT, hT, hot⟩
  have s8 := hog.size
  have s9 := hot.size
  have hc9 := (hc6.only hog (by simp) (by simp) (by simp) (by simp)).only hot (by simp) (by simp) (by simp) (by simp)
  have hE9 := ht8.only hot (by simp)
  have hH9 := (hH6.only hog (by simp)).only hot (by simp)
  have hY9 := (hY6.only hog (by simp)).only hot (by simp)
  have hoT9 := (hoT6.then_ hog (by simp)).then_ hot (by simp)
  obtain ⟨TV, HTV⟩ : ∃ TV, Hid (TV = xb (E (keyF kf) y) (ghash (E (keyF kf) (fun _ => 0)) na n a0 p)) := ⟨_, Lib.hid rfl⟩
  rw [← HTV.out] at hT
  have gTl := hT.lt
  clear hc6 ht8 ht6 hH6 hY6 hoT6 hog hot hgs hP6 hPR hsh lgh hcg hgh
  go_wp2_with (go_at_call 63; refine (msb_any ⟨gT, 0, none⟩ 16 w9 (Nat.le_refl _)).mono ?_; rintro e w' ⟨rfl, rfl⟩)
  refine (cc0 _).mono ?_
  rintro e w' ⟨rfl, rfl⟩
  have ha10 : Only [] w9 (w9.alloc (.cells (madeCells #[.int .u8 0] (16 * n1)) 5)) := (Only.refl _ _).alloc _
  have hY10 := hY9.only ha10 (by simp)
  have hin := incr_any n1 ⟨gy, 0, none⟩ cy y _ (hY10.src0 (Nat.le_refl _)) hyf hY10.lt (by rw [HN1.out]; omega) (by rw [HN1.out]; omega) hy15 hy255
  go_wp2_with (go_at_call 61; refine hin.mono ?_; rintro e w4 ⟨gY, rfl, hgY, hhY, hoi⟩)
  have hgY' : w9.heap.size + 1 ≤ gY := by simpa using hgY
  have haP : Only [] w4 (w4.alloc (.cells (madeCells #[.int .u8 0] (16 * n)) 5)) := (Only.refl _ _).alloc _
  have hC0 := ArrB.made w4 (16 * n)
  have hYl := hhY.lt
  obtain ⟨O, HO⟩ : ∃ O, Hid (O = gO (keyF kf) y p) := ⟨_, Lib.hid rfl⟩
  rw [HN1.out] at hhY
  have hm0 : EW w (w4.alloc (.cells (madeCells #[.int .u8 0] (16 * n)) 5)) gI (w2.heap.size + 1) a gk g gr w2.heap.size w4.heap.size gY gH gy n (keyF kf) y (E (keyF kf) (fun _ => 0)) (upto O 0) :=
    ⟨((hoT9.then_ ha10 (by simp)).then_ hoi (by simp)).then_ haP (by simp), ((hc9.only ha10 (by simp) (by simp) (by simp) (by simp)).only hoi (by simp) (by simp) (by simp) (by simp)).only haP (by simp) (by simp) (by simp) (by simp),
     ⟨_, ((hE9.only ha10 (by simp)).only hoi (by simp)).only haP (by simp)⟩, hC0.congr (fun p _ => upto_zero O p), hhY.only haP (by simp), (hY10.only hoi (by simp)).only haP (by simp), ((hH9.only ha10 (by simp)).only hoi (by simp)).only haP (by simp)⟩
  have hT0 := ((hT.only ha10 (by simp)).only hoi (by simp)).only haP (by simp)
  have hel : DL w (w2.heap.size + 1) a gk g gr w2.heap.size w4.heap.size gY gH gy gT := ⟨hgH, hyl, hHl, by omega, ⟨q1, q2, q3, q4⟩, ⟨by omega, by omega, by omega, by omega⟩, by omega, hYl⟩
  have hC5 : w.heap.size ≤ w4.heap.size ∧ w.heap.size ≤ gT := by omega
  clear hc9 hE9 hC0 hhY hH9 hY9 hoT9 ha10 hY10 hoi haP hin hT s1 s2 s6 s8 s9 r1 r2 r3 r4 q1 q2 q3 q4 sc hHl hYl hgH hgY hgY' hyl hgy gTl hgT
  go_wp2_with fail
  clear e2 e4 f1 f2 hmk1 hmk cc0 m1
  go_loopw [20] (fun i wr => ∃ k k1 : Nat, k1 ≤ n1 ∧ Hid (k1 = k + 1) ∧ i = .int .i64 k1 ∧ ArrB wr gT 16 TV ∧ EW w wr gI (w2.heap.size + 1) a gk g gr w2.heap.size w4.heap.size gY gH gy n (keyF kf) y (E (keyF kf) (fun _ => 0)) (upto O k)) (fun i _ => n1 - (intOf i).toNat)
  case atStart => exact ⟨0, 1, by have := HN1.out; clear d1; omega, Lib.hid rfl, rfl, hT0, hm0⟩
  case round =>
    clear hm0 hT0
    obtain ⟨k, k1, hk, HK, rfl, hT, hm⟩ := hrel
    obtain ⟨z1, z2, z3, z4, ⟨z5, z6, z7, z8⟩, ⟨z9, z10, z11, z12⟩, z13, z14⟩ := hel
    have hel : DL w (w2.heap.size + 1) a gk g gr w2.heap.size w4.heap.size gY gH gy gT := ⟨z1, z2, z3, z4, ⟨z5, z6, z7, z8⟩, ⟨z9, z10, z11, z12⟩, z13, z14⟩
    by_cases hlt : k1 ≤ n
    · as_aux_lemma =>
      have hK' := HK.out
      have l1 : (k1 : Int) ≤ (n : Int) := by clear d1; omega
      have hN1' := HN1.out
      have n40 : n1 ≤ 40 := by clear d1; omega
      obtain ⟨q, QF, HQ⟩ := place_pl k1 n1 n1 (16 * n1) (by clear d1; omega) (by clear d1; omega) (by clear d1; omega) (Nat.le_refl _)
      obtain ⟨pp, PF, HP⟩ := place_pl k n n cp (by clear d1; omega) (by clear d1; omega) (by clear d1; omega) hcp
      have e5 : IntKind.i64.wrap ((k1 : Int) - 1) = (k : Int) := by rw [IntWalk.i64_in _ (by clear d1; omega)]; clear d1; omega
      have hQ' := HQ.out
      have hP' := HP.out
      have hsrc : Src wr ⟨gY, q, none⟩ 16 (blk (ctrB y) k1) := (hm.yv.src (o := q) (m := 16) (by clear d1 e5; omega)).congr fun j hj => by
        rw [ctr16 (show k1 ≤ 40 by clear d1 e5; omega) j hj, hQ']; rfl
      have lY : gY < wr.heap.size := hm.yv.lt
      have hPk := hP.part (o := pp) (m := 16) (by clear d1 e5; omega)
      have hk40 : k1 ≤ 40 := by clear d1 e5; omega
      clear hK' hN1' hQ' hP'
      obtain ⟨q1, q2, q3, q4, q5, q6, q7, q8, q9, q10, q11, q12⟩ := QF
      obtain ⟨p1, p2, p3, p4, p5, p6, p7, p8, p9, p10, p11, p12⟩ := PF
      go_wp2_with fail
      refine (encr_any (w2.heap.size + 1) a gk g gr w2.heap.size (16 * n1 - q) ⟨gY, q, none⟩ (blk (ctrB y) k1) (keyF kf) wr hm.c (by clear d1 e5 q1 q2 p1 p2; omega) hm.e hsrc (ctr_bf hyf hy15 k1) (hm.tabs ht h7 hg7) lY (by clear d1 e5 q1 q2 p1 p2; omega) (by clear d1 e5 q1 q2 p1 p2; omega) (by clear d1 e5 q1 q2 p1 p2; omega) (by clear d1 e5 q1 q2 p1 p2; omega) (by show gY ≠ g; clear d1 e5 q1 q2 p1 p2; omega)).mono ?_
      rintro e w5' ⟨rfl, ho4, ht4, hc4⟩
      rw [E_congr (ctr16 hk40)] at ht4
      have hm4 := hm.encrd hel ho4 ⟨_, ht4⟩ hc4
      have hT4 := hT.only ho4 (by simp; clear d1 e5 q1 q2 p1 p2; omega)
      clear ho4 hc4 hm hsrc lY
      go_wp2_with fail
      have hO0 : Only [] w5' w5'.drew := (Only.refl [] w5').drew
      have hP4 : Src w5' (ap.add pp) 16 (fun j => p (pp + j)) := hPk.only hm4.o (by rw [block_of_add]; exact hPl) (by rw [block_of_add]; simpa using hPI)
      have lP : (ap.add pp).block < w5'.heap.size := by rw [block_of_add]; exact Nat.lt_of_lt_of_le hPl hm4.o.size
      have lE := ht4.lt
      go_region_held3 (fun _ => True) (trivial)
        (first
          | (refine step_copy16 rfl (.tmp 95) (.tmp 106) rfl w4.heap.size pp (16 * n - pp) (16 * n) 16 ⟨g5, 0, none⟩ _ _ rfl rfl hx5 p5 (hx4.src0 (Nat.le_refl _)) ?_; intro w6 ho6 hx6)
          | (go_at_call 62; refine (add_any (ap.add pp) ⟨w2.heap.size, 0, none⟩ _ _ _ _ w5'.drew (hP4.only hO0 lP (by simp)) ((ht4.src0 (Nat.le_refl _)).only hO0 lE (by simp)) lP lE).mono ?_; rintro e w7 ⟨g5, rfl, hg5, hx4, ho5'⟩; have ho5 := hO0.trans ho5'; have hx5 := hm4.x.only ho5 (by simp)))
      go_wp2_with fail
      have hn6 := hm4.nextd hel ho5 ho6 (hx6.congr (upto_next (O := O) HP (fun j hj => by
        rw [HO.out]
        have h1 := HP.out
        have h2 := HK.out
        unfold gO
        rw [← h2]
        have h3 : (fun j => p (pp + j)) = blk p k := by unfold blk; rw [h1]
        rw [h3])))
      have hT6 := (hT4.only ho5 (by simp)).only ho6 (by simp; clear d1 e5 q1 q2 p1 p2; omega)
      go_roundw
      case rel => exact ⟨k + 1, k1 + 1, by have := HN1.out; clear d1 e5 q1 q2 p1 p2; omega, Lib.hid (by have := HK.out; clear d1 e5 q1 q2 p1 p2; omega), by go_num, hT6, hn6⟩
      case measure => have := HN1.out; simp [intOf]; clear d1 e5 q1 q2 p1 p2; omega
    · as_aux_lemma =>
      have l1 : ¬ (k1 : Int) ≤ (n : Int) := by clear d1; omega
      have hkn : k = n := by have := HK.out; have := HN1.out; clear d1; omega
      subst hkn
      clear hlt hk
      have hNP' := HNP.out
      have hN1' := HN1.out
      have hQ' := QN.out
      have hLO' := LO.out
      have hsrc : Src wr ⟨gY, qn, none⟩ 16 (blk (ctrB y) k) := (hm.yv.src (o := qn) (m := 16) (by clear d1; omega)).congr fun j hj => by
        rw [ctr16 (show k ≤ 40 by clear d1; omega) j hj, hQ']; rfl
      have lY : gY < wr.heap.size := hm.yv.lt
      have hPk := hP.part (o := lo) (m := 16) (by clear d1; omega)
      clear hNP' hN1' hQ' hLO'
      obtain ⟨lo1, lo2, lo3, lo4, lo5, lo6, lo7⟩ := LOF.out
      obtain ⟨qn1, qn2, qn3, qn4, qn5, qn6, qn7, qn8, qn9, qn10, qn11, qn12⟩ := QNF
      go_wp2_with fail
      refine (encr_any (w2.heap.size + 1) a gk g gr w2.heap.size (16 * n1 - qn) ⟨gY, qn, none⟩ (blk (ctrB y) k) (keyF kf) wr hm.c (by clear d1 qn1 qn2 lo1; omega) hm.e hsrc (ctr_bf hyf hy15 k) (hm.tabs ht h7 hg7) lY (by clear d1 qn1 qn2 lo1; omega) (by clear d1 qn1 qn2 lo1; omega) (by clear d1 qn1 qn2 lo1; omega) (by clear d1 qn1 qn2 lo1; omega) (by show gY ≠ g; clear d1 qn1 qn2 lo1; omega)).mono ?_
      rintro e w5' ⟨rfl, ho4, ht4, hc4⟩
      rw [E_congr (ctr16 (show k ≤ 40 by clear d1 qn1 qn2 lo1; omega))] at ht4
      have hm4 := hm.encrd hel ho4 ⟨_, ht4⟩ hc4
      have hT4 := hT.only ho4 (by simp; clear d1 qn1 qn2 lo1; omega)
      clear ho4 hc4 hm hsrc lY
      go_wp2_with (go_at_call 63; refine (msb_any ⟨w2.heap.size, 0, none⟩ 16 w5' (Nat.le_refl _)).mono ?_; rintro e w' ⟨rfl, rfl⟩)
      have hO0 : Only [] w5' w5'.drew := (Only.refl [] w5').drew
      have hP4 : Src w5' (ap.add lo) 16 (fun j => p (lo + j)) := hPk.only hm4.o (by rw [block_of_add]; exact hPl) (by rw [block_of_add]; simpa using hPI)
      have lP : (ap.add lo).block < w5'.heap.size := by rw [block_of_add]; exact Nat.lt_of_lt_of_le hPl hm4.o.size
      have lE := ht4.lt
      have lo8 : lo + 16 ≤ 16 * k := by clear d1 qn1 qn2 lo1; omega
      go_region_held3 (fun _ => True) (trivial)
        (first
          | (refine step_copy16 rfl (.tmp 125) (.tmp 132) rfl w4.heap.size lo _ (16 * k) 16 ⟨g5, 0, none⟩ _ _ rfl rfl hx5 lo8 (hx4.src0 (Nat.le_refl _)) ?_; intro w6 ho6 hx6)
          | (go_at_call 62; refine (add_any (ap.add lo) ⟨w2.heap.size, 0, none⟩ _ _ _ _ w5'.drew (hP4.only hO0 lP (by simp)) ((ht4.src0 (Nat.le_refl _)).only hO0 lE (by simp)) lP lE).mono ?_; rintro e w7 ⟨g5, rfl, hg5, hx4, ho5'⟩; have ho5 := hO0.trans ho5'; have hx5 := hm4.x.only ho5 (by simp)))
      have hT6 := (hT4.only ho5 (by simp)).only ho6 (by simp; clear d1 qn1 qn2 lo1; omega)
      have hmf := hm4.nextd hel ho5 ho6 hx6
      have hCf : ArrB w6 w4.heap.size (16 * k) (pick O) := hx6.congr fun x hx => by
        have h1 := LO.out
        have h2 := HNP.out
        by_cases h3 : lo ≤ x ∧ x < lo + 16
        · rw [if_pos h3, HO.out]
          clear d1 qn1 qn2 lo1
          unfold pick gO
          rw [show x / 16 = np by omega, show x % 16 = x - lo by omega, show np + 1 = k by omega]
          unfold xb blk
          rw [h1]
        · rw [if_neg h3]
          exact upto_all O k x hx
      go_wp2_with fail
      go_ret2
      rw [← HY.out, ← HO.out, ← HTV.out]
      exact ⟨_, _, rfl, hC5.1, hC5.2, hCf, hT6, hmf.o⟩
end Go.Proofs.YtkfagcpboehjjaaDoor
