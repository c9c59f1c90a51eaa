/- The package's encryption by GCM over whole blocks, exactly. No condition but where things lie. -/
import Derived.Test.YtkfagcpboehjjaaDoorGha
import Derived.Test.YtkfagcpboehjjaaDoorGpa
namespace Go.Proofs.YtkfagcpboehjjaaDoor
set_option maxRecDepth 100000
open Go.RowKit

/-- Block k of what comes out. -/
def gO (rk y p : Nat → Int) (k : Nat) : Nat → Int := xb (blk p k) (E rk (blk (ctr y) (k + 1)))
theorem Reads.only1 {w w' : World} {A : Option Addr} {n : Nat} {xs : List Value} {S : List Nat} (h : Reads w w.heap.size 1 A n xs) (ho : Only S w w') (hn : ∀ ad, A = some ad → ad.block ∉ S) : Reads w' w'.heap.size 1 A n xs :=
  ⟨h.1, fun h0 => by
    obtain ⟨ad, e, hb, hc⟩ := h.2 h0
    exact ⟨ad, e, Nat.lt_of_lt_of_le hb ho.size, fun j u hu => (ho.cell (by rw [block_of_add]; exact hb) (by rw [block_of_add]; exact hn ad e)).trans (hc j u hu)⟩⟩
/-- The counters, as far as there are any. -/
def ctrB (y : Nat → Int) (p : Nat) : Int := if p < 16 * 41 then ctr y p else 0
theorem ctr_bf {y : Nat → Int} (hy : Bf y) (h15 : y 15 = 1) (k : Nat) : Bf (blk (ctrB y) k) := fun j => by
  unfold blk ctrB ctr
  have := hy ((16 * k + j) % 16)
  split
  · split <;> omega
  · omega
theorem ctr16 {y : Nat → Int} {k : Nat} (hk : k ≤ 40) : Eq16 (blk (ctrB y) k) (blk (ctr y) k) := fun j hj => by
  unfold blk ctrB
  rw [if_pos (by omega)]

/-- In the midst. -/
structure EW (w wr : World) (gI B a gk g gr gE gC gY gH gy n : Nat) (rk y hk F : Nat → Int) : Prop where
  o : Only [gI] w wr
  c : Ciph wr B a gk g gr rk
  e : ∃ o, ArrB wr gE 16 o
  x : ArrB wr gC (16 * n) F
  yv : ArrB wr gY (16 * (n + 1)) (ctr y)
  y0 : ArrB wr gy 16 y
  hh : ArrB wr gH 16 hk
section
variable {w wr w' : World} {gI B a gk g gr gE gC gY gH gy n : Nat} {rk y hk F F' : Nat → Int}
theorem EW.tabs (h : EW w wr gI B a gk g gr gE gC gY gH gy n rk y hk F) (ht : Tabs w) (h7 : 7 ≤ w.heap.size) (hg : 7 ≤ gI) : Tabs wr := ht.only h.o h7 (by intro k hk; simp at hk; omega)
/-- The places, one behind the other. -/
structure EL (w : World) (B a gk g gr gE gC gY gH gy : Nat) : Prop where
  h : w.heap.size ≤ gH
  y0 : gy < gY
  hy : gH < gY
  yb : gY < B
  ba : B ≤ a ∧ B ≤ gk ∧ B ≤ g ∧ B ≤ gr
  ea : a < gE ∧ gk < gE ∧ g < gE ∧ gr < gE
  ce : gE < gC
/-- A block is encrypted into the row of work. -/
theorem EW.encr (hm : EW w wr gI B a gk g gr gE gC gY gH gy n rk y hk F) (hl : EL w B a gk g gr gE gC gY gH gy) (h4 : Only [g, gr, gE] wr w') (hE : ∃ o, ArrB w' gE 16 o) (hc : Ciph w' B a gk g gr rk) : EW w w' gI B a gk g gr gE gC gY gH gy n rk y hk F := by
  obtain ⟨l1, l2, l3, l4, l5, l6, l7⟩ := hl
  exact ⟨hm.o.then_ h4 (by intro x hx hl; simp at hx ⊢; omega), hc, hE, hm.x.only h4 (by simp; omega), hm.yv.only h4 (by simp; omega), hm.y0.only h4 (by simp; omega), hm.hh.only h4 (by simp; omega)⟩
/-- A new block is made; the row that comes out turns. -/
theorem EW.next {w5 : World} (hm : EW w wr gI B a gk g gr gE gC gY gH gy n rk y hk F) (hl : EL w B a gk g gr gE gC gY gH gy) (h5 : Only [] wr w5) (h6 : Only [gC] w5 w') (hx : ArrB w' gC (16 * n) F') : EW w w' gI B a gk g gr gE gC gY gH gy n rk y hk F' := by
  obtain ⟨l1, l2, l3, l4, l5, l6, l7⟩ := hl
  have hs := hm.o.size
  exact ⟨(hm.o.then_ h5 (by simp)).then_ h6 (by intro x hx hl; simp at hx ⊢; omega), (hm.c.only h5 (by simp) (by simp) (by simp) (by simp)).only h6 (by simp; omega) (by simp; omega) (by simp; omega) (by simp; omega), hm.e.imp fun _ h => (h.only h5 (by simp)).only h6 (by simp; omega), hx,
    (hm.yv.only h5 (by simp)).only h6 (by simp; omega), (hm.y0.only h5 (by simp)).only h6 (by simp; omega), (hm.hh.only h5 (by simp)).only h6 (by simp; omega)⟩
end

set_option maxHeartbeats 16000000 in
theorem gcme_any (K : Addr) (ck gI cI : Nat) (ap : Addr) (n cp : Nat) (A : Option Addr) (na ca base : Nat) (kf p a0 : Nat → Int) (l : List Int) (w : World) (hK : Src w K 16 kf) (hKf : Bf kf) (hKl : K.block < w.heap.size) (hKI : K.block ≠ gI)
    (ht : Tabs w) (h7 : 7 ≤ w.heap.size) (hg7 : 7 ≤ gI) (hI : OwnB w base (.slice (some ⟨gI, 0, none⟩) 12 cI) l) (hI12 : l.length = 12) (hIb : Byl l) (hI255 : ∀ j, j < 12 → lF l j ≠ 255) (hbase : base ≤ w.heap.size)
    (hP : Src w ap (16 * n) p) (hPl : ap.block < w.heap.size) (hPI : ap.block ≠ gI) (hcp : 16 * n ≤ cp) (hn : n ≤ 31) (hn0 : 0 < n)
    (hA : Reads w w.heap.size 1 A (16 * na) ((fst (16 * na) a0).map (Value.int .u8))) (hAI : ∀ ad, A = some ad → ad.block ≠ gI) (hca : 16 * na ≤ ca) (hna : na ≤ 31) :
    Calls Tryd.prog 51 #[.slice (some K) 16 ck, .slice (some ⟨gI, 0, none⟩) 12 cI, .slice (some ap) (16 * n : Nat) cp, .slice A (16 * na : Nat) ca] w (fun e w' => ∃ gC gT, e = .returned (.tuple #[.slice (some ⟨gC, 0, none⟩) (16 * n) (16 * n), .slice (some ⟨gT, 0, none⟩) 16 16]) ∧ w.heap.size ≤ gC ∧ w.heap.size ≤ gT ∧
      ArrB w' gC (16 * n) (pick (gO (keyF kf) (lF (l ++ [0, 0, 0, 1])) p)) ∧ ArrB w' gT 16 (xb (E (keyF kf) (lF (l ++ [0, 0, 0, 1]))) (ghash (E (keyF kf) (fun _ => 0)) na n a0 (pick (gO (keyF kf) (lF (l ++ [0, 0, 0, 1])) p)))) ∧ Only [gI] w w') := by
  have m1 := makeB16
  have cc0 := calcE_any n
  rw [show mK n = n from if_neg (by omega), show vK n = 128 from if_neg (by omega)] at cc0
  have e2 : IntKind.i64.wrap (((16 * n : Nat) : Int).tdiv 16) = (n : Int) := by rw [IntWalk.i64_quo _ _ (by omega)]; omega
  have e4 : ((16 * n : Nat) : Int).tmod 16 = 0 := by rw [Int.tmod_eq_emod_of_nonneg (by omega)]; omega
  obtain ⟨n1, f1, hn1⟩ : ∃ n1 : Nat, IntKind.i64.wrap ((n : Int) + 1) = (n1 : Int) ∧ n1 = n + 1 := ⟨n + 1, by rw [IntWalk.i64_in _ (by omega)]; omega, rfl⟩
  have f2 := IntWalk.i64_in (16 * (n1 : Int)) (by omega)
  have hmk1 := make_any n1 (by omega)
  have hmk := make_any n (by omega)
  obtain ⟨np, d1, HNP⟩ := drop1 n hn0 (by omega)
  obtain ⟨y, HY⟩ : ∃ y, Hid (y = lF (l ++ [0, 0, 0, 1])) := ⟨_, Lib.hid rfl⟩
  have hyf : Bf y := by
    rw [HY.out]
    exact lF_bf (fun x hx => by
      rcases List.mem_append.1 hx with h | h
      · exact hIb x h
      · simp at h; omega)
  have hy15 : y 15 = 1 := by rw [HY.out]; unfold lF; rw [List.getD_eq_getElem?_getD, List.getElem?_append_right (by omega), hI12]; rfl
  have hy255 : ∀ j, j < 15 → y j ≠ 255 := fun j hj => by
    rw [HY.out]
    by_cases h : j < 12
    · have := hI255 j h
      unfold lF at this ⊢
      rwa [List.getD_eq_getElem?_getD, List.getElem?_append_left (by omega), ← List.getD_eq_getElem?_getD]
    · unfold lF
      rw [List.getD_eq_getElem?_getD, List.getElem?_append_right (by omega), hI12]
      rcases (show j = 12 ∨ j = 13 ∨ j = 14 by omega) with rfl | rfl | rfl <;> decide
  have hnp := HNP.out
  obtain ⟨qn, QNF, QN⟩ := place_pl n n1 n1 (16 * n1) (by omega) (by omega) (by omega) (Nat.le_refl _)
  obtain ⟨lo, LOF, LO⟩ : ∃ lo : Nat, Hid (IntKind.i64.wrap ((np : Int) * 16) = (lo : Int) ∧ (lo : Int) ≤ 16 * (n : Int) ∧ 16 * n - lo = 16 ∧ ¬ cp = lo ∧ ¬ 16 * n = lo ∧ lo ≤ 16 * n ∧ (16 * (n : Int) - (lo : Int)).toNat = 16) ∧ Hid (lo = 16 * np) :=
    ⟨16 * np, Lib.hid ⟨by rw [IntWalk.i64_in _ (by omega)]; omega, by omega, by omega, by omega, by omega, by omega, by omega⟩, Lib.hid rfl⟩
  have HL12 := Lib.hid hI12
  have HN1 := Lib.hid hn1
  clear hI12 hnp hn1
  go_enter Tryd.func51, Tryd.ntmps51
  go_wp2_with fail
  refine (cc0 _).mono ?_
  rintro e w' ⟨rfl, rfl⟩
  go_wp2_with fail
  refine (geth_any K ck kf w hK hKf hKl ht h7).mono ?_
  rintro e w1 ⟨gH, rfl, hgH, hhH, hoH⟩
  go_wp2_with fail
  refine (gety_any (.slice (some ⟨gH, 0, none⟩) 16 16) base gI cI l w1 (hI.below hoH.to_below' (Nat.le_refl _)) HL12.out (Nat.le_trans hbase hoH.size)).mono ?_
  rintro e w2 ⟨gy, cy, rfl, hgy, hhy, hoY⟩
  rw [← HY.out] at hhy
  have hIl : gI < w.heap.size := by
    obtain ⟨g', c', e1, _, h2, _⟩ := hI.form (by rw [HL12.out]; decide)
    injection e1 with e1 _ _
    injection e1 with e1
    injection e1 with e1
    omega
  have s1 := hoH.size
  have s2 := hoY.size
  have ha3 : Only [] w2 (w2.alloc (.cells (madeCells #[.int .u8 0] (16 * n1)) 5)) := (Only.refl _ _).alloc _
  have hhy3 := hhy.only ha3 (by simp)
  have hyl := hhy.lt
  have hin := incr_any n1 ⟨gy, 0, none⟩ cy y _ (hhy3.src0 (Nat.le_refl _)) hyf hhy3.lt (by rw [HN1.out]; omega) (by rw [HN1.out]; omega) hy15 hy255
  go_wp2_with (go_at_call 61; refine hin.mono ?_; rintro e w4 ⟨gY, rfl, hgY, hhY, hoi⟩)
  have hgY' : w2.heap.size + 1 ≤ gY := by simpa using hgY
  have hoT : Only [gI] w w4 := (((hoH.mono (S' := [gI]) (by simp)).then_ hoY (fun x hx _ => hx)).then_ ha3 (by simp)).then_ hoi (by simp)
  have hHT : ArrB w4 gH 16 (E (keyF kf) (fun _ => 0)) := (((hhH.only hoY (by simp; omega)).only ha3 (by simp)).only hoi (by simp))
  have hYT : ArrB w4 gy 16 y := hhy3.only hoi (by simp)
  have hKT := hK.only hoT hKl (by simpa using hKI)
  have htT : Tabs w4 := ht.only hoT h7 (by intro k hk; simp at hk; omega)
  have sT := hoT.size
  have hHl := hhH.lt
  have hYl := hhY.lt
  clear hin hhH hhy hoH hoY ha3 hhy3 hoi hI
  go_wp2_with fail
  refine (newc_any K ck kf w4 hKT hKf htT (by omega) (by omega)).mono ?_
  rintro e w5 ⟨a, gk, g, gr, rfl, hcip, hoc⟩
  obtain ⟨r1, r2, r3, r4⟩ := hcip.lt
  obtain ⟨q1, q2, q3, q4⟩ := hcip.lo
  have sc := hoc.size
  have haE : Only [] w5 ((w5.alloc (.cells (ZB 16) 5)).alloc (.cells (madeCells #[.int .u8 0] (16 * n)) 5)) := ((Only.refl _ _).alloc _).alloc _
  have hE0 := (ArrB.new w5 16).alloc (.cells (madeCells #[.int .u8 0] (16 * n)) 5)
  have hC0 := ArrB.made (w5.alloc (.cells (ZB 16) 5)) (16 * n)
  rw [World.size_alloc] at hC0
  obtain ⟨O, HO⟩ : ∃ O, Hid (O = gO (keyF kf) y p) := ⟨_, Lib.hid rfl⟩
  rw [HN1.out] at hhY
  have hm0 : EW w ((w5.alloc (.cells (ZB 16) 5)).alloc (.cells (madeCells #[.int .u8 0] (16 * n)) 5)) gI w4.heap.size a gk g gr w5.heap.size (w5.heap.size + 1) gY gH gy n (keyF kf) y (E (keyF kf) (fun _ => 0)) (upto O 0) :=
    ⟨(hoT.then_ hoc (by simp)).then_ haE (by simp), hcip.only haE (by simp) (by simp) (by simp) (by simp), ⟨_, hE0⟩, hC0.congr (fun p _ => upto_zero O p), (hhY.only hoc (by simp)).only haE (by simp), (hYT.only hoc (by simp)).only haE (by simp), (hHT.only hoc (by simp)).only haE (by simp)⟩
  have hel : EL w w4.heap.size a gk g gr w5.heap.size (w5.heap.size + 1) gY gH gy := ⟨hgH, by omega, by omega, hYl, ⟨q1, q2, q3, q4⟩, ⟨r1, r2, r3, r4⟩, by omega⟩
  have hC5 : w.heap.size ≤ w5.heap.size := by omega
  clear hcip hE0 hC0 hhY hHT hYT hoT hoc haE hKT htT s1 s2 r1 r2 r3 r4 q1 q2 q3 q4 sc sT hHl hYl hgH hgY hgY' hyl hgy
  go_wp2_with fail
  generalize w4.heap.size = B at *
  clear e2 e4 f1 f2 hmk1 hmk cc0 m1
  go_loopw [19] (fun i wr => ∃ k k1 : Nat, k1 ≤ n ∧ Hid (k1 = k + 1) ∧ i = .int .i64 k1 ∧ EW w wr gI B a gk g gr w5.heap.size (w5.heap.size + 1) gY gH gy n (keyF kf) y (E (keyF kf) (fun _ => 0)) (upto O k)) (fun i _ => n - (intOf i).toNat)
  case atStart => exact ⟨0, 1, hn0, Lib.hid rfl, rfl, hm0⟩
  case round =>
    clear hm0
    obtain ⟨k, k1, hk, HK, rfl, hm⟩ := hrel
    obtain ⟨z1, z2, z3, z4, ⟨z5, z6, z7, z8⟩, ⟨z9, z10, z11, z12⟩, z13⟩ := hel
    have hel : EL w B a gk g gr w5.heap.size (w5.heap.size + 1) gY gH gy := ⟨z1, z2, z3, z4, ⟨z5, z6, z7, z8⟩, ⟨z9, z10, z11, z12⟩, z13⟩
    by_cases hlt : k1 < n
    · as_aux_lemma =>
      have hK' := HK.out
      have l1 : (k1 : Int) ≤ (np : Int) := by have := HNP.out; clear d1; omega
      have hN1' := HN1.out
      obtain ⟨q, QF, HQ⟩ := place_pl k1 n1 n1 (16 * n1) (by clear d1; omega) (by clear d1; omega) (by clear d1; omega) (Nat.le_refl _)
      obtain ⟨pp, PF, HP⟩ := place_pl k n n cp (by clear d1; omega) (by clear d1; omega) (by clear d1; omega) hcp
      have e5 : IntKind.i64.wrap ((k1 : Int) - 1) = (k : Int) := by rw [IntWalk.i64_in _ (by clear d1; omega)]; clear d1; omega
      have hQ' := HQ.out
      have hP' := HP.out
      have hsrc : Src wr ⟨gY, q, none⟩ 16 (blk (ctrB y) k1) := (hm.yv.src (o := q) (m := 16) (by clear d1 e5; omega)).congr fun j hj => by
        rw [ctr16 (show k1 ≤ 40 by clear d1 e5; omega) j hj, hQ']; rfl
      have lY : gY < wr.heap.size := hm.yv.lt
      have hPk := hP.part (o := pp) (m := 16) (by clear d1 e5; omega)
      have hk40 : k1 ≤ 40 := by clear d1 e5; omega
      clear hK' hN1' hQ' hP'
      obtain ⟨q1, q2, q3, q4, q5, q6, q7, q8, q9, q10, q11, q12⟩ := QF
      obtain ⟨p1, p2, p3, p4, p5, p6, p7, p8, p9, p10, p11, p12⟩ := PF
      go_wp2_with fail
      refine (encr_any B a gk g gr w5.heap.size (16 * n1 - q) ⟨gY, q, none⟩ (blk (ctrB y) k1) (keyF kf) wr hm.c (by clear d1 e5 q1 q2 p1 p2; omega) hm.e hsrc (ctr_bf hyf hy15 k1) (hm.tabs ht h7 hg7) lY (by clear d1 e5 q1 q2 p1 p2; omega) (by clear d1 e5 q1 q2 p1 p2; omega) (by clear d1 e5 q1 q2 p1 p2; omega) (by clear d1 e5 q1 q2 p1 p2; omega) (by show gY ≠ g; clear d1 e5 q1 q2 p1 p2; omega)).mono ?_
      rintro e w4 ⟨rfl, ho4, ht4, hc4⟩
      rw [E_congr (ctr16 hk40)] at ht4
      have hm4 := hm.encr hel ho4 ⟨_, ht4⟩ hc4
      clear ho4 hc4 hm hsrc lY
      go_wp2_with fail
      have hO0 : Only [] w4 w4.drew := (Only.refl [] w4).drew
      have hP4 : Src w4 (ap.add pp) 16 (fun j => p (pp + j)) := hPk.only hm4.o (by rw [block_of_add]; exact hPl) (by rw [block_of_add]; simpa using hPI)
      have lP : (ap.add pp).block < w4.heap.size := by rw [block_of_add]; exact Nat.lt_of_lt_of_le hPl hm4.o.size
      have lE := ht4.lt
      go_region_held3 (fun _ => True) (trivial)
        (first
          | (refine step_copy16 rfl (.tmp 84) (.tmp 95) rfl (w5.heap.size + 1) pp (16 * n - pp) (16 * n) 16 ⟨g5, 0, none⟩ _ _ rfl rfl hx5 p5 (hx4.src0 (Nat.le_refl _)) ?_; intro w6 ho6 hx6)
          | (go_at_call 62; refine (add_any (ap.add pp) ⟨w5.heap.size, 0, none⟩ _ _ _ _ w4.drew (hP4.only hO0 lP (by simp)) ((ht4.src0 (Nat.le_refl _)).only hO0 lE (by simp)) lP lE).mono ?_; rintro e w7 ⟨g5, rfl, hg5, hx4, ho5'⟩; have ho5 := hO0.trans ho5'; have hx5 := hm4.x.only ho5 (by simp)))
      go_wp2_with fail
      have hn6 := hm4.next hel ho5 ho6 (hx6.congr (upto_next (O := O) HP (fun j hj => by
        rw [HO.out]
        have h1 := HP.out
        have h2 := HK.out
        unfold gO
        rw [← h2]
        have h3 : (fun j => p (pp + j)) = blk p k := by unfold blk; rw [h1]
        rw [h3])))
      go_roundw
      case rel => exact ⟨k + 1, k1 + 1, by clear d1 e5 q1 q2 p1 p2; omega, Lib.hid (by have := HK.out; clear d1 e5 q1 q2 p1 p2; omega), by go_num, hn6⟩
      case measure => simp [intOf]; clear d1 e5 q1 q2 p1 p2; omega
    · as_aux_lemma =>
      obtain rfl : n = k1 := by clear d1; omega
      have l1 : ¬ (n : Int) ≤ (np : Int) := by have := HNP.out; clear d1; omega
      clear hlt hk
      have hK' := HK.out
      have hNP' := HNP.out
      have hN1' := HN1.out
      have hQ' := QN.out
      have hLO' := LO.out
      have hsrc : Src wr ⟨gY, qn, none⟩ 16 (blk (ctrB y) n) := (hm.yv.src (o := qn) (m := 16) (by clear d1; omega)).congr fun j hj => by
        rw [ctr16 (show n ≤ 40 by clear d1; omega) j hj, hQ']; rfl
      have lY : gY < wr.heap.size := hm.yv.lt
      have hPk := hP.part (o := lo) (m := 16) (by clear d1; omega)
      have hk1 : k = np := by clear d1; omega
      clear hK' hNP' hN1' hQ' hLO'
      obtain ⟨lo1, lo2, lo3, lo4, lo5, lo6, lo7⟩ := LOF.out
      obtain ⟨qn1, qn2, qn3, qn4, qn5, qn6, qn7, qn8, qn9, qn10, qn11, qn12⟩ := QNF
      go_wp2_with fail
      refine (encr_any B a gk g gr w5.heap.size (16 * n1 - qn) ⟨gY, qn, none⟩ (blk (ctrB y) n) (keyF kf) wr hm.c (by clear d1 qn1 qn2 lo1; omega) hm.e hsrc (ctr_bf hyf hy15 n) (hm.tabs ht h7 hg7) lY (by clear d1 qn1 qn2 lo1; omega) (by clear d1 qn1 qn2 lo1; omega) (by clear d1 qn1 qn2 lo1; omega) (by clear d1 qn1 qn2 lo1; omega) (by show gY ≠ g; clear d1 qn1 qn2 lo1; omega)).mono ?_
      rintro e w4 ⟨rfl, ho4, ht4, hc4⟩
      rw [E_congr (ctr16 (show n ≤ 40 by clear d1 qn1 qn2 lo1; omega))] at ht4
      have hm4 := hm.encr hel ho4 ⟨_, ht4⟩ hc4
      clear ho4 hc4 hm hsrc lY
      go_wp2_with (go_at_call 63; refine (msb_any ⟨w5.heap.size, 0, none⟩ 16 w4 (Nat.le_refl _)).mono ?_; rintro e w' ⟨rfl, rfl⟩)
      have hO0 : Only [] w4 w4.drew := (Only.refl [] w4).drew
      have hP4 : Src w4 (ap.add lo) 16 (fun j => p (lo + j)) := hPk.only hm4.o (by rw [block_of_add]; exact hPl) (by rw [block_of_add]; simpa using hPI)
      have lP : (ap.add lo).block < w4.heap.size := by rw [block_of_add]; exact Nat.lt_of_lt_of_le hPl hm4.o.size
      have lE := ht4.lt
      have lo8 : lo + 16 ≤ 16 * n := by clear d1 qn1 qn2 lo1; omega
      have lo9 : 16 * n - lo = 16 := lo3
      go_region_held3 (fun _ => True) (trivial)
        (first
          | (refine step_copy16 rfl (.tmp 114) (.tmp 121) rfl (w5.heap.size + 1) lo _ (16 * n) 16 ⟨g5, 0, none⟩ _ _ rfl rfl hx5 lo8 (hx4.src0 (Nat.le_refl _)) ?_; intro w6 ho6 hx6)
          | (go_at_call 62; refine (add_any (ap.add lo) ⟨w5.heap.size, 0, none⟩ _ _ _ _ w4.drew (hP4.only hO0 lP (by simp)) ((ht4.src0 (Nat.le_refl _)).only hO0 lE (by simp)) lP lE).mono ?_; rintro e w7 ⟨g5, rfl, hg5, hx4, ho5'⟩; have ho5 := hO0.trans ho5'; have hx5 := hm4.x.only ho5 (by simp)))
      have hm6 := hm4.next hel ho5 ho6 (hx6.congr (upto_next (O := O) (show Hid (lo = 16 * k) by rw [hk1]; exact LO) (fun j hj => by
        rw [HO.out]
        have h1 := LO.out
        unfold gO
        have h2 : k + 1 = n := by have := HK.out; clear d1 qn1 qn2 lo1; omega
        rw [h2]
        have h3 : (fun j => p (lo + j)) = blk p k := by unfold blk; rw [h1, hk1]
        rw [h3])))
      have hkn : k + 1 = n := by have := HK.out; clear d1 qn1 qn2 lo1; omega
      clear hm4 ho5 ho6 hx6 hx5 hx4 ho5' hP4 lP lE hO0 hPk ht4 lo1 lo2 lo3 lo4 lo5 lo6 lo7 lo8 lo9 d1 l1
      clear qn1 qn2 qn3 qn4 qn5 qn6 qn7 qn8 qn9 qn10 qn11 qn12
      go_wp2_with fail
      refine (encr_any B a gk g gr w5.heap.size cy ⟨gy, 0, none⟩ y (keyF kf) w6 hm6.c (by omega) hm6.e (hm6.y0.src0 (Nat.le_refl _)) hyf (hm6.tabs ht h7 hg7) hm6.y0.lt (by omega) (by omega) (by omega) (by omega) (by show gy ≠ g; omega)).mono ?_
      rintro e w4 ⟨rfl, ho4, ht4, hc4⟩
      have hm8 := hm6.encr hel ho4 ⟨_, ht4⟩ hc4
      clear ho4 hc4 hm6
      have hCf : ArrB w4 (w5.heap.size + 1) (16 * n) (pick O) := hm8.x.congr fun x hx => by rw [hkn]; exact upto_all O n x hx
      have hgs := ghash_any ⟨gH, 0, none⟩ 16 A na ca (some ⟨w5.heap.size + 1, 0, none⟩) n (16 * n) (E (keyF kf) (fun _ => 0)) a0 (pick O) w4 (hm8.hh.src0 (Nat.le_refl _)) hm8.hh.lt (hA.only1 hm8.o (by simpa using hAI)) hCf.reads hna hn hn0 hca (Nat.le_refl _)
      go_wp2_with fail
      refine hgs.mono ?_
      rintro e w8 ⟨gh, oh, cg, rfl, hgh, hsh, lgh, hcg, hog⟩
      have ht8 := ht4.only hog (by simp)
      go_wp2_with fail
      refine (add_any ⟨w5.heap.size, 0, none⟩ ⟨gh, oh, none⟩ _ _ _ _ w8 (ht8.src0 (Nat.le_refl _)) hsh ht8.lt lgh).mono ?_
      rintro e w9 ⟨gT, rfl, hgT, hT, hoT⟩
      go_wp2_with (go_at_call 63; refine (msb_any ⟨gT, 0, none⟩ 16 w9 (Nat.le_refl _)).mono ?_; rintro e w' ⟨rfl, rfl⟩)
      go_ret2
      have s8 := hm8.o.size
      have s9 := hog.size
      rw [← HY.out, ← HO.out]
      exact ⟨_, _, rfl, by omega, by omega, (hCf.only hog (by simp)).only hoT (by simp), hT, (hm8.o.then_ hog (by simp)).then_ hoT (by simp)⟩
end Go.Proofs.YtkfagcpboehjjaaDoor
