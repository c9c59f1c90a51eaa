/- FnSealed's walk. No condition but where things lie. -/
import Derived.Test.YtkfagcpboehjjaaDoorGq
import Derived.Test.YtkfagcpboehjjaaDoorGcx
import Derived.Outline
namespace Go.Proofs.YtkfagcpboehjjaaDoor
set_option maxRecDepth 100000
open Go.RowKit

/-- True comes back; what was there is as it was. -/
def TrueG (w : World) (e : Ending) (w' : World) : Prop := e = .returned (.bool true) ∧ Below w.heap.size w w'
theorem Reads.srcg {w : World} {ad : Addr} {n : Nat} {l : List Int} (h : Reads w w.heap.size 1 (some ad) n (l.map (Value.int .u8))) : Src w ad n (lF l) := fun j hj => by
  obtain ⟨ad', e, _, hc⟩ := h.2 (by omega)
  cases e
  have hl : l.length = n := by have := h.1; simpa using this
  refine hc j _ ?_
  unfold lF
  rw [List.getElem?_map, List.getD_eq_getElem?_getD, List.getElem?_eq_getElem (by omega)]
  rfl
theorem fst_lFg {l : List Int} {n : Nat} (h : l.length = n) : fst n (lF l) = l := by subst h; exact range_map_getD l
/-- What is read ahead. -/
structure InG (w : World) (K V A M : Option Addr) (nk ck nv cv n c na cm : Nat) (kl vl dl ml : List Int) : Prop where
  k : Reads w w.heap.size 1 K nk (kl.map (Value.int .u8))
  kb : Byl kl
  kc : nk ≤ ck
  v : Reads w w.heap.size 1 V nv (vl.map (Value.int .u8))
  vb : Byl vl
  vc : nv ≤ cv
  d : Reads w w.heap.size 1 A n (dl.map (Value.int .u8))
  db : Byl dl
  dc : n ≤ c
  m : Reads w w.heap.size 1 M na (ml.map (Value.int .u8))
  mb : Byl ml
  mc : na ≤ cm
  t : Tabs w
  s : 8 ≤ w.heap.size

theorem gcC_bf (kf : Nat → Int) (vl : List Int) (p : Nat → Int) : Bf (gcC kf vl p) := pick_bf fun _ => xb_bf _ _
theorem gcC_back {kf p : Nat → Int} {vl : List Int} (hp : Bf p) (j : Nat) : gcC kf vl (gcC kf vl p) j = p j := by
  have h1 : Eq16 (gO (keyF kf) (yF vl) (gcC kf vl p) (j / 16)) (blk p (j / 16)) := by
    have h := xb_congr (blk_pick (gO (keyF kf) (yF vl) p) (j / 16)) (fun x _ => rfl : Eq16 (E (keyF kf) (blk (ctr (yF vl)) (j / 16 + 1))) (E (keyF kf) (blk (ctr (yF vl)) (j / 16 + 1))))
    have e : xb (gO (keyF kf) (yF vl) p (j / 16)) (E (keyF kf) (blk (ctr (yF vl)) (j / 16 + 1))) = blk p (j / 16) := xb_back (blk_bf hp _) (DE_f _ _)
    rw [e] at h
    exact h
  show gO (keyF kf) (yF vl) (gcC kf vl p) (j / 16) (j % 16) = _
  rw [h1 (j % 16) (by omega)]
  unfold blk
  congr 1
  omega

theorem seal_call (bk : Bool) (K : Addr) (ck : Nat) (V : Option Addr) (cv : Nat) (D : Option Addr) (n cd : Nat) (M : Option Addr) (na cm : Nat) (kf p : Nat → Int) (vl ml : List Int) (w : World)
    (hK : Src w K 16 kf) (hKf : Bf kf) (hKl : K.block < w.heap.size) (ht : Tabs w) (h7 : 7 ≤ w.heap.size) (hV : Reads w w.heap.size 1 V 12 (vl.map (Value.int .u8))) (hvb : Byl vl) (h255 : ∀ j, j < 12 → lF vl j ≠ 255)
    (hD : Reads w w.heap.size 1 D (16 * n) ((fst (16 * n) p).map (Value.int .u8))) (hn : n ≤ 31) (hn0 : 0 < n) (hM : Reads w w.heap.size 1 M (16 * na) (ml.map (Value.int .u8))) (hna : na ≤ 31) :
    Calls Tryd.prog 14 #[.slice (some K) 16 ck, .slice V 12 cv, .slice D (16 * n : Nat) cd, .slice M (16 * na : Nat) cm, .bool bk] w (GotZ (16 * n) (gcC kf vl p) (gcT kf vl na n (lF ml) (sealedF bk kf vl p)) w) :=
  seal_any (some K) V D M 16 ck 12 cv (16 * n) cd (16 * na) cm bk (16 * n) _ _ w fun Wa hC ho =>
    closg_any w.heap.size K ck V cv D n cd M na cm bk kf p vl ml Wa hC (hK.only ho hKl (by simp)) hKf (Nat.lt_of_lt_of_le hKl ho.size) (ht.only ho h7 (by simp)) (Nat.le_trans h7 ho.size) ((hV.below ho.to_below').more ho.size) hvb h255 ((hD.below ho.to_below').more ho.size) hn hn0 ((hM.below ho.to_below').more ho.size) hna

set_option maxHeartbeats 8000000 in
theorem law_sealed (K V A M : Option Addr) (nk ck nv cv n c na cm : Nat) (kl vl dl ml : List Int) (w : World) (h : InG w K V A M nk ck nv cv n c na cm kl vl dl ml) :
    Calls Tryd.prog 7 #[.slice K nk ck, .slice V nv cv, .slice A n c, .slice M na cm] w (TrueG w) := by
  by_cases z1 : 2147483647 < nk
  · have z1' : (2147483647 : Int) < (nk : Int) := by omega
    go_enter Tryd.func7, Tryd.ntmps7
    go_wp2_with fail
    go_ret
    exact ⟨rfl, Below.refl _ _⟩
  have z1' : ¬ (2147483647 : Int) < (nk : Int) := by omega
  by_cases z2 : 2147483647 < nv
  · have z2' : (2147483647 : Int) < (nv : Int) := by omega
    go_enter Tryd.func7, Tryd.ntmps7
    go_wp2_with fail
    go_ret
    exact ⟨rfl, Below.refl _ _⟩
  have z2' : ¬ (2147483647 : Int) < (nv : Int) := by omega
  by_cases z3 : 2147483647 < n
  · have z3' : (2147483647 : Int) < (n : Int) := by omega
    go_enter Tryd.func7, Tryd.ntmps7
    go_wp2_with fail
    go_ret
    exact ⟨rfl, Below.refl _ _⟩
  have z3' : ¬ (2147483647 : Int) < (n : Int) := by omega
  by_cases z4 : 2147483647 < na
  · have z4' : (2147483647 : Int) < (na : Int) := by omega
    go_enter Tryd.func7, Tryd.ntmps7
    go_wp2_with fail
    go_ret
    exact ⟨rfl, Below.refl _ _⟩
  have z4' : ¬ (2147483647 : Int) < (na : Int) := by omega
  by_cases z5 : ¬ nk = 16
  · have z5' : ¬ ((nk : Int) = 16) := by omega
    have z5'' : ((nk : Int) != 16) = true := by simp; omega
    go_enter Tryd.func7, Tryd.ntmps7
    go_wp2_with fail
    go_ret
    exact ⟨rfl, Below.refl _ _⟩
  obtain rfl : nk = 16 := by omega
  by_cases z6 : ¬ nv = 12
  · have z6' : ¬ ((nv : Int) = 12) := by omega
    have z6'' : ((nv : Int) != 12) = true := by simp; omega
    go_enter Tryd.func7, Tryd.ntmps7
    go_wp2_with fail
    go_ret
    exact ⟨rfl, Below.refl _ _⟩
  obtain rfl : nv = 12 := by omega
  by_cases z7 : 496 < n
  · have z7' : (496 : Int) < (n : Int) := by omega
    go_enter Tryd.func7, Tryd.ntmps7
    go_wp2_with fail
    go_ret
    exact ⟨rfl, Below.refl _ _⟩
  have z7' : ¬ (496 : Int) < (n : Int) := by omega
  by_cases z8 : ¬ n % 16 = 0
  · have z8' : ¬ ((n : Int) % 16 = 0) := by omega
    have z8'' : ((n : Int) % 16 != 0) = true := by simp only [bne_iff_ne, ne_eq]; exact z8'
    go_enter Tryd.func7, Tryd.ntmps7
    go_wp2_with fail
    go_ret
    exact ⟨rfl, Below.refl _ _⟩
  have z8' : (n : Int) % 16 = 0 := by omega
  have z8'' : ((n : Int) % 16 != 0) = false := by rw [z8']; rfl
  by_cases z9 : n = 0
  · have z9' : (n : Int) = 0 := by omega
    go_enter Tryd.func7, Tryd.ntmps7
    go_wp2_with fail
    go_ret
    exact ⟨rfl, Below.refl _ _⟩
  have z9' : ¬ (n : Int) = 0 := by omega
  have z9'' : ((n : Int) == 0) = false := by simp only [beq_eq_false_iff_ne, ne_eq]; exact z9'
  by_cases z10 : 496 < na
  · have z10' : (496 : Int) < (na : Int) := by omega
    go_enter Tryd.func7, Tryd.ntmps7
    go_wp2_with fail
    go_ret
    exact ⟨rfl, Below.refl _ _⟩
  have z10' : ¬ (496 : Int) < (na : Int) := by omega
  by_cases z11 : ¬ na % 16 = 0
  · have z11' : ¬ ((na : Int) % 16 = 0) := by omega
    have z11'' : ((na : Int) % 16 != 0) = true := by simp only [bne_iff_ne, ne_eq]; exact z11'
    go_enter Tryd.func7, Tryd.ntmps7
    go_wp2_with fail
    go_ret
    exact ⟨rfl, Below.refl _ _⟩
  have z11' : (na : Int) % 16 = 0 := by omega
  have z11'' : ((na : Int) % 16 != 0) = false := by rw [z11']; rfl
  obtain ⟨ak, rfl, hkl, _⟩ := h.k.2 (by omega)
  obtain ⟨av, rfl, hvl, _⟩ := h.v.2 (by omega)
  obtain ⟨ad, rfl, hdl, _⟩ := h.d.2 (by omega)
  have hK := h.k.srcg
  have hV := h.v.srcg
  have hD := h.d.srcg
  have hKf := lF_bf h.kb
  have hDf := lF_bf h.db
  have hdn : 16 * (n / 16) = n := by omega
  have hdm : 16 * (na / 16) = na := by omega
  have hn31 : n / 16 ≤ 31 := by omega
  have hn0 : 0 < n / 16 := by omega
  have hna : na / 16 ≤ 31 := by omega
  have hlen : dl.length = n := by have := h.d.1; simpa using this
  have hfl : fst n (lF dl) = dl := fst_lFg hlen
  have HFL := Lib.hid hfl
  have HN := Lib.hid hdn
  have HM := Lib.hid hdm
  clear hlen hfl hdn hdm
  go_enter Tryd.func7, Tryd.ntmps7
  go_wp2_with fail
  go_loopw [74] (fun i wr => ∃ j : Nat, j ≤ 12 ∧ i = .int .i64 j ∧ wr = w ∧ Hid (∀ x, x < j → lF vl x ≠ 255)) (fun i _ => 12 - (intOf i).toNat)
  case atStart => exact ⟨0, by omega, rfl, rfl, Lib.hid fun x hx => absurd hx (Nat.not_lt_zero _)⟩
  case round =>
    obtain ⟨j, hj, rfl, rfl, h255⟩ := hrel
    by_cases hlt : j < 12
    · as_aux_lemma =>
      obtain ⟨x, cx, HX⟩ : ∃ x, wr.cell? (av.add j) = some (.int .u8 x) ∧ Hid (x = lF vl j) := ⟨_, hV j hlt, Lib.hid rfl⟩
      have l1 : (j : Int) < 12 := by omega
      by_cases hx : x = 255
      · subst hx
        go_wp2_with fail
        go_ret
        exact ⟨rfl, Below.refl _ _⟩
      · have hx' : (x == 255) = false := by simpa using hx
        go_wp2_with fail
        go_roundw
        case rel =>
          refine ⟨j + 1, by omega, by go_num, trivial, Lib.hid fun y hy => ?_⟩
          rcases Nat.lt_succ_iff_lt_or_eq.1 hy with h1 | h1
          · exact h255.out y h1
          · rw [h1, ← HX.out]; exact hx
        case measure => simp [intOf]; omega
    · as_aux_lemma =>
      obtain rfl : j = 12 := by omega
      have hs := h.s
      obtain ⟨hc13⟩ : Nonempty (Calls Tryd.prog 13 #[.slice (some ak) 16 ck, .slice (some av) 12 cv, .slice (some ad) n c, .slice M na cm, .bool false] wr (GotW (fst n (gcC (lF kl) vl (lF dl))) wr)) := ⟨by
        have := sgcm_any ak ck (some av) cv ad (n / 16) c M (na / 16) cm (lF kl) (lF dl) vl ml wr hK hKf h.kc hkl h.v h.vb (by rw [HN.out]; exact hD) hdl (by rw [HN.out]; exact h.dc) hn31 hn0 (by rw [HM.out]; exact h.m) hna
        rw [HN.out, HM.out] at this
        exact this⟩
      have hcz : ∀ (bk : Bool) (B : Option Addr) (cd : Nat) (p : Nat → Int) (W : World), Below wr.heap.size wr W → Reads W W.heap.size 1 B n ((fst n p).map (Value.int .u8)) →
          Calls Tryd.prog 14 #[.slice (some ak) 16 ck, .slice (some av) 12 cv, .slice B n cd, .slice M na cm, .bool bk] W (GotZ n (gcC (lF kl) vl p) (gcT (lF kl) vl (na / 16) (n / 16) (lF ml) (sealedF bk (lF kl) vl p)) W) := fun bk B cd p W hb hB => by
        have ho := Only.of_below hb (Nat.le_refl _)
        have := seal_call bk ak ck (some av) cv B (n / 16) cd M (na / 16) cm (lF kl) p vl ml W (hK.only ho hkl (by simp)) hKf (Nat.lt_of_lt_of_le hkl hb.size) (h.t.only ho (by omega) (by simp)) (by have := hb.size; omega) ((h.v.below hb).more hb.size) h.vb h255.out (by rw [HN.out]; exact hB) hn31 hn0 (by rw [HM.out]; exact (h.m.below hb).more hb.size) hna
        rw [HN.out, HM.out] at this
        exact this
      go_wp2_with (first
        | (go_at_call 14; refine (hcz true (some ⟨g2, 0, none⟩) n _ w2 hb02 hF2.reads).mono ?_; rintro e w3 ⟨g3, t3, rfl, hg3, ht3, hF3, hT3, hb3⟩; have hb03 := hb02.trans (hb3.mono hb02.size))
        | (go_at_call 9; refine (same_any (some ⟨g2, 0, none⟩) n n A1 _ c1 (fst n (gcC (lF kl) vl (lF dl))) w2 hF2.reads (ho1.below hb2 (Nat.le_refl _)).reads.2).mono ?_; rintro e w' ⟨rfl, rfl⟩)
        | (go_at_call 14; refine (hcz false (some ad) c (lF dl) w1 hb1 (by rw [HFL.out]; exact (h.d.below hb1).more hb1.size)).mono ?_; rintro e w2 ⟨g2, t2, rfl, hg2, ht2, hF2, hT2, hb2⟩; have hb02 := hb1.trans (hb2.mono hb1.size))
        | (go_at_call 13; refine hc13.mono ?_; rintro e w1 ⟨v1, T1, rfl, ho1, hb1⟩; obtain ⟨A1, c1, rfl⟩ := ho1.shaped))
      have hr1 : Reads w3 w3.heap.size 1 (some ⟨g3, 0, none⟩) n (dl.map (Value.int .u8)) := by
        rw [← HFL.out]; exact (hF3.congr fun x _ => gcC_back hDf x).reads
      have hr2 : Reads w3 w3.heap.size 1 (some ad) n (dl.map (Value.int .u8)) := (h.d.below hb03).more hb03.size
      have hr3 : Reads w3 w3.heap.size 1 (some ⟨t3, 0, none⟩) 16 ((fst 16 (gcT (lF kl) vl (na / 16) (n / 16) (lF ml) (gcC (lF kl) vl (lF dl)))).map (Value.int .u8)) := hT3.reads
      have hr4 : Reads w3 w3.heap.size 1 (some ⟨t2, 0, none⟩) 16 ((fst 16 (gcT (lF kl) vl (na / 16) (n / 16) (lF ml) (gcC (lF kl) vl (lF dl)))).map (Value.int .u8)) := (hT2.below hb3 hT2.lt).reads
      refine (same_any (some ⟨g3, 0, none⟩) n n (some ad) n c dl w3 hr1 hr2).mono ?_
      rintro e w' ⟨rfl, rfl⟩
      go_wp2_with fail
      refine (same_any (some ⟨t3, 0, none⟩) 16 16 (some ⟨t2, 0, none⟩) 16 16 _ w3 hr3 hr4).mono ?_
      rintro e w' ⟨rfl, rfl⟩
      go_wp2_with fail
      go_ret
      exact ⟨rfl, hb03⟩

end Go.Proofs.YtkfagcpboehjjaaDoor
