/- The reference's GCM, forth: what comes out, exactly; some tag. No condition but where things lie. -/
import Derived.Test.YtkfagcpboehjjaaDoorGo
import Derived.Test.YtkfagcpboehjjaaDoorGcs
import Derived.Test.YtkfagcpboehjjaaDoorSmw
import Derived.Outline
namespace Go.Proofs.YtkfagcpboehjjaaDoor
set_option maxRecDepth 100000
open Go.RowKit

theorem nx_ctr {y : Nat → Int} (h12 : y 12 = 0) (h13 : y 13 = 0) (h14 : y 14 = 0) (h15 : y 15 = 1) {k : Nat} (hk : k ≤ 40) : nx (blk (ctr y) k) = fst 16 (blk (ctr y) (k + 1)) := by
  have e : ∀ m j, j < 15 → blk (ctr y) m j = y j := fun m j hj => by
    unfold blk ctr
    rw [if_neg (by omega), show (16 * m + j) % 16 = j by omega]
  have e15 : ∀ m, blk (ctr y) m 15 = 1 + (m : Int) := fun m => by
    unfold blk ctr
    rw [if_pos (by omega), h15, show (16 * m + 15) / 16 = m by omega]
  have hi : inc4 (blk (ctr y) k) = 2 + (k : Int) := by
    unfold inc4
    rw [e k 12 (by omega), e k 13 (by omega), e k 14 (by omega), e15 k, h12, h13, h14, wd_eq (by omega) (by omega) (by omega) (by omega)]
    omega
  unfold nx
  rw [hi, show (16 : Nat) = 12 + 4 from rfl, fst_add]
  congr 1
  · exact fst_congr fun j hj => by rw [e k j (by omega), e (k + 1) j (by omega)]
  · have a0 : (2 + (k : Int)) / 16777216 = 0 := by omega
    have a1 : (2 + (k : Int)) / 65536 % 256 = 0 := by omega
    have a2 : (2 + (k : Int)) / 256 % 256 = 0 := by omega
    have a3 : (2 + (k : Int)) % 256 = 2 + (k : Int) := by omega
    unfold bo
    rw [a0, a1, a2, a3]
    show _ = [blk (ctr y) (k + 1) (12 + 0), blk (ctr y) (k + 1) (12 + 1), blk (ctr y) (k + 1) (12 + 2), blk (ctr y) (k + 1) (12 + 3)]
    rw [e (k + 1) (12 + 0) (by omega), e (k + 1) (12 + 1) (by omega), e (k + 1) (12 + 2) (by omega), show (12 + 3 : Nat) = 15 from rfl, e15 (k + 1), show (12 + 0 : Nat) = 12 from rfl, show (12 + 1 : Nat) = 13 from rfl, show (12 + 2 : Nat) = 14 from rfl, h12, h13, h14]
    congr 4
    omega

theorem nx_congr {f g : Nat → Int} (h : Eq16 f g) : nx f = nx g := by
  unfold nx inc4
  rw [h 12 (by omega), h 13 (by omega), h 14 (by omega), h 15 (by omega), fst_congr fun j hj => h j (by omega)]
/-- What comes out, and some tag. -/
def GotW (l : List Int) (w : World) (e : Ending) (w' : World) : Prop := ∃ v T, e = .returned (.tuple #[v, T]) ∧ OwnB w' w.heap.size v l ∧ Below w.heap.size w w'
theorem yF_facts {vl : List Int} (hv : vl.length = 12) (hb : Byl vl) : Bf (yF vl) ∧ yF vl 12 = 0 ∧ yF vl 13 = 0 ∧ yF vl 14 = 0 ∧ yF vl 15 = 1 := by
  have h : ∀ j, yF vl (12 + j) = [(0 : Int), 0, 0, 1].getD j 0 := fun j => by
    unfold yF lF
    rw [List.getD_eq_getElem?_getD, List.getElem?_append_right (by omega), hv, show 12 + j - 12 = j by omega, ← List.getD_eq_getElem?_getD]
  refine ⟨lF_bf (fun x hx => ?_), h 0, h 1, h 2, h 3⟩
  rcases List.mem_append.1 hx with h | h
  · exact hb x h
  · simp at h; omega

theorem sixty2_any (n : Nat) (w : World) (h : n ≤ 1000) : Calls Tryd.prog 33 #[.int .i64 (16 * (n : Int))] w (RetBytes w (l64 (16 * n))) := by
  have := sixty_any (16 * n) w (by omega)
  rw [show ((16 * n : Nat) : Int) = 16 * (n : Int) by omega] at this
  exact this
theorem DE_f (rk f : Nat → Int) : Bf (DE false rk f) := DE_bf _ _ _

set_option maxHeartbeats 8000000 in
theorem sgcm_any (K : Addr) (ck : Nat) (V : Option Addr) (cv : Nat) (ap : Addr) (n cd : Nat) (M : Option Addr) (na cm : Nat) (kf p : Nat → Int) (vl ml : List Int) (w : World)
    (hK : Src w K 16 kf) (hKf : Bf kf) (hck : 16 ≤ ck) (hKl : K.block < w.heap.size) (hV : Reads w w.heap.size 1 V 12 (vl.map (Value.int .u8))) (hvb : Byl vl)
    (hD : Src w ap (16 * n) p) (hDl : ap.block < w.heap.size) (hcd : 16 * n ≤ cd) (hn : n ≤ 31) (hn0 : 0 < n) (hM : Reads w w.heap.size 1 M (16 * na) (ml.map (Value.int .u8))) (hna : na ≤ 31) :
    Calls Tryd.prog 13 #[.slice (some K) 16 ck, .slice V 12 cv, .slice (some ap) (16 * n : Nat) cd, .slice M (16 * na : Nat) cm, .bool false] w (GotW (fst (16 * n) (gcC kf vl p)) w) := by
  have hz47 := zero47
  have m1 := makeB16
  have hvl : vl.length = 12 := by have := hV.1; simpa using this
  have hy := yF_facts hvl hvb
  obtain ⟨rk, hrk⟩ : ∃ rk, rk = keyF kf := ⟨_, rfl⟩
  have HVL := Lib.hid hvl
  clear hvl
  have hkeys := rounds_any K 16 ck kf w (by omega) hck hK hKf hKl
  rw [← hrk] at hkeys
  go_enter Tryd.func13, Tryd.ntmps13
  go_upto_region 2 with (first
    | (go_at_call 26; refine hkeys.mono ?_; rintro e w1 ⟨cs, rfl, hsz, hcell, ho1⟩)
    | (refine wpList_store_row rfl 47 _ _ rfl w1.heap.size cs rfl rfl 47 (ZU 32) (heap_alloc_new w1 _) (by rw [hsz]; exact info47) (by rw [hsz, ZU_size]) (cells_one hsz hcell) ?_))
  obtain ⟨ho2, hk2, hs2⟩ := keys_laid (cs := cs) ho1
  generalize (w1.alloc (.cells (ZU 32) 47)).setRow w1.heap.size cs = w2 at *
  have hi47 : (Tryd.prog.info? 47).map (·.size) = some cs.size := by rw [hsz]; exact info47
  have hgk := hk2.lt
  have hgw : w.heap.size ≤ w1.heap.size := ho1.size
  generalize w1.heap.size = gk at *
  clear hkeys hz47
  obtain ⟨cl, rfl⟩ : ∃ cl : List Value, cs = cl.toArray := ⟨cs.toList, by simp⟩
  have hu47 : Tryd.prog.underlying 47 = some (.array 32 46) := Tryd.underlying47
  have hi47l : (Tryd.prog.info? 47).map (·.size) = some cl.length := by rw [hi47]; simp
  have hra : w2.drew.rangeAt gk 0 cl := Blk.range (w := w2) hk2
  have hra1 : (w2.alloc (.cells (ZB 16) 5)).drew.rangeAt gk 0 cl := Blk.range (w := w2.alloc (.cells (ZB 16) 5)) (hk2.alloc _)
  have hzb : ArrB (w2.alloc (.cells (ZB 16) 5)).drew (gk + 1) 16 (fun _ => 0) := by
    have := ArrB.new w2 16
    rw [hs2] at this
    exact this
  have hzf : Bf (fun _ => 0) := fun _ => by show (0 : Int) ≤ 0 ∧ (0 : Int) ≤ 255; omega
  have hzl : gk + 1 < (w2.alloc (.cells (ZB 16) 5)).drew.heap.size := hzb.lt
  go_region_held3 (fun W => W.rangeAt gk 0 cl) (first | exact hra | exact hra1 | exact hra2)
    (first
      | (go_at_call 25; (with_reducible refine (crypt_any false cl.toArray rk ⟨gk + 1, 0, none⟩ 16 16 (fun _ => 0) (w2.alloc (.cells (ZB 16) 5)).drew hsz hcell (by decide) (by decide) (hzb.src0 (Nat.le_refl _)) hzf hzl).mono ?_); rintro e w3 ⟨gh, chh, rfl, hc3, hg3, hh3, ho3⟩; have hra2 : w3.rangeAt gk 0 cl := Blk.range (ho3.blk (w := (w2.alloc (.cells (ZB 16) 5)).drew) (hk2.alloc _) (by simp))))
  have hok3 : Only [] w w3 := ((ho2.alloc (.cells (ZB 16) 5)).drew).trans ho3
  have hk3 := ho3.blk (w := (w2.alloc (.cells (ZB 16) 5)).drew) (hk2.alloc (.cells (ZB 16) 5)) (by simp)
  clear ho2 ho3 hra hra1 hk2 m1
  have hV3 := (hV.below hok3.to_below').alloc hok3.size (.cells #[] 5)
  go_upto_region 4 with (first
    | (at_builtin; refine app_bytes _ rfl (.tmp 27) (.tmp 28) rfl w3.heap.size v4 vl rfl (hown4.alloc _) _ _ 4 4 [0, 0, 0, 1] rfl (Reads.lit w4 5 #[.int .u8 0, .int .u8 0, .int .u8 0, .int .u8 1] (Nat.le_refl _)) (by rw [HVL.out]; decide) (Nat.le_trans hB4.size (by simp)) ?_; intro v5 w5 hown5 hb5)
    | (at_builtin; refine app_bytes _ rfl (.tmp 25) (.tmp 26) rfl w3.heap.size _ [] rfl (OwnB.empty w3 (Nat.le_refl _)) w.heap.size V 12 cv vl rfl hV3 (by decide) (by simp) ?_; intro v4 w4 hown4 hb4; rw [List.nil_append] at hown4; have hB4 : Below w3.heap.size w3 w4 := ((Below.refl w3.heap.size w3).alloc (Nat.le_refl _) (.cells #[] 5)).trans hb4))
  have hlen : (vl ++ [0, 0, 0, 1]).length = 16 := by rw [List.length_append, HVL.out]; rfl
  have hfl : fst 16 (yF vl) = vl ++ [0, 0, 0, 1] := by
    have := range_map_getD (vl ++ [0, 0, 0, 1])
    rw [hlen] at this
    exact this
  rw [← hfl] at hown5
  obtain ⟨gj, cj, rfl, hcj, hgj, hj5⟩ := hown5.arr (by decide)
  have hB5 : Below w3.heap.size w3 w5 := (hB4.alloc hB4.size _).trans hb5
  have hk5 : Blk w5 gk 47 cl.toArray := hk3.below hB5 hk3.lt
  have hok5 : Only [] w w5 := hok3.below_ hB5 hok3.size
  clear hV3 hown4 hown5 hb4 hb5 hB4 hok3 hra2 hk3 hfl hlen
  obtain ⟨O, HO⟩ : ∃ O, Hid (O = gO (keyF kf) (yF vl) p) := ⟨_, Lib.hid rfl⟩
  go_wp2_with fail
  go_loopw [16, 15, 10] (fun i cc v wr => ∃ j q gc cc' : Nat, j ≤ n ∧ Hid (q = 16 * j) ∧ i = .int .i64 q ∧ cc = .slice (some ⟨gc, 0, none⟩) 16 cc' ∧ 16 ≤ cc' ∧ ArrB wr gc 16 (blk (ctr (yF vl)) j) ∧ OwnB wr w5.heap.size v (fst (16 * j) (pick O)) ∧ Below w5.heap.size w5 wr) (fun i _ _ _ => 16 * n - (intOf i).toNat)
  case atStart =>
    exact ⟨0, 0, gj, cj, by omega, Lib.hid rfl, rfl, rfl, hcj, hj5.congr (fun x hx => by
      unfold blk ctr
      by_cases h15 : x = 15
      · subst h15; rw [if_pos (by omega)]; simp
      · rw [if_neg (by omega), show (16 * 0 + x) % 16 = x by omega]), OwnB.nil _ _, Below.refl _ _⟩
  case round =>
    obtain ⟨j, q, gc, cc, hj, HQ, rfl, rfl, hcc, hgc, hown, hb⟩ := hrel
    by_cases hlt : j < n
    · as_aux_lemma =>
      have hq := HQ.out
      have l1 : (q : Int) < 16 * (n : Int) := by omega
      have e1 := IntWalk.i64_in ((q : Int) + 16) (by omega)
      have e2 : ((q : Int) + 16).toNat = q + 16 := by omega
      have e3 : min (16 * (n : Int)) ((q : Int) + 16) = (q : Int) + 16 := by omega
      have b1 : (q : Int) + 16 ≤ (cd : Int) := by omega
      have b3 : q + 16 - q = 16 := by omega
      have b4 : ¬ cd = q := by omega
      have b5 : ((q : Int) + 16 - (q : Int)).toNat = 16 := by omega
      have hkr := hk5.below hb hk5.lt
      have how := hok5.below_ hb hok5.size
      have hPw : Src wr (ap.add q) 16 (blk p j) := ((hD.only how hDl (by simp)).part (o := q) (m := 16) (by omega)).congr fun x _ => by unfold blk; rw [hq]
      have hPl : (ap.add q).block < wr.heap.size := by rw [block_of_add]; exact Nat.lt_of_lt_of_le hDl how.size
      have hbs := hb.size
      have hj40 : j ≤ 40 := by omega
      have hx := next_any gc cc (blk (ctrB (yF vl)) j) wr (hgc.congr fun x hx => (ctr16 hj40 x hx).symm) (ctr_bf hy.1 hy.2.2.2.2 j) hcc
      rw [nx_congr (ctr16 hj40), nx_ctr hy.2.1 hy.2.2.1 hy.2.2.2.1 hy.2.2.2.2 hj40] at hx
      have hj41 : j + 1 ≤ 40 := by omega
      clear hq
      go_upto_region 11 with (go_at_call 34; refine hx.mono ?_; rintro e w6 ⟨v6, rfl, hown6, hb6⟩)
      obtain ⟨g6, c6, rfl, hc6, hg6, h6⟩ := hown6.arr (by decide)
      have hk6 := hkr.below hb6 hkr.lt
      have hP6 := hPw.below hb6 hPl
      have hP6l := Nat.lt_of_lt_of_le hPl hb6.size
      have hown6' := hown.below hb6 (Nat.le_refl _)
      have h6l := h6.lt
      have hcr := crypt_any false cl.toArray rk ⟨g6, 0, none⟩ 16 c6 (blk (ctrB (yF vl)) (j + 1)) w6 hsz hcell (by decide) hc6 ((h6.congr fun x hx => (ctr16 hj41 x hx).symm).src0 (Nat.le_refl _)) (ctr_bf hy.1 hy.2.2.2.2 (j + 1)) h6l
      go_upto_region 12 with fail
      have e3i : (if (q : Int) + 16 < 16 * (n : Int) then (q : Int) + 16 else 16 * (n : Int)).toNat - q = 16 := by split <;> omega
      rw [e3i]
      have hs6 := hb6.size
      have hcq : 16 ≤ cd - q := by omega
      clear hx hkr hPw
      have hOj : xb (blk p j) (DE false rk (blk (ctrB (yF vl)) (j + 1))) = O j := by
        rw [HO.out]
        show xb _ (E rk _) = xb _ (E (keyF kf) _)
        rw [hrk, E_congr (ctr16 hj41)]
      go_wp2_with (first
        | (refine wpList_load_row rfl 47 _ rfl gk rfl 47 cl.toArray (0, 0) _ hk6 Tryd.underlying47 rfl hi47 ?_)
        | (go_at_call 25; refine hcr.mono ?_; rintro e w7 ⟨g7, c7, rfl, hc7, hg7, h7, ho7⟩)
        | (go_at_call 35; refine (sxor_any (ap.add q) ⟨g7, 0, none⟩ (cd - q) 16 c7 (blk p j) _ w7 (Nat.le_refl _) (hP6.only ho7 hP6l (by simp)) (h7.src0 (Nat.le_refl _)) (Nat.lt_of_lt_of_le hP6l ho7.size) h7.lt).mono ?_; rintro e w8 ⟨g8, c8, rfl, hc8, hg8, h8, ho8⟩)
        | (at_builtin; refine app_bytes2 _ rfl (.tmp 59) (.tmp 67) rfl w5.heap.size _ (fst (16 * j) (pick O)) rfl ((hown6'.below ho7.to_below' (Nat.le_refl _)).below ho8.to_below' (Nat.le_refl _)) w8.heap.size (some ⟨g8, 0, none⟩) 16 c8 (fst 16 (O j)) rfl (by rw [← hOj]; exact h8.reads) (by rw [fst_length]; omega) (by have := ho7.size; have := ho8.size; omega) ?_; intro v9 w9 hown9 hb9 hfar9 hv9))
      have s7 := ho7.size
      have s8 := ho8.size
      have hb69 : Below w5.heap.size w6 w9 := ((ho7.to_below (by omega) (by simp)).trans (ho8.to_below (by omega) (by simp))).trans hb9
      have hb59 := hb6
      go_roundw
      case rel =>
        refine ⟨j + 1, q + 16, g6, c6, by omega, Lib.hid (by rw [HQ.out]; omega), by go_num, rfl, hc6, ?_, ?_, ?_⟩
        · obtain ⟨cs8, hc8a, hc8b, hc8c⟩ := (h6.only ho7 (by simp)).only ho8 (by simp)
          exact ⟨cs8, (hfar9 g6 (by omega) (fun e => by have := hown.block_lt e; omega)).trans hc8a, hc8b, hc8c⟩
        · rw [fst_pick]; exact hown9
        · exact (hb.trans (hb6.mono (by omega))).trans hb69
      case measure => simp [intOf]; have := HQ.out; omega
    · as_aux_lemma =>
      obtain rfl : j = n := by omega
      have hnl : ¬ (q : Int) < 16 * (j : Int) := by have := HQ.out; omega
      obtain ⟨gC, cC, rfl, hcC, hgC, hC⟩ := hown.arr (by omega)
      have how := hok5.below_ hb hok5.size
      have hMr := (hM.below how.to_below').more how.size
      have hml : ml.length = 16 * na := by have := hM.1; simpa using this
      have HML := Lib.hid hml
      clear hml
      have s5 := hb.size
      have hLl : (ml ++ fst (16 * j) (pick O) ++ l64 (16 * na) ++ l64 (16 * j)).length = 16 * (na + j + 1) := by
        rw [List.length_append, List.length_append, List.length_append, HML.out, fst_length, l64_len, l64_len]; omega
      have hLf : fst (16 * (na + j + 1)) (lF (ml ++ fst (16 * j) (pick O) ++ l64 (16 * na) ++ l64 (16 * j))) = ml ++ fst (16 * j) (pick O) ++ l64 (16 * na) ++ l64 (16 * j) := by
        rw [← hLl]; exact range_map_getD _
      have HLf := Lib.hid hLf
      clear hLl hLf
      have hkr := hk5.below hb hk5.lt
      have hhr := ((hh3.below hB5 hh3.lt).below hb (Nat.lt_of_lt_of_le hh3.lt hB5.size))
      have hjr := hj5.below hb hj5.lt
      go_upto_region 16 with fail
      go_upto_region 17 with (first
        | (go_at_call 31; refine (sghash_any ⟨gh, 0, none⟩ chh gg (na + j + 1) cg _ _ wg ((hhr.below hbrg hhr.lt).src0 (Nat.le_refl _)) (DE_f _ _) (Nat.lt_of_lt_of_le hhr.lt hbrg.size) hG (by omega) hcg).mono ?_; rintro e wt ⟨gt, ct, ft, rfl, hct, hgt, hft, hftb, hot⟩)
        | (at_builtin; refine app_bytes _ rfl (.tmp 81) (.tmp 84) rfl wr.heap.size ve _ rfl (hve.below hbf (Nat.le_refl _)) wf.heap.size Af _ cf (l64 (16 * j)) rfl hvf.reads.2 (by rw [List.length_append, List.length_append, HML.out, fst_length, l64_len, l64_len]; omega) (by have := hbre.size; have := hbf.size; omega) ?_; intro vg wg hvg hbg; have hbrg := (hbre.trans (hbf.mono hbre.size)).trans hbg; rw [← HLf.out] at hvg; obtain ⟨gg, cg, rfl, hcg, hgg, hG⟩ := hvg.arr (by omega))
        | (go_at_call 33; refine (sixty2_any j we (by omega)).mono ?_; rintro e wf ⟨vf, rfl, hvf, hbf⟩; obtain ⟨Af, cf, rfl⟩ := hvf.shaped)
        | (at_builtin; refine app_bytes _ rfl (.tmp 77) (.tmp 80) rfl wr.heap.size vc _ rfl (hvc.below hbd (Nat.le_refl _)) wd.heap.size Ad _ cd' (l64 (16 * na)) rfl hvd.reads.2 (by rw [List.length_append, HML.out, fst_length, l64_len]; omega) (by have := hbrc.size; have := hbd.size; omega) ?_; intro ve we hve hbe; have hbre := (hbrc.trans (hbd.mono hbrc.size)).trans hbe)
        | (go_at_call 33; refine (sixty2_any na wc (by omega)).mono ?_; rintro e wd ⟨vd, rfl, hvd, hbd⟩; obtain ⟨Ad, cd', rfl⟩ := hvd.shaped)
        | (at_builtin; refine app_bytes _ rfl (.tmp 74) (.tmp 76) rfl wr.heap.size va ml rfl (hva.below hbb (Nat.le_refl _)) wb.heap.size (some ⟨gb, 0, none⟩) (16 * j) cb (fst (16 * j) (pick O)) rfl hBB.reads (by rw [HML.out]; omega) (by have := hba.size; have := hbb.size; omega) ?_; intro vc wc hvc hbc; have hbrc := (hba.trans (hbb.mono hba.size)).trans hbc)
        | (go_at_call 32; refine (zeros_any (some ⟨gC, 0, none⟩) j cC (fst (16 * j) (pick O)) wa (hC.below hba hC.lt).reads (by omega)).mono ?_; rintro e wb ⟨vb, rfl, hvb', hbb⟩; obtain ⟨gb, cb, rfl, hcb, hgb, hBB⟩ := hvb'.arr (by omega))
        | (go_at_call 32; refine (zeros_any M na cm ml wr hMr (by omega)).mono ?_; rintro e wa ⟨va, rfl, hva, hba⟩))
      have hkt : Blk wt gk 47 cl.toArray := hot.blk (w := wg) (hkr.below hbrg hkr.lt) (by simp)
      have hjt : ArrB wt gj 16 (yF vl) := (hjr.below hbrg hjr.lt).only hot (by simp)
      have st := hot.size
      have sg := hbrg.size
      have hjl := hjt.lt
      go_wp2_with (first
        | (refine wpList_load_row rfl 47 _ rfl gk rfl 47 cl.toArray (0, 0) _ hkt Tryd.underlying47 rfl hi47 ?_)
        | (go_at_call 25; refine (crypt_any false cl.toArray rk ⟨gj, 0, none⟩ 16 cj (yF vl) wt hsz hcell (by decide) hcj (hjt.src0 (Nat.le_refl _)) hy.1 hjl).mono ?_; rintro e wu ⟨gu, cu, rfl, hcu, hgu, hU, hou⟩)
        | (go_at_call 35; refine (sxor_any ⟨gt, 0, none⟩ ⟨gu, 0, none⟩ ct 16 cu ft _ wu (Nat.le_refl _) ((hft.only hou (by simp)).src0 (Nat.le_refl _)) (hU.src0 (Nat.le_refl _)) (Nat.lt_of_lt_of_le hft.lt hou.size) hU.lt).mono ?_; rintro e wv ⟨gv, cv', rfl, hcv, hgv, hVV, hov⟩))
      have hend : OwnB wv w.heap.size (.slice (some ⟨gC, 0, none⟩) (16 * j) cC) (fst (16 * j) (gcC kf vl p)) := by
        have h1 := (((hown.below hbrg (Nat.le_refl _)).below hot.to_below' (Nat.le_refl _)).below hou.to_below' (Nat.le_refl _)).below hov.to_below' (Nat.le_refl _)
        have h2 : pick O = gcC kf vl p := by rw [HO.out]; rfl
        rw [h2] at h1
        exact h1.lift (by have := hok5.size; omega)
      have hbel : Below w.heap.size w wv := (((how.to_below'.trans (hbrg.mono how.size)).trans (hot.to_below (by have := how.size; omega) (by simp))).trans (hou.to_below (by have := how.size; omega) (by simp))).trans (hov.to_below (by have := how.size; have := hou.size; omega) (by simp))
      exact bodyPost_ret (v := .tuple #[.slice (some ⟨gC, 0, none⟩) (16 * j) cC, .slice (some ⟨gv, 0, none⟩) 16 cv']) (by simp [results, Tryd.results13, go_sem]) rfl ⟨_, _, rfl, hend, hbel⟩
end Go.Proofs.YtkfagcpboehjjaaDoor
