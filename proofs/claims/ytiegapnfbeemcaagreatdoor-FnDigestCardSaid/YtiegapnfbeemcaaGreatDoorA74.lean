/-
  The identity's hash. No condition.
-/
import Derived.Test.YtiegapnfbeemcaaGreatDoorA73
namespace Go.Proofs.YtiegapnfbeemcaaGreatDoor
set_option maxRecDepth 100000
open Go.RowKit
open X (WR E0 H0 bsA bsB bsGx bsGy)

set_option maxHeartbeats 4000000 in
theorem za_any (eb P G1 G2 : Nat) (I : Value) (bx bY : List Int) (A : Option Addr) (n c : Nat) (p : List Int) (w : World) (hW : WR (E0 eb) H0 w)
    (hP : Blk w P 81 #[I, .pointer (some ⟨G1, 0, none⟩), .pointer (some ⟨G2, 0, none⟩)]) (hI1 : IntO w 0 G1 (fun j => bx.getD j 0)) (hI2 : IntO w 0 G2 (fun j => bY.getD j 0)) (hx : BB bx) (hy : BB bY) (hlx : bx.length = 32) (hly : bY.length = 32)
    (hr : Reads w w.heap.size 1 A n (p.map (Value.int .u8))) (hp : BB p) (hn0 : 0 < n) (hn : n < 8192) :
    Calls Tryz.prog 24 #[.pointer (some ⟨P, 0, none⟩), .slice A n c] w fun e w' => ∃ g c', e = .returned (.tuple #[.slice (some ⟨g, 0, none⟩) 32 c', .nilIface]) ∧
      OwnB w' w.heap.size (.slice (some ⟨g, 0, none⟩) 32 c') (sm3 (idHead n ++ p ++ bsA ++ bsB ++ bsGx ++ bsGy ++ bx ++ bY)) ∧ Below w.heap.size w w' := by
  have l1 : ¬ ((8192 : Int) ≤ (n : Int)) := by omega
  have l2 : IntKind.i64.wrap (8 * (n : Int)) = 8 * (n : Int) := IntWalk.i64_in _ (by omega)
  have l3 : (0 : Int) < (n : Int) := by omega
  go_enter Tryz.func24, Tryz.ntmps24
  obtain ⟨a0, ea, ha0, ha1⟩ : ∃ a : Nat, bits .and .u16 (8 * (n : Int) / 256) 255 = (a : Int) ∧ a ≤ 255 ∧ (a : Int) = (n : Int) * 8 / 256 := by
    refine ⟨8 * n / 256, ?_, by omega, by omega⟩
    have := and255u (8 * n / 256) (by omega)
    rw [show ((8 * n / 256 : Nat) : Int) = 8 * (n : Int) / 256 by omega] at this
    rw [this]; omega
  obtain ⟨b0, eb0, hb0, hb1⟩ : ∃ b : Nat, bits .and .u16 (8 * (n : Int)) 255 = (b : Int) ∧ b ≤ 255 ∧ (b : Int) = (n : Int) * 8 % 256 := by
    refine ⟨8 * n % 256, ?_, by omega, by omega⟩
    have := and255u (8 * n) (by omega)
    rw [show ((8 * n : Nat) : Int) = 8 * (n : Int) by omega] at this
    rw [this]
  have ea2 : (a0 : Int) % 256 = a0 := by omega
  have eb2 : (b0 : Int) % 256 = b0 := by omega
  have HA := Lib.hid (And.intro ha1 hb1)
  clear ha1 hb1
  have hpl : p.length = n := by simpa using hr.1
  have HL := Lib.hid hpl
  clear hpl
  go_upto_region 6 with (go_at_call 37; refine (so_new w).mono ?_; rintro e w1 ⟨rfl, v1, hso1, hv1, hB1⟩)
  have hz1 : ZM w w1 v1 [] := ⟨hso1, hB1, hso1.1.lt⟩
  go_upto_region 7 with (go_at_call 39; refine (hz1.byte a0 (fun _ h => by cases h) (by omega) (by simp)).mono ?_; rintro e w2 ⟨rfl, v2, hz2⟩)
  go_upto_region 8 with (go_at_call 39; refine (hz2.byte b0 (fun y hy => by simp at hy; omega) (by omega) (by simp)).mono ?_; rintro e w3 ⟨rfl, v3, hz3⟩)
  have hh : [] ++ [(a0 : Int)] ++ [(b0 : Int)] = idHead n := by rw [HA.out.1, HA.out.2]; rfl
  rw [hh] at hz3
  have hhb : BB (idHead n) := fun y hy => by
    unfold idHead at hy
    simp only [List.mem_cons, List.not_mem_nil, or_false] at hy
    rcases hy with rfl | rfl <;> omega
  go_upto_region 10 with (go_at_call 39; refine (hz3.write p A n c (src_of (hr.below hz3.below) (Nat.le_refl _) hz3.below.size) hhb hp (by simp [idHead]; omega)).mono ?_; rintro e w4 ⟨rfl, v4, hz4, _, _⟩)
  have hl4 : (idHead n ++ p).length = n + 2 := by have := HL.out; simp [idHead]; omega
  have ht4 : BB (idHead n ++ p) := hhb.app hp
  clear hz3 hz2 hz1 hso1 hv1 hB1 ea eb0 ea2 eb2
  go_upto_region 11 with (first
    | (go_at_call 40; refine (zzA_lit w4).mono ?_; rintro e w5 ⟨rfl, hB5⟩))
  have hz5 := hz4.down hB5
  have hs5 := hz5.big
  go_upto_region 12 with (first
    | (have h7 := hca5; go_at_call 39; refine (hzb5.konst bsA ga5 bsA_ok.1 (by omega) hla5 hca5 ht4 bsA_ok.2 (by rw [hl4]; omega)).mono ?_; rintro e w6 ⟨rfl, v6, hz6⟩)
    | (have h7 := hka5; go_at_call 42; refine (hka5 wa5 (Below.refl _ _)).mono ?_; rintro e wb5 ⟨ga5, rfl, hga5, hla5, hBb5, hca5⟩
       have hzb5 := hzz5.down (hBa5.trans hBb5)
       have hgb5 := Nat.le_trans hzz5.big hga5)
    | (go_at_call 41; refine (X.c41 eb w5 (hW.below hz5.below)).mono ?_; rintro e wa5 ⟨Pa5, rfl, hBa5, hka5⟩
       have hzz5 := hz5.down ((Below.refl _ _).alloc (Nat.le_refl _) (.cells ⟨X.ninA⟩ 72))))
  clear hzz5 hzb5 hka5 hBa5 hBb5 hca5 hga5 hla5 hgb5
  have hl5 : (idHead n ++ p ++ bsA).length = n + 34 := by rw [List.length_append, hl4, bsA_ok.1]
  have ht5 := ht4.app bsA_ok.2
  go_upto_region 13 with (first
    | (have h7 := hca6; go_at_call 39; refine (hzb6.konst bsB ga6 bsB_ok.1 (by omega) hla6 hca6 ht5 bsB_ok.2 (by rw [hl5]; omega)).mono ?_; rintro e w7 ⟨rfl, v7, hz7⟩)
    | (have h7 := hka6; go_at_call 42; refine (hka6 wa6 (Below.refl _ _)).mono ?_; rintro e wb6 ⟨ga6, rfl, hga6, hla6, hBb6, hca6⟩
       have hzb6 := hzz6.down (hBa6.trans hBb6)
       have hgb6 := Nat.le_trans hzz6.big hga6)
    | (go_at_call 43; refine (X.c43 eb w6 (hW.below hz6.below)).mono ?_; rintro e wa6 ⟨Pa6, rfl, hBa6, hka6⟩
       have hzz6 := hz6))
  clear hzz6 hzb6 hka6 hBa6 hBb6 hca6 hga6 hla6 hgb6
  have hl6 : (idHead n ++ p ++ bsA ++ bsB).length = n + 66 := by rw [List.length_append, hl5, bsB_ok.1]
  have ht6 := ht5.app bsB_ok.2
  go_upto_region 14 with (first
    | (have h7 := hca7; go_at_call 39; refine (hzb7.konst bsGx ga7 bsGx_ok.1 (by omega) hla7 hca7 ht6 bsGx_ok.2 (by rw [hl6]; omega)).mono ?_; rintro e w8 ⟨rfl, v8, hz8⟩)
    | (have h7 := hka7; go_at_call 42; refine (hka7 wa7 (Below.refl _ _)).mono ?_; rintro e wb7 ⟨ga7, rfl, hga7, hla7, hBb7, hca7⟩
       have hzb7 := hzz7.down (hBa7.trans hBb7)
       have hgb7 := Nat.le_trans hzz7.big hga7)
    | (go_at_call 44; refine (X.c44 eb w7 (hW.below hz7.below)).mono ?_; rintro e wa7 ⟨Pa7, rfl, hBa7, hka7⟩
       have hzz7 := hz7))
  clear hzz7 hzb7 hka7 hBa7 hBb7 hca7 hga7 hla7 hgb7
  have hl7 : (idHead n ++ p ++ bsA ++ bsB ++ bsGx).length = n + 98 := by rw [List.length_append, hl6, bsGx_ok.1]
  have ht7 := ht6.app bsGx_ok.2
  go_upto_region 15 with (first
    | (have h7 := hca8; go_at_call 39; refine (hzb8.konst bsGy ga8 bsGy_ok.1 (by omega) hla8 hca8 ht7 bsGy_ok.2 (by rw [hl7]; omega)).mono ?_; rintro e w9 ⟨rfl, v9, hz9⟩)
    | (have h7 := hka8; go_at_call 42; refine (hka8 wa8 (Below.refl _ _)).mono ?_; rintro e wb8 ⟨ga8, rfl, hga8, hla8, hBb8, hca8⟩
       have hzb8 := hzz8.down (hBa8.trans hBb8)
       have hgb8 := Nat.le_trans hzz8.big hga8)
    | (go_at_call 45; refine (X.c45 eb w8 (hW.below hz8.below)).mono ?_; rintro e wa8 ⟨Pa8, rfl, hBa8, hka8⟩
       have hzz8 := hz8))
  clear hzz8 hzb8 hka8 hBa8 hBb8 hca8 hga8 hla8 hgb8
  have hl8 : (idHead n ++ p ++ bsA ++ bsB ++ bsGx ++ bsGy).length = n + 130 := by rw [List.length_append, hl7, bsGy_ok.1]
  have ht8 := ht7.app bsGy_ok.2
  obtain ⟨T, hT⟩ : ∃ T, T = idHead n ++ p ++ bsA ++ bsB ++ bsGx ++ bsGy := ⟨_, rfl⟩
  rw [← hT] at hl8 ht8 hz9
  have HT := Lib.hid hT
  clear hT hl4 hl5 hl6 hl7 ht4 ht5 ht6 ht7
  have hP9 := hP.below hz9.below hP.lt
  have p1 := hP9.cell 1
  have p2 := hP9.cell 2
  simp at p1 p2
  have hv9 := hz9.so.2.blk_lt
  go_upto_region 16 with (go_at_call 42; refine (bytes_any 0 G1 (fun j => bx.getD j 0) w9 (hI1.below hz9.below) (fun j hj => hx _ (by rw [List.getD_eq_getElem?_getD, List.getElem?_eq_getElem (by omega)]; exact List.getElem_mem _))).mono ?_; rintro e wX ⟨AX, LX, cX, rfl, hLX, hzX, hcX, hmX, hrX, haX, hBX⟩)
  have hzx := hz9.down hBX
  have hPX := hP.below hzx.below hP.lt
  have p2X := hPX.cell 2
  simp at p2X
  go_upto_region 17 with (go_at_call 42; refine (bytes_any 0 G2 (fun j => bY.getD j 0) wX (hI2.below hzx.below) (fun j hj => hy _ (by rw [List.getD_eq_getElem?_getD, List.getElem?_eq_getElem (by omega)]; exact List.getElem_mem _))).mono ?_; rintro e wY ⟨AY, LY, cY, rfl, hLY, hzY, hcY, hmY, hrY, haY, hBY⟩)
  have hzy := hzx.down hBY
  have hsX := hBX.size
  have hsY := hBY.size
  have hrX2 := (hrX.below hBY).more hsY
  go_upto_if 72 with (fail)
  go_cut [10] (fun v w' => B32 w' w9.heap.size bx v ∧ Below wY.heap.size wY w')
  case first =>
    by_cases hlt : LX < 32
    · have l5 : (32 : Int) - (LX : Int) = ((32 - LX : Nat) : Int) := by omega
      have l6 : IntKind.i64.wrap ((32 - LX : Nat) : Int) = ((32 - LX : Nat) : Int) := IntWalk.i64_in _ (by omega)
      have l7 : ((32 - LX : Nat) : Int) ≤ 32 := by omega
      have l8 : (LX : Int) < 32 := by omega
      go_wp2_with (first
        | (go_at_call 46; refine (zer_any wY).mono ?_; rintro e wz ⟨rfl, rfl⟩)
        | (at_builtin; refine app_f _ rfl (.tmp 76) (.tmp 77) rfl wY.heap.size _ (List.replicate (32 - LX) 0) rfl (zer_own wY (32 - LX) (by omega)) wY.heap.size AX LX cX ((List.range LX).map fun i => bx.getD (32 - LX + i) 0) rfl (hrX2.alloc (Nat.le_refl _) _) (by simp; omega) (by simp) ?_; intro vv ww hownv hbv _ _ _))
      go_meet
      rw [tail_eq hlx hLX hzX] at hownv
      exact ⟨(B32.of_own hownv hlx).low (by omega), ((Below.refl _ _).alloc (Nat.le_refl _) _).trans hbv⟩
    · obtain rfl : LX = 32 := by omega
      have hte := tail_eq hlx hLX hzX
      rw [List.replicate_zero, List.nil_append] at hte
      rw [hte] at hrX2
      obtain ⟨ad, e, _, _⟩ := hrX2.2 (by omega)
      subst e
      go_wp2_with fail
      go_meet
      exact ⟨⟨ad, cX, rfl, (haX ad rfl), hrX2⟩, Below.refl _ _⟩
  case rest =>
    obtain ⟨hbx, hBc⟩ := hcut
    have hzc := hzy.down hBc
    have hsc := hBc.size
    have hrY2 := (hrY.below hBc).more hsc
    clear hrX hrX2 hrY haX hzX hcX hmX hzy hzx
    go_upto_if 82 with (fail)
    go_cut [11] (fun v w' => B32 w' w9.heap.size bY v ∧ Below wc.heap.size wc w')
    case first =>
      by_cases hlt : LY < 32
      · have l5 : (32 : Int) - (LY : Int) = ((32 - LY : Nat) : Int) := by omega
        have l6 : IntKind.i64.wrap ((32 - LY : Nat) : Int) = ((32 - LY : Nat) : Int) := IntWalk.i64_in _ (by omega)
        have l7 : ((32 - LY : Nat) : Int) ≤ 32 := by omega
        have l8 : (LY : Int) < 32 := by omega
        go_wp2_with (first
          | (go_at_call 46; refine (zer_any wc).mono ?_; rintro e wz ⟨rfl, rfl⟩)
          | (at_builtin; refine app_f _ rfl (.tmp 86) (.tmp 87) rfl wc.heap.size _ (List.replicate (32 - LY) 0) rfl (zer_own wc (32 - LY) (by omega)) wc.heap.size AY LY cY ((List.range LY).map fun i => bY.getD (32 - LY + i) 0) rfl (hrY2.alloc (Nat.le_refl _) _) (by simp; omega) (by simp) ?_; intro vv ww hownv hbv _ _ _))
        go_meet
        rw [tail_eq hly hLY hzY] at hownv
        exact ⟨(B32.of_own hownv hly).low (by omega), ((Below.refl _ _).alloc (Nat.le_refl _) _).trans hbv⟩
      · obtain rfl : LY = 32 := by omega
        have hte := tail_eq hly hLY hzY
        rw [List.replicate_zero, List.nil_append] at hte
        rw [hte] at hrY2
        obtain ⟨ad, e, _, _⟩ := hrY2.2 (by omega)
        subst e
        go_wp2_with fail
        go_meet
        exact ⟨⟨ad, cY, rfl, (Nat.le_trans hsX (haY ad rfl)), hrY2⟩, Below.refl _ _⟩
    case rest =>
      obtain ⟨hby, hBd⟩ := hcut
      have hzd := hzc.down hBd
      have hbx2 := hbx.keep hBd.size fun k _ hk => hBd.block k hk
      have hbig := hz9.big
      obtain ⟨adx, cx, hvx, hgx, hrx⟩ := hbx2
      subst hvx
      go_upto_region 24 with (go_at_call 39; refine (hzd.write bx (some adx) 32 cx (src_rd hrx (by omega)) ht8 hx (by omega)).mono ?_; rintro e we ⟨rfl, ve, hze, hfe, hse⟩)
      have hby2 := hby.keep hse fun k hk hkl => (hfe k hkl (by omega) (by omega)).1
      obtain ⟨ady, cy, hvy, hgy, hry⟩ := hby2
      subst hvy
      have htx := ht8.app hx
      have hlx2 : (T ++ bx).length = n + 162 := by rw [List.length_append, hl8, hlx]
      go_upto_region 25 with (go_at_call 39; refine (hze.write bY (some ady) 32 cy (src_rd hry (by omega)) htx hy (by omega)).mono ?_; rintro e wf ⟨rfl, vf, hzf, _, _⟩)
      have hfin : ∀ wg r, OwnB wg w.heap.size r (sm3 (T ++ bx ++ bY)) → ∃ g cc, r = .slice (some ⟨g, 0, none⟩) 32 cc ∧ 32 ≤ cc := fun wg r hor => by
        obtain ⟨g, cc, e, h1⟩ := hor.form (by rw [sm3_length]; omega)
        rw [sm3_length] at e h1
        exact ⟨g, cc, e, h1.2.2.1⟩
      go_wp2_with (go_at_call 47; refine (so_sum w.heap.size w.heap.size vf (T ++ bx ++ bY) none wf (Nat.le_refl _) hzf.so (htx.app hy) (by rw [List.length_append, hlx2, hly]; omega)).mono ?_; rintro e wg ⟨r, rfl, hor, hBg⟩; obtain ⟨g, cc, e, hcc⟩ := hfin wg r hor; subst e; have lcc : (32 : Int) ≤ (cc : Int) := by omega)
      refine bodyPost_ret (v := .tuple #[.slice (some ⟨g, 0, none⟩) 32 cc, .nilIface]) (by simp [results, Tryz.results24, go_sem]) rfl ⟨g, cc, rfl, ?_, hzf.below.trans hBg⟩
      rw [← HT.out]
      exact hor
end Go.Proofs.YtiegapnfbeemcaaGreatDoor
