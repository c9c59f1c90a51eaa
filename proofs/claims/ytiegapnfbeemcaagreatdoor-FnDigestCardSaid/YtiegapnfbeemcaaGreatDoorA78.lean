/-
  The law's walk. No condition.
-/
import Derived.Test.YtiegapnfbeemcaaGreatDoorA75
import Derived.Test.YtiegapnfbeemcaaGreatDoorA76
import Derived.Test.YtiegapnfbeemcaaGreatDoorA77
namespace Go.Proofs.YtiegapnfbeemcaaGreatDoor
set_option maxRecDepth 100000
open Go.RowKit
open X (WR E0 H0 bsA bsB bsGx bsGy)

theorem id_same (n : Nat) (p : List Int) (x y : Nat → Int) : idData n p x y = idAll n p (nb8 x) (nb8 y) := by
  unfold idData idAll
  rw [X.same_A, X.same_B, X.same_Gx, X.same_Gy]
  simp only [idPre, List.nil_append, List.append_assoc]
  rfl
theorem fb_tail {E : List Int} (hl : E.length = 32) {L : Nat} (hL : L ≤ 32) (hz : ∀ j, j < 32 - L → E.getD j 0 = 0) : fb ((List.range L).map fun i => E.getD (32 - L + i) 0) = fb E := by
  have := tail_eq hl hL hz
  rw [← fb_zeros (32 - L), this]
theorem in_of_own {w : World} {base c : Nat} {g : Nat} {l : List Int} (h : OwnB w base (.slice (some ⟨g, 0, none⟩) 32 c) l) (hl : l.length = 32) (hb : BB l) : In32 w g 0 c l := by
  obtain ⟨g', cc, e, q1, q2, q3, q4, q5, _⟩ := h.form (by omega)
  injection e with e1 e2 e3
  injection e1 with e1
  injection e1 with e1
  subst e1; subst e3
  exact ⟨q2, hl, by omega, q4, hb, fun j hj => by rw [Nat.zero_add]; exact q5 j (by omega)⟩
/-- append onto a slice of the call's own, behind a guard that is met. -/
theorem app_bytes_w {ops : Array Oper} {rest : List Oper} {o : Oper} {a : Act} {Q : Exit → Act → World → Prop} (w : World) (hw : Region.wanted o (yielded ops a.tmps) = true) (s x : Operand)
    (ho : o.op = .call { callee := .builtin .append, args := #[s, x], argTypes := #[22, 22] })
    (base : Nat) (v : Value) (l : List Int) (hs : a.eval s = v) (hown : OwnB w base v l)
    (B : Nat) (A : Option Addr) (m c : Nat) (news : List Int) (hx : a.eval x = .slice A m c) (hr : Reads w B 1 A m (news.map (Value.int .u8)))
    (hlen : l.length + m ≤ 140737488351232) (hbase : base ≤ w.heap.size)
    (h : ∀ v' w', OwnB w' base v' (l ++ news) → Below base w w' → wpList Tryz.prog ops Q rest (a.put o.dst v') w') : wpList Tryz.prog ops Q (o :: rest) a w := by
  obtain ⟨i0, hi, hz0, hz1, hz2⟩ := info_parts info5
  have hm : news.length = m := by have := hr.1; simpa using this
  refine wpList_step fun _ hK => ?_
  rw [if_pos hw]
  refine wp_append_any w s x 22 ho base 5 i0 _ 1 1 Tryz.underlying22 hi hz0 hz1 hz2 rfl (by decide) v l.length _ hs hown B A m c _ hx hr (ints_one _) (by unfold maxLen; omega) (by omega) hbase ?_
  intro v1 w1 hown1 hg1 _
  refine hK _ _ (h v1 w1 ?_ ((Below.refl _ _).grown hg1 hbase (fun k hk => (World.ownsRow.lt hown k hk).1)))
  unfold OwnB
  rw [List.length_append, List.map_append, hm]
  exact hown1
set_option maxHeartbeats 2000000 in
theorem law_any (eb : Nat) (Ad Am Au : Option Addr) (nd cd nm cm nu cu : Nat) (d m u : List Int) (w : World) (hW : WR (E0 eb) H0 w) (hd : Reads w w.heap.size 1 Ad nd (d.map (Value.int .u8))) (hm : Reads w w.heap.size 1 Am nm (m.map (Value.int .u8))) (hu : Reads w w.heap.size 1 Au nu (u.map (Value.int .u8)))
    (hdb : BB d) (hmb : BB m) (hub : BB u) (hcd : nd ≤ cd) :
    Calls Tryz.prog 3 #[.slice Ad nd cd, .slice Am nm cm, .slice Au nu cu] w fun e w' => e = .returned (.bool true) ∧ Below w.heap.size w w' := by
  by_cases hbig : nd ≤ 2147483647 ∧ nm ≤ 2147483647 ∧ nu ≤ 2147483647
  · obtain ⟨s1, s2, s3⟩ := hbig
    have l1 : ¬ ((2147483647 : Int) < (nd : Int)) := by omega
    have l2 : ¬ ((2147483647 : Int) < (nm : Int)) := by omega
    have l3 : ¬ ((2147483647 : Int) < (nu : Int)) := by omega
    by_cases hin : nm ≤ 300 ∧ 0 < nu ∧ nu < 8192
    · obtain ⟨t1, t2, t3⟩ := hin
      have l4 : ¬ ((300 : Int) < (nm : Int)) := by omega
      have l5 : ¬ ((nu : Int) = 0) := by omega
      have l6 : ((nu : Int) == 0) = false := by simpa using l5
      have l7 : ¬ ((8192 : Int) ≤ (nu : Int)) := by omega
      go_enter Tryz.func3, Tryz.ntmps3
      go_upto_region 5 with (go_at_call 4; refine (fits_any Ad nd cd d w hd hcd).mono ?_; rintro e w' ⟨b, rfl, hb, rfl⟩)
      --GEN
      · have h32 : nd = 32 := by first | exact hb rfl | exact hb trivial | exact hb (by assumption) | simpa using hb
        subst h32
        clear l1 l2 l3 l4 l5 l6 l7
        go_upto_region 6 with (first
          | (go_at_call 6; refine (toN_any Ad 32 cd d w hd hdb (Nat.le_refl _)).mono ?_; rintro e w1 ⟨rfl, hB1⟩)
          | (go_at_call 7; refine (base_any w1).mono ?_; rintro e w2 ⟨rfl, hB2⟩)
          | (go_at_call 5; refine (times_any (fb d) (hexB sGx) (hexB sGy) false w2 (hexF_uu _ _) (hexF_uu _ _)).mono ?_; rintro e w3 ⟨x, y, bq, rfl, hx, hy, hB3⟩)
          | (refine wpList_plain rfl fun _ hK => wp_new zero28 rfl (hK _ _ ?_))
          | (refine st28 rfl (.tmp 7) (.tmp 48) rfl w3.heap.size x y bq rfl rfl _ (Blk.new w3 28 _) rfl ?_))
        have hw3 : Below w.heap.size w w3 := (hB1.trans (hB2.mono hB1.size)).trans (hB3.mono (Nat.le_trans hB1.size hB2.size))
        have hw4 : Below w.heap.size w ((w3.alloc (.cells (c17 zF zF false) 28)).setRow w3.heap.size (c17 x y bq)) := (hw3.alloc hw3.size _).trans (setRow_below _ _ _ hw3.size)
        have hq : Blk ((w3.alloc (.cells (c17 zF zF false) 28)).setRow w3.heap.size (c17 x y bq)) w3.heap.size 28 (c17 x y bq) := (Blk.new w3 28 (c17 zF zF false)).setRow _
        generalize ((w3.alloc (.cells (c17 zF zF false) 28)).setRow w3.heap.size (c17 x y bq)) = w4 at hw4 hq ⊢
        generalize w3.heap.size = Q at hq ⊢
        clear hB1 hB2 hB3 hw3
        obtain ⟨Z, hZ⟩ : ∃ Z, Z = sm3 (idAll nu u (nb8 x) (nb8 y)) := ⟨_, rfl⟩
        have hid := identity_any x y bq Au nu cu u w4 hx hy ((hu.below hw4).more hw4.size) hub t3
        rw [id_same, ← hZ] at hid
        have hZl : Z.length = 32 := by rw [hZ]; rfl
        have hZb : BB Z := by rw [hZ]; exact sm3_byte _
        have HZ := Lib.hid hZ
        clear hZ
        go_upto_region 7 with (first
          | (refine wpList_load_row rfl 28 (.tmp 7) rfl Q rfl 28 _ (0, 0) _ hq Tryz.underlying28 rfl (size28.trans rfl) ?_)
          | (go_at_call 8; refine hid.mono ?_; rintro e w5 ⟨r, rfl, hor, hB5⟩))
        obtain ⟨gz, cz, hv, _⟩ := hor.form (by omega)
        rw [hZl] at hv
        subst hv
        clear hid
        have hq5 := hq.down hB5
        have hw5 := hw4.trans (hB5.mono hw4.size)
        have ho5 := hor.lift hw4.size
        clear hor hq hB5 hw4
        have hS7 : Below w5.heap.size w5 w5.drew := ⟨rfl, rfl, rfl, Nat.le_refl _, fun _ _ => rfl⟩
        have hX7 : ∀ W, Below w5.heap.size w5 W → W.rangeAt Q 0 (c8 x).toList := fun W h => range28x (hq5.below h hq5.lt)
        have hY7 : ∀ W, Below w5.heap.size w5 W → W.rangeAt Q 8 (c8 y).toList := fun W h => range28y (hq5.below h hq5.lt)
        refine Code.wp_mono NoPanic.imp ?_
        refine wp_region_held (S := fun W : World => Below w5.heap.size w5 W) (by kernel_rfl) ?_
        refine wpAnyH_take (i := 0) (v := .pointer (some ⟨Q, 0, none⟩)) rfl (by kernel_rfl) (by kernel_rfl) (by kernel_rfl) (fun _ _ _ h => h) (.inl ⟨rfl, fun W _ => by simp [execOp, Act.eval, go_sem]⟩) hS7 ?_
        refine wpAnyH_take (i := 3) (v := .pointer (some ⟨Q, 8, none⟩)) rfl (by kernel_rfl) (by kernel_rfl) (by kernel_rfl) (fun _ _ _ h => h) (.inl ⟨rfl, fun W _ => by simp [execOp, Act.eval, Act.put, go_sem]⟩) hS7 ?_
        refine wpAnyH_take (i := 1) (v := N8 x) rfl (by kernel_rfl) (by kernel_rfl) (by kernel_rfl) (fun _ _ _ h => h) (yieldsIf_load_mid rfl 26 (.tmp 56) rfl Q 0 rfl (c8 x).toList _ hX7 Tryz.underlying26 rfl size26) hS7 ?_
        refine wpAnyH_take (i := 4) (v := N8 y) rfl (by kernel_rfl) (by kernel_rfl) (by kernel_rfl) (fun _ _ _ h => h) (yieldsIf_load_mid rfl 26 (.tmp 59) rfl Q 8 rfl (c8 y).toList _ hY7 Tryz.underlying26 rfl size26) hS7 ?_
        refine wpAnyH_take (i := 6) (v := .slice Au nu cu) rfl (by kernel_rfl) (by kernel_rfl) (by kernel_rfl) (fun _ _ _ h => h) (.inl ⟨rfl, fun W _ => rfl⟩) hS7 ?_
        refine wpAnyH_ready (rs := [2]) (by kernel_rfl) (by simp) (AllReadyH.cons rfl (fun K1 hK1 => ?_) AllReadyH.nil)
        rw [if_pos (by rfl)]
        go_wp2_with (go_at_call 10; refine (nbytes8_any x hx _).mono ?_; rintro r W1 ⟨v1, rfl, o1, hBW1⟩)
        replace hS7 : Below w5.heap.size w5 W1 := hS7.trans (hBW1.mono hS7.size)
        refine hK1.out _ _ hS7 (fun _ => ?_)
        refine wpAnyH_ready (rs := [5]) (by kernel_rfl) (by simp) (AllReadyH.cons rfl (fun K2 hK2 => ?_) AllReadyH.nil)
        rw [if_pos (by rfl)]
        go_wp2_with (go_at_call 10; refine (nbytes8_any y hy _).mono ?_; rintro r W2 ⟨v2, rfl, o2, hBW2⟩)
        replace hS7 : Below w5.heap.size w5 W2 := hS7.trans (hBW2.mono hS7.size)
        refine hK2.out _ _ hS7 (fun _ => ?_)
        obtain ⟨g1, c1, hv1, _⟩ := o1.form (by rw [nb8_length]; omega)
        obtain ⟨g2, c2, hv2, _⟩ := o2.form (by rw [nb8_length]; omega)
        rw [nb8_length] at hv1 hv2
        subst hv1
        subst hv2
        have i1 := (in_of_own o1 (nb8_length x) (nb8_byte hx)).below hBW2
        have i2 := in_of_own o2 (nb8_length y) (nb8_byte hy)
        have hw7 := hw5.trans (hS7.mono hw5.size)
        refine wpAnyH_ready (rs := [7]) (by kernel_rfl) (by simp) (AllReadyH.cons rfl (fun K3 hK3 => ?_) AllReadyH.nil)
        rw [if_pos (by rfl)]
        go_wp2_with (go_at_call 9; refine (ido_any eb g1 0 c1 g2 0 c2 (nb8 x) (nb8 y) Au nu cu u W2 (hW.below hw7) i1 i2 ((hu.below hw7).more hw7.size) hub t2 t3).mono ?_; rintro r W3 ⟨g3, c3, rfl, o3, hBW3⟩)
        replace hS7 : Below w5.heap.size w5 W3 := hS7.trans (hBW3.mono hS7.size)
        refine hK3.out _ _ hS7 (fun _ => ?_)
        refine wpAnyH_take (i := 8) (v := .tuple #[.slice (some ⟨g3, 0, none⟩) 32 c3, .bool true]) rfl (by kernel_rfl) (by kernel_rfl) (by kernel_rfl) (fun _ _ _ h => h) (.inl ⟨rfl, fun W _ => rfl⟩) hS7 ?_
        refine wpAnyH_take (i := 9) (v := .slice (some ⟨g3, 0, none⟩) 32 c3) rfl (by kernel_rfl) (by kernel_rfl) (by kernel_rfl) (fun _ _ _ h => h) (.inl ⟨rfl, fun W _ => rfl⟩) hS7 ?_
        refine wpAnyH_take (i := 10) (v := .bool true) rfl (by kernel_rfl) (by kernel_rfl) (by kernel_rfl) (fun _ _ _ h => h) (.inl ⟨rfl, fun W _ => rfl⟩) hS7 ?_
        refine wpAnyH_take (i := 11) (v := .slice (some ⟨g3, 0, none⟩) 32 c3) rfl (by kernel_rfl) (by kernel_rfl) (by kernel_rfl) (fun _ _ _ h => h) (.inl ⟨rfl, fun W _ => rfl⟩) hS7 ?_
        refine wpAnyH_take (i := 12) (v := .bool true) rfl (by kernel_rfl) (by kernel_rfl) (by kernel_rfl) (fun _ _ _ h => h) (.inl ⟨rfl, fun W _ => rfl⟩) hS7 ?_
        refine wpAnyH_done (by kernel_rfl) ?_ _
        refine NoPanic.normal ?_
        rw [← HZ.out] at o3
        have hq6 := hq5.down hS7
        have hw8 := hw5.trans (hS7.mono hw5.size)
        have ho6 := (ho5.below hS7 (Nat.le_refl _))
        have og6 := o3.lift hw7.size
        clear hX7 hY7 hS7 hK1 hK2 hK3 hq5 ho5 o3 i1 i2 o1 o2 hBW1 hBW2 hBW3 hw7 hw5
        go_simp
        go_upto_region 8 with (fail)
        have hS8 : Below W3.heap.size W3 W3.drew := ⟨rfl, rfl, rfl, Nat.le_refl _, fun _ _ => rfl⟩
        have hX8 : ∀ W, Below W3.heap.size W3 W → W.rangeAt Q 0 (c8 x).toList := fun W h => range28x (hq6.below h hq6.lt)
        have hY8 : ∀ W, Below W3.heap.size W3 W → W.rangeAt Q 8 (c8 y).toList := fun W h => range28y (hq6.below h hq6.lt)
        refine Code.wp_mono NoPanic.imp ?_
        refine wp_region_held (S := fun W : World => Below W3.heap.size W3 W) (by kernel_rfl) ?_
        refine wpAnyH_take (i := 0) (v := .pointer (some ⟨Q, 0, none⟩)) rfl (by kernel_rfl) (by kernel_rfl) (by kernel_rfl) (fun _ _ _ h => h) (.inl ⟨rfl, fun W _ => by simp [execOp, Act.eval, go_sem]⟩) hS8 ?_
        refine wpAnyH_take (i := 3) (v := .pointer (some ⟨Q, 8, none⟩)) rfl (by kernel_rfl) (by kernel_rfl) (by kernel_rfl) (fun _ _ _ h => h) (.inl ⟨rfl, fun W _ => by simp [execOp, Act.eval, Act.put, go_sem]⟩) hS8 ?_
        refine wpAnyH_take (i := 1) (v := N8 x) rfl (by kernel_rfl) (by kernel_rfl) (by kernel_rfl) (fun _ _ _ h => h) (yieldsIf_load_mid rfl 26 (.tmp 67) rfl Q 0 rfl (c8 x).toList _ hX8 Tryz.underlying26 rfl size26) hS8 ?_
        refine wpAnyH_take (i := 4) (v := N8 y) rfl (by kernel_rfl) (by kernel_rfl) (by kernel_rfl) (fun _ _ _ h => h) (yieldsIf_load_mid rfl 26 (.tmp 70) rfl Q 8 rfl (c8 y).toList _ hY8 Tryz.underlying26 rfl size26) hS8 ?_
        refine wpAnyH_take (i := 6) (v := .slice Am nm cm) rfl (by kernel_rfl) (by kernel_rfl) (by kernel_rfl) (fun _ _ _ h => h) (.inl ⟨rfl, fun W _ => rfl⟩) hS8 ?_
        refine wpAnyH_take (i := 7) (v := .slice Au nu cu) rfl (by kernel_rfl) (by kernel_rfl) (by kernel_rfl) (fun _ _ _ h => h) (.inl ⟨rfl, fun W _ => rfl⟩) hS8 ?_
        refine wpAnyH_ready (rs := [2]) (by kernel_rfl) (by simp) (AllReadyH.cons rfl (fun K4 hK4 => ?_) AllReadyH.nil)
        rw [if_pos (by rfl)]
        go_wp2_with (go_at_call 10; refine (nbytes8_any x hx _).mono ?_; rintro r W4 ⟨v1, rfl, o1, hBW4⟩)
        replace hS8 : Below W3.heap.size W3 W4 := hS8.trans (hBW4.mono hS8.size)
        refine hK4.out _ _ hS8 (fun _ => ?_)
        refine wpAnyH_ready (rs := [5]) (by kernel_rfl) (by simp) (AllReadyH.cons rfl (fun K5 hK5 => ?_) AllReadyH.nil)
        rw [if_pos (by rfl)]
        go_wp2_with (go_at_call 10; refine (nbytes8_any y hy _).mono ?_; rintro r W5 ⟨v2, rfl, o2, hBW5⟩)
        replace hS8 : Below W3.heap.size W3 W5 := hS8.trans (hBW5.mono hS8.size)
        refine hK5.out _ _ hS8 (fun _ => ?_)
        obtain ⟨g1, c1, hv1, _⟩ := o1.form (by rw [nb8_length]; omega)
        obtain ⟨g2, c2, hv2, _⟩ := o2.form (by rw [nb8_length]; omega)
        rw [nb8_length] at hv1 hv2
        subst hv1
        subst hv2
        have i1 := (in_of_own o1 (nb8_length x) (nb8_byte hx)).below hBW5
        have i2 := in_of_own o2 (nb8_length y) (nb8_byte hy)
        have hw9 := hw8.trans (hS8.mono hw8.size)
        obtain ⟨E, hE⟩ : ∃ E, E = sm3 (Z ++ m) := ⟨_, rfl⟩
        have hdg := dgo_any eb g1 0 c1 g2 0 c2 (nb8 x) (nb8 y) Au Am nu cu nm cm u m W5 (hW.below hw9) i1 i2 ((hu.below hw9).more hw9.size) hub t2 t3 ((hm.below hw9).more hw9.size) hmb t1
        rw [← HZ.out, ← hE] at hdg
        have HE := Lib.hid hE
        have hEl : E.length = 32 := by rw [hE]; rfl
        have hEb : BB E := by rw [hE]; exact sm3_byte _
        clear hE
        refine wpAnyH_ready (rs := [8]) (by kernel_rfl) (by simp) (AllReadyH.cons rfl (fun K6 hK6 => ?_) AllReadyH.nil)
        rw [if_pos (by rfl)]
        go_wp2_with (go_at_call 11; refine hdg.mono ?_; rintro r W6 ⟨v9, rfl, o9, hBW6⟩; obtain ⟨A9, L9, c9, e9, hT9⟩ := id o9; subst e9)
        replace hS8 : Below W3.heap.size W3 W6 := hS8.trans (hBW6.mono hS8.size)
        refine hK6.out _ _ hS8 (fun _ => ?_)
        refine wpAnyH_take (i := 9) (v := .tuple #[.slice A9 L9 c9, .bool true]) rfl (by kernel_rfl) (by kernel_rfl) (by kernel_rfl) (fun _ _ _ h => h) (.inl ⟨rfl, fun W _ => rfl⟩) hS8 ?_
        refine wpAnyH_take (i := 10) (v := .slice A9 L9 c9) rfl (by kernel_rfl) (by kernel_rfl) (by kernel_rfl) (fun _ _ _ h => h) (.inl ⟨rfl, fun W _ => rfl⟩) hS8 ?_
        refine wpAnyH_take (i := 11) (v := .bool true) rfl (by kernel_rfl) (by kernel_rfl) (by kernel_rfl) (fun _ _ _ h => h) (.inl ⟨rfl, fun W _ => rfl⟩) hS8 ?_
        refine wpAnyH_take (i := 12) (v := .slice A9 L9 c9) rfl (by kernel_rfl) (by kernel_rfl) (by kernel_rfl) (fun _ _ _ h => h) (.inl ⟨rfl, fun W _ => rfl⟩) hS8 ?_
        refine wpAnyH_take (i := 13) (v := .bool true) rfl (by kernel_rfl) (by kernel_rfl) (by kernel_rfl) (fun _ _ _ h => h) (.inl ⟨rfl, fun W _ => rfl⟩) hS8 ?_
        refine wpAnyH_done (by kernel_rfl) ?_ _
        refine NoPanic.normal ?_
        have hw10 := hw8.trans (hS8.mono hw8.size)
        have ho7 := ho6.below hS8 (Nat.le_refl _)
        have og7 := og6.below hS8 (Nat.le_refl _)
        obtain ⟨hL9, hz9, hr9, _, _⟩ := hT9
        clear hX8 hY8 hS8 hK4 hK5 hK6 hq6 ho6 og6 i1 i2 o1 o2 hBW4 hBW5 hBW6 hw8 hw9 hdg
        have hr1 := ho7.reads.2
        have hr2 := og7.reads.2
        rw [hZl] at hr1 hr2
        have htl := fb_tail hEl hL9 hz9
        have lz9 : (L9 : Int) ≤ 32 := by omega
        have hk6 := toN_any A9 L9 c9 _ W6 hr9 (fun z hz => by
          obtain ⟨i, _, rfl⟩ := List.mem_map.1 hz
          exact getD_byte hEb _) hL9
        rw [htl] at hk6
        have hk12 := same_any (some ⟨g3, 0, none⟩) 32 c3 (some ⟨gz, 0, none⟩) 32 cz Z W6 hr2 hr1
        have he := fun W => eq8 (fb E) (fb E) W
        simp only [beq_self_eq_true] at he
        have hall : ((List.range 8).all fun _ => true) = true := by decide
        rw [hall] at he
        go_simp
        go_wp2_with (first
          | (go_at_call 12; refine hk12.mono ?_; rintro e w' ⟨rfl, rfl⟩)
          | (have h7 := hk13; go_at_call 6; refine hk13.mono ?_; rintro e w14 ⟨rfl, hB14⟩)
          | (go_at_call 6; refine hk6.mono ?_; rintro e w7 ⟨rfl, hB7⟩
             have hw11 := hw10.trans (hB7.mono hw10.size)
             have hO0 := OwnB.empty w7 hw11.size
             have hr3 := (hr1.below hB7).alloc hB7.size (.cells #[] 5)
             have hw12 := hw11.alloc hw11.size (.cells #[] 5))
          | (have h7 := hown1; at_builtin; refine app_bytes_w _ rfl (.tmp 100) (.tmp 101) rfl w.heap.size _ _ rfl hown1 w.heap.size Am nm cm m rfl (hm.below hw13) (by rw [hZl]; omega) hw13.size ?_; intro vb wb hown2 hbb
             obtain ⟨Ab, cb, hvb⟩ := hown2.shaped
             have hln : (Z ++ m).length = 32 + nm := by rw [List.length_append, hZl]; have := hm.1; simp at this; omega
             rw [hln] at hvb
             subst hvb
             have hrb := hown2.reads.2
             rw [hln] at hrb
             have hks := sm3_any Ab (32 + nm) cb (Z ++ m) wb hrb (BB.app hZb hmb) (by omega)
             have hw14 := hw13.trans hbb)
          | (at_builtin; refine app_bytes_w _ rfl (.tmp 98) (.tmp 99) rfl w.heap.size _ [] rfl hO0 W6.heap.size (some ⟨gz, 0, none⟩) 32 cz Z rfl hr3 (by simp) hw12.size ?_; intro va wa hown1 hba
             rw [List.nil_append] at hown1
             obtain ⟨Aa, ca, hva⟩ := hown1.shaped
             rw [hZl] at hva
             subst hva
             have hw13 := hw12.trans hba)
          | (go_at_call 13; refine hks.mono ?_; rintro e w13 ⟨vs, rfl, hos, hB13⟩
             rw [← HE.out] at hos
             obtain ⟨As, cs, hvs⟩ := hos.shaped
             rw [hEl] at hvs
             subst hvs
             have hrs := hos.reads.2
             rw [hEl] at hrs
             have hk13 := toN_any As 32 cs E w13 hrs hEb (Nat.le_refl _)
             have hw15 := hw14.trans (hB13.mono hw14.size)))
        go_ret
        exact ⟨rfl, hw15.trans (hB14.mono hw15.size)⟩
      · go_ret
        exact ⟨rfl, Below.refl _ _⟩
    · exact law_out Ad Am Au nd cd nm cm nu cu d w hd hcd (.inr hin)
  · exact law_out Ad Am Au nd cd nm cm nu cu d w hd hcd (.inl hbig)
end Go.Proofs.YtiegapnfbeemcaaGreatDoor
