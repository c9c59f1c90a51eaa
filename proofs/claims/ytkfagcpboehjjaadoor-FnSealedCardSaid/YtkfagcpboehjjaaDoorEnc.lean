/- A block goes through the rounds, forth, exactly. No condition but where things lie. -/
import Derived.Test.YtkfagcpboehjjaaDoorStep
import Derived.BigRegion
namespace Go.Proofs.YtkfagcpboehjjaaDoor
set_option maxRecDepth 100000
open Go.RowKit

set_option maxHeartbeats 16000000 in
theorem enc_any (gk g gr gd n c : Nat) (ad : Addr) (f rk o1 o2 o3 : Nat → Int) (w : World) (hn : 16 ≤ n) (hk : ArrU w gk 46 32 rk) (hg : ArrU w g 46 4 o1) (hr : ArrB w gr 16 o2) (hd : ArrB w gd 16 o3) (hs : Src w ad 16 f) (hf : Bf f) (ht : Tabs w) (h7 : 7 ≤ w.heap.size)
    (hl : ad.block < w.heap.size) (hne : ad.block ≠ g) (n1 : gk ≠ g) (n2 : gr ≠ g) (n3 : gd ≠ g) (n4 : gd ≠ gr) (j1 : 7 ≤ g) :
    Calls Tryd.prog 42 #[.slice (some ⟨gk, 0, none⟩) 32 32, .slice (some ⟨g, 0, none⟩) 4 4, .slice (some ⟨gr, 0, none⟩) 16 16, .slice (some ⟨gd, 0, none⟩) 16 16, .slice (some ad) n c, .bool false] w
      (Done [g, gr, gd] (fun w' => ArrB w' gd 16 (byF fun j => fei stepI (wdF f) rk (35 - j)) ∧ (∃ o, ArrU w' g 46 4 o) ∧ ∃ o, ArrB w' gr 16 o) w) := by
  go_enter Tryd.func42, Tryd.ntmps42
  go_wp2_with (go_at_call 54; refine (init_any g ad n c f o1 w hn hg hs hf hl hne).mono ?_; rintro e w1 ⟨rfl, ho1, hg1⟩; obtain ⟨b3, cb3⟩ : ∃ b, w1.cell? ⟨g, 3, none⟩ = some (.int .u32 b) := ⟨_, hg1.cell (by omega)⟩)
  clear cb3
  go_loopw [15] (fun i wr => ∃ k : Nat, k ≤ 8 ∧ i = .int .i64 k ∧ Only [g] w wr ∧ ArrU wr g 46 4 (fun j => fei stepI (wdF f) rk (4 * k + j))) (fun i _ => 8 - (intOf i).toNat)
  case atStart => exact ⟨0, by omega, rfl, ho1, hg1.congr fun j hj => by rw [show 4 * 0 + j = j by omega, fei_low _ _ _ _ hj]⟩
  case round =>
    clear ho1 hg1
    obtain ⟨k, hk8, rfl, ho0, hw0⟩ := hrel
    by_cases hlt : k < 8
    · as_aux_lemma =>
      obtain ⟨p, e0, e1, l2, e2, HP⟩ : ∃ p : Nat, IntKind.i64.wrap (4 * (k : Int)) = (p : Int) ∧ IntKind.i64.wrap ((p : Int) + 4) = (p : Int) + 4 ∧ (p : Int) + 4 ≤ 32 ∧ p + 4 - p = 4 ∧ Hid (p = 4 * k) := ⟨4 * k, by rw [IntWalk.i64_in _ (by omega)]; omega, IntWalk.i64_in _ (by omega), by omega, by omega, Lib.hid rfl⟩
      have e3 : ((p : Int) + 4).toNat = p + 4 := by omega
      have e4 : ¬ 32 = p := by omega
      have hp32 : p + 3 < 32 := by omega
      have l1 : (k : Int) < 8 := by omega
      have g2 : ¬ (2 = g) := by omega
      have g3 : ¬ (3 = g) := by omega
      have g4 : ¬ (4 = g) := by omega
      have g5 : ¬ (5 = g) := by omega
      have hw0 := to_q4 hw0
      obtain ⟨v0, HV0⟩ : ∃ v, Hid (v = fei stepI (wdF f) rk (4 * k)) := ⟨_, Lib.hid rfl⟩
      obtain ⟨v1, HV1⟩ : ∃ v, Hid (v = fei stepI (wdF f) rk (4 * k + 1)) := ⟨_, Lib.hid rfl⟩
      obtain ⟨v2, HV2⟩ : ∃ v, Hid (v = fei stepI (wdF f) rk (4 * k + 2)) := ⟨_, Lib.hid rfl⟩
      obtain ⟨v3, HV3⟩ : ∃ v, Hid (v = fei stepI (wdF f) rk (4 * k + 3)) := ⟨_, Lib.hid rfl⟩
      rw [show 4 * k + 0 = 4 * k from rfl, ← HV0.out, ← HV1.out, ← HV2.out, ← HV3.out] at hw0
      go_wp2_with fail
      obtain ⟨cy0, cy1, cy2, cy3⟩ := four_cells hw0
      obtain ⟨s0, cs, HS0⟩ : ∃ s, wr.cell? ⟨gk, p, none⟩ = some (.int .u32 s) ∧ Hid (s = rk (p)) := ⟨_, (hk.only ho0 (by simpa using n1)).cell (j := p) (by omega), Lib.hid rfl⟩
      obtain ⟨x0, hx, ex, HX0⟩ : ∃ x, U32 x ∧ bits .xor .u32 (bits .xor .u32 (bits .xor .u32 v1 v2) v3) s0 = x ∧ Hid (x = xr (xr (xr v1 v2) v3) s0) := ⟨_, u32_bits _ _ _, rfl, Lib.hid rfl⟩
      obtain ⟨t0, t1, t2, t3, ⟨f0, f1, f2, f3⟩, ⟨i0, i1, i2, i3⟩, ⟨l0, l1', l2', l3⟩, HT⟩ := tab_facts (ht.only ho0 h7 (by simpa using j1)) hx
      obtain ⟨z0, ez, HZ0⟩ : ∃ z, bits .xor .u32 (bits .xor .u32 (bits .xor .u32 (bits .xor .u32 v0 t0) t1) t2) t3 = z ∧ Hid (z = stepI v0 x0) := ⟨_, rfl, Lib.hid (HT.out v0)⟩
      unfold U32 at hx
      have fz := hw0.frozen 0
      go_quiet (fail)
      go_wp2_with fail
      refine region_quiet_tail 28 (by kernel_rfl) (by kernel_rfl) ?_
      simp only [List.take_succ_cons, List.take_zero, List.drop_succ_cons, List.drop_zero]
      repeat (quiet_step (fail))
      refine wpQuiet_nil ?_
      intro _ hw'
      obtain ⟨nq, rfl⟩ := hw'
      go_wp2_with fail
      generalize hW : World.setCell _ _ _ = W1
      have ho1 : Only [g] w W1 := by rw [← hW]; exact (ho0.drewN _).set1 (by simp) 0 _
      have hw1 : ArrU W1 g 46 4 (q4 z0 v1 v2 v3) := by rw [← hW]; exact set_0 (hw0.drewN _)
      clear hW fz hx i0 i1 i2 i3 l0 l1' l2' l3 f0 f1 f2 f3 ex ez cs cy0 cy1 cy2 cy3 HT
      go_wp2_with fail
      obtain ⟨cy0, cy1, cy2, cy3⟩ := four_cells hw1
      obtain ⟨s1, cs, HS1⟩ : ∃ s, W1.cell? ⟨gk, p + 1, none⟩ = some (.int .u32 s) ∧ Hid (s = rk (p + 1)) := ⟨_, (hk.only ho1 (by simpa using n1)).cell (j := p + 1) (by omega), Lib.hid rfl⟩
      obtain ⟨x1, hx, ex, HX1⟩ : ∃ x, U32 x ∧ bits .xor .u32 (bits .xor .u32 (bits .xor .u32 z0 v2) v3) s1 = x ∧ Hid (x = xr (xr (xr z0 v2) v3) s1) := ⟨_, u32_bits _ _ _, rfl, Lib.hid rfl⟩
      obtain ⟨t0, t1, t2, t3, ⟨f0, f1, f2, f3⟩, ⟨i0, i1, i2, i3⟩, ⟨l0, l1', l2', l3⟩, HT⟩ := tab_facts (ht.only ho1 h7 (by simpa using j1)) hx
      obtain ⟨z1, ez, HZ1⟩ : ∃ z, bits .xor .u32 (bits .xor .u32 (bits .xor .u32 (bits .xor .u32 v1 t0) t1) t2) t3 = z ∧ Hid (z = stepI v1 x1) := ⟨_, rfl, Lib.hid (HT.out v1)⟩
      unfold U32 at hx
      have fz := hw1.frozen 1
      go_quiet (fail)
      go_wp2_with fail
      refine region_quiet_tail 28 (by kernel_rfl) (by kernel_rfl) ?_
      simp only [List.take_succ_cons, List.take_zero, List.drop_succ_cons, List.drop_zero]
      repeat (quiet_step (fail))
      refine wpQuiet_nil ?_
      intro _ hw'
      obtain ⟨nq, rfl⟩ := hw'
      go_wp2_with fail
      generalize hW : World.setCell _ _ _ = W2
      have ho2 : Only [g] w W2 := by rw [← hW]; exact (ho1.drewN _).set1 (by simp) 1 _
      have hw2 : ArrU W2 g 46 4 (q4 z0 z1 v2 v3) := by rw [← hW]; exact set_1 (hw1.drewN _)
      clear hW fz hx i0 i1 i2 i3 l0 l1' l2' l3 f0 f1 f2 f3 ex ez cs cy0 cy1 cy2 cy3 HT
      go_wp2_with fail
      obtain ⟨cy0, cy1, cy2, cy3⟩ := four_cells hw2
      obtain ⟨s2, cs, HS2⟩ : ∃ s, W2.cell? ⟨gk, p + 2, none⟩ = some (.int .u32 s) ∧ Hid (s = rk (p + 2)) := ⟨_, (hk.only ho2 (by simpa using n1)).cell (j := p + 2) (by omega), Lib.hid rfl⟩
      obtain ⟨x2, hx, ex, HX2⟩ : ∃ x, U32 x ∧ bits .xor .u32 (bits .xor .u32 (bits .xor .u32 z0 z1) v3) s2 = x ∧ Hid (x = xr (xr (xr z0 z1) v3) s2) := ⟨_, u32_bits _ _ _, rfl, Lib.hid rfl⟩
      obtain ⟨t0, t1, t2, t3, ⟨f0, f1, f2, f3⟩, ⟨i0, i1, i2, i3⟩, ⟨l0, l1', l2', l3⟩, HT⟩ := tab_facts (ht.only ho2 h7 (by simpa using j1)) hx
      obtain ⟨z2, ez, HZ2⟩ : ∃ z, bits .xor .u32 (bits .xor .u32 (bits .xor .u32 (bits .xor .u32 v2 t0) t1) t2) t3 = z ∧ Hid (z = stepI v2 x2) := ⟨_, rfl, Lib.hid (HT.out v2)⟩
      unfold U32 at hx
      have fz := hw2.frozen 2
      go_quiet (fail)
      go_wp2_with fail
      refine region_quiet_tail 28 (by kernel_rfl) (by kernel_rfl) ?_
      simp only [List.take_succ_cons, List.take_zero, List.drop_succ_cons, List.drop_zero]
      repeat (quiet_step (fail))
      refine wpQuiet_nil ?_
      intro _ hw'
      obtain ⟨nq, rfl⟩ := hw'
      go_wp2_with fail
      generalize hW : World.setCell _ _ _ = W3
      have ho3 : Only [g] w W3 := by rw [← hW]; exact (ho2.drewN _).set1 (by simp) 2 _
      have hw3 : ArrU W3 g 46 4 (q4 z0 z1 z2 v3) := by rw [← hW]; exact set_2 (hw2.drewN _)
      clear hW fz hx i0 i1 i2 i3 l0 l1' l2' l3 f0 f1 f2 f3 ex ez cs cy0 cy1 cy2 cy3 HT
      go_wp2_with fail
      obtain ⟨cy0, cy1, cy2, cy3⟩ := four_cells hw3
      obtain ⟨s3, cs, HS3⟩ : ∃ s, W3.cell? ⟨gk, p + 3, none⟩ = some (.int .u32 s) ∧ Hid (s = rk (p + 3)) := ⟨_, (hk.only ho3 (by simpa using n1)).cell (j := p + 3) (by omega), Lib.hid rfl⟩
      obtain ⟨x3, hx, ex, HX3⟩ : ∃ x, U32 x ∧ bits .xor .u32 (bits .xor .u32 (bits .xor .u32 z1 z2) z0) s3 = x ∧ Hid (x = xr (xr (xr z1 z2) z0) s3) := ⟨_, u32_bits _ _ _, rfl, Lib.hid rfl⟩
      obtain ⟨t0, t1, t2, t3, ⟨f0, f1, f2, f3⟩, ⟨i0, i1, i2, i3⟩, ⟨l0, l1', l2', l3⟩, HT⟩ := tab_facts (ht.only ho3 h7 (by simpa using j1)) hx
      obtain ⟨z3, ez, HZ3⟩ : ∃ z, bits .xor .u32 (bits .xor .u32 (bits .xor .u32 (bits .xor .u32 v3 t0) t1) t2) t3 = z ∧ Hid (z = stepI v3 x3) := ⟨_, rfl, Lib.hid (HT.out v3)⟩
      unfold U32 at hx
      have fz := hw3.frozen 3
      go_quiet (fail)
      go_wp2_with fail
      refine region_quiet_tail 28 (by kernel_rfl) (by kernel_rfl) ?_
      simp only [List.take_succ_cons, List.take_zero, List.drop_succ_cons, List.drop_zero]
      repeat (quiet_step (fail))
      refine wpQuiet_nil ?_
      intro _ hw'
      obtain ⟨nq, rfl⟩ := hw'
      go_wp2_with fail
      generalize hW : World.setCell _ _ _ = W4
      have ho4 : Only [g] w W4 := by rw [← hW]; exact (ho3.drewN _).set1 (by simp) 3 _
      have hw4 : ArrU W4 g 46 4 (q4 z0 z1 z2 z3) := by rw [← hW]; exact set_3 (hw3.drewN _)
      clear hW fz hx i0 i1 i2 i3 l0 l1' l2' l3 f0 f1 f2 f3 ex ez cs cy0 cy1 cy2 cy3 HT
      go_wp2_with fail
      go_roundw
      case rel =>
        have hst := four_steps (x := wdF f) (rk := rk) (k := k) HV0.out HV1.out HV2.out HV3.out (by rw [HS0.out]; exact congrArg rk (by have := HP.out; omega)) (by rw [HS1.out]; exact congrArg rk (by have := HP.out; omega)) (by rw [HS2.out]; exact congrArg rk (by have := HP.out; omega)) (by rw [HS3.out]; exact congrArg rk (by have := HP.out; omega)) HX0.out HZ0.out HX1.out HZ1.out HX2.out HZ2.out HX3.out HZ3.out
        refine ⟨k + 1, by omega, by go_num, ho4, hw4.congr fun j hj => ?_⟩
        rcases lt4 hj with rfl | rfl | rfl | rfl
        · exact hst.1
        · exact hst.2.1
        · exact hst.2.2.1
        · exact hst.2.2.2
      case measure => simp [intOf]; omega
    · as_aux_lemma =>
      obtain rfl : k = 8 := by omega
      have hw0 := to_q4 hw0
      obtain ⟨v0, HV0⟩ : ∃ v, Hid (v = fei stepI (wdF f) rk (4 * 8 + 0)) := ⟨_, Lib.hid rfl⟩
      obtain ⟨v1, HV1⟩ : ∃ v, Hid (v = fei stepI (wdF f) rk (4 * 8 + 1)) := ⟨_, Lib.hid rfl⟩
      obtain ⟨v2, HV2⟩ : ∃ v, Hid (v = fei stepI (wdF f) rk (4 * 8 + 2)) := ⟨_, Lib.hid rfl⟩
      obtain ⟨v3, HV3⟩ : ∃ v, Hid (v = fei stepI (wdF f) rk (4 * 8 + 3)) := ⟨_, Lib.hid rfl⟩
      rw [← HV0.out, ← HV1.out, ← HV2.out, ← HV3.out] at hw0
      obtain ⟨cy0, cy1, cy2, cy3⟩ := four_cells hw0
      have fz0 := hw0.frozen 0
      have fz1 := hw0.frozen 1
      have fz2 := hw0.frozen 2
      have fz3 := hw0.frozen 3
      go_wp2_with fail
      go_region
      go_wp2_with fail
      generalize hW : World.setCell _ _ _ = W5
      have h5 : Only [g] w W5 ∧ ArrU W5 g 46 4 (q4 v3 v2 v1 v0) := by rw [← hW]; exact four ho0 (by simp) hw0
      obtain ⟨ho5, hw5⟩ := h5
      clear hW fz0 fz1 fz2 fz3 cy0 cy1 cy2 cy3
      have hw5 : ArrU W5 g 46 4 (fun j => fei stepI (wdF f) rk (35 - j)) := hw5.congr fun j hj => by
        rcases lt4 hj with rfl | rfl | rfl | rfl
        · exact HV3.out
        · exact HV2.out
        · exact HV1.out
        · exact HV0.out
      refine (final_any gr g _ o2 W5.drew (hr.only ho5.drew (by simpa using n2)) hw5.drew (fun j => fei_u32 u32_stepI (fun j _ => wdF_u32 f j) _) (fun e => n2 e.symm)).mono ?_
      rintro e W6 ⟨rfl, ho6, hr6⟩
      have hd6 : ArrB W6 gd 16 o3 := (hd.only ho5.drew (by simpa using n3)).only ho6 (by simpa using n4)
      have ho7 : Only [g, gr, gd] w W6 := (ho5.drew.mono (by simp)).then_ ho6 (by simp)
      go_wp2_with (refine copy16 rfl (.tmp 418) (.tmp 419) rfl gd 0 16 16 ⟨gr, 0, none⟩ 16 _ _ rfl rfl hd6 (by omega) (hr6.src0 (Nat.le_refl _)) ?_; intro W8 ho8 hd8)
      simp [bodyPost, results, Tryd.results42]
      exact ⟨rfl, ho7.then_ ho8 (by simp), hd8.congr fun j hj => by rw [if_pos (by omega), Nat.sub_zero], ⟨_, (hw5.drew.only ho6 (by simpa using fun e => n2 e.symm)).only ho8 (by simpa using fun e => n3 e.symm)⟩, _, hr6.only ho8 (by simpa using fun e => n4 e.symm)⟩
end Go.Proofs.YtkfagcpboehjjaaDoor
