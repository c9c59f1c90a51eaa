/- A block is encrypted: nothing panics, some bytes come out. No condition but where things lie. -/
import Derived.Test.YteioblloppcjoaaDoorCopy
import Derived.BigRegion
import Derived.StillTailTactics
import Derived.Outline
namespace Go.Proofs.YteioblloppcjoaaDoor
set_option maxRecDepth 100000
open Go.RowKit

/-- What a step reads of the four tables. -/
theorem tab_facts {w : World} (ht : Tabs w) (x : Int) : ∃ t0 t1 t2 t3 : Int,
    (w.cell? ⟨2, (bits .and .u32 x 255).toNat, none⟩ = some (.int .u32 t0) ∧ w.cell? ⟨3, (bits .and .u32 (x / 256) 255).toNat, none⟩ = some (.int .u32 t1) ∧ w.cell? ⟨4, (bits .and .u32 (x / 65536) 255).toNat, none⟩ = some (.int .u32 t2) ∧ w.cell? ⟨5, (bits .and .u32 (x / 16777216) 255).toNat, none⟩ = some (.int .u32 t3)) ∧
    (0 ≤ bits .and .u32 x 255 ∧ 0 ≤ bits .and .u32 (x / 256) 255 ∧ 0 ≤ bits .and .u32 (x / 65536) 255 ∧ 0 ≤ bits .and .u32 (x / 16777216) 255) ∧
    (bits .and .u32 x 255 < 256 ∧ bits .and .u32 (x / 256) 255 < 256 ∧ bits .and .u32 (x / 65536) 255 < 256 ∧ bits .and .u32 (x / 16777216) 255 < 256) := by
  have a0 := and255 x
  have a1 := and255 (x / 256)
  have a2 := and255 (x / 65536)
  have a3 := and255 (x / 16777216)
  obtain ⟨t0, _, c0⟩ := ht.s0 (bits .and .u32 x 255).toNat (by omega)
  obtain ⟨t1, _, c1⟩ := ht.s1 (bits .and .u32 (x / 256) 255).toNat (by omega)
  obtain ⟨t2, _, c2⟩ := ht.s2 (bits .and .u32 (x / 65536) 255).toNat (by omega)
  obtain ⟨t3, _, c3⟩ := ht.s3 (bits .and .u32 (x / 16777216) 255).toNat (by omega)
  exact ⟨t0, t1, t2, t3, ⟨c0, c1, c2, c3⟩, ⟨a0.1, a1.1, a2.1, a3.1⟩, ⟨a0.2, a1.2, a2.2, a3.2⟩⟩

set_option maxHeartbeats 16000000 in
theorem crypt_any (gk g gr gd n c : Nat) (ad : Addr) (w : World) (hn : 16 ≤ n) (hk : Wds w gk 32) (hg : Wds w g 4) (hr : Bys w gr 16) (hd : Bys w gd 16) (hs : Src w ad 16) (ht : Tabs w) (h7 : 7 ≤ w.heap.size)
    (hl : ad.block < w.heap.size) (hne : ad.block ≠ g) (n1 : gk ≠ g) (n2 : gr ≠ g) (n3 : gd ≠ g) (n4 : gd ≠ gr) (j1 : 7 ≤ g) :
    Calls Tryd.prog 19 #[.slice (some ⟨gk, 0, none⟩) 32 32, .slice (some ⟨g, 0, none⟩) 4 4, .slice (some ⟨gr, 0, none⟩) 16 16, .slice (some ⟨gd, 0, none⟩) 16 16, .slice (some ad) n c, .bool false] w (Done [g, gr, gd] (fun w' => Bys w' gd 16 ∧ Wds w' g 4 ∧ Bys w' gr 16) w) := by
  go_enter Tryd.func19, Tryd.ntmps19
  go_wp2_with (go_at_call 24; refine (init_any g ad n c w hn hg hs hl hne).mono ?_; rintro e w1 ⟨rfl, ho1, hg1⟩; obtain ⟨b3, _, cb3⟩ := hg1.at_ (j := 3) (by omega))
  clear cb3
  go_loopw [15] (fun i wr => ∃ k : Nat, k ≤ 8 ∧ i = .int .i64 k ∧ Only [g] w wr ∧ Wds wr g 4) (fun i _ => 8 - (intOf i).toNat)
  case atStart => exact ⟨0, by omega, rfl, ho1, hg1⟩
  case round =>
    clear ho1 hg1
    obtain ⟨k, hk8, rfl, ho0, hw0⟩ := hrel
    by_cases hlt : k < 8
    · as_aux_lemma =>
      have e0 : IntKind.i64.wrap (4 * (k : Int)) = ((4 * k : Nat) : Int) := by rw [IntWalk.i64_in _ (by omega)]; omega
      have e1 : IntKind.i64.wrap (((4 * k : Nat) : Int) + 4) = ((4 * k + 4 : Nat) : Int) := by rw [IntWalk.i64_in _ (by omega)]; omega
      have l1 : (k : Int) < 8 := by omega
      have l2 : ((4 * k + 4 : Nat) : Int) ≤ 32 := by omega
      have e2 : 4 * k + 4 - 4 * k = 4 := by omega
      have g2 : ¬ (2 = g) := by omega
      have g3 : ¬ (3 = g) := by omega
      have g4 : ¬ (4 = g) := by omega
      have g5 : ¬ (5 = g) := by omega
      go_wp2_with fail
      obtain ⟨y0, by0, cy0⟩ := hw0.at_ (j := 0) (by omega)
      obtain ⟨y1, by1, cy1⟩ := hw0.at_ (j := 1) (by omega)
      obtain ⟨y2, by2, cy2⟩ := hw0.at_ (j := 2) (by omega)
      obtain ⟨y3, by3, cy3⟩ := hw0.at_ (j := 3) (by omega)
      obtain ⟨s, bs, cs⟩ := (hk.only ho0 (by simpa using n1)).at_ (j := 4 * k) (by omega)
      obtain ⟨x, hx, ex⟩ : ∃ x, U32 x ∧ bits .xor .u32 (bits .xor .u32 (bits .xor .u32 y1 y2) y3) s = x := ⟨_, u32_bits _ _ _, rfl⟩
      obtain ⟨t0, t1, t2, t3, ⟨f0, f1, f2, f3⟩, ⟨i0, i1, i2, i3⟩, ⟨l0, l1, l2, l3⟩⟩ := tab_facts (ht.only ho0 h7 (by simpa using j1)) x
      obtain ⟨z, hz, ez⟩ : ∃ z, U32 z ∧ bits .xor .u32 (bits .xor .u32 (bits .xor .u32 (bits .xor .u32 y0 t0) t1) t2) t3 = z := ⟨_, u32_bits _ _ _, rfl⟩
      unfold U32 at hx
      have fz := hw0.frozen 0
      go_quiet (fail)
      go_wp2_with fail
      refine region_quiet_tail 28 (by kernel_rfl) (by kernel_rfl) ?_
      simp only [List.take_succ_cons, List.take_zero, List.drop_succ_cons, List.drop_zero]
      repeat (quiet_step (fail))
      refine wpQuiet_nil ?_
      intro _ hw'
      obtain ⟨nq, rfl⟩ := hw'
      go_wp2_with fail
      generalize hW : World.setCell _ _ _ = W1
      have ho1 : Only [g] w W1 := by rw [← hW]; exact (ho0.drewN _).setCell (p := ⟨g, 0, none⟩) (fun _ => by simp) _
      have hw1 : Wds W1 g 4 := by rw [← hW]; exact (hw0.drewN _).set_ 0 hz
      clear hW fz hx i0 i1 i2 i3 l0 l1 l2 l3 f0 f1 f2 f3 ex ez bs cs cy0 cy1 cy2 cy3 by0 by1 by2 by3 hz
      go_wp2_with fail
      obtain ⟨y0, by0, cy0⟩ := hw1.at_ (j := 0) (by omega)
      obtain ⟨y1, by1, cy1⟩ := hw1.at_ (j := 1) (by omega)
      obtain ⟨y2, by2, cy2⟩ := hw1.at_ (j := 2) (by omega)
      obtain ⟨y3, by3, cy3⟩ := hw1.at_ (j := 3) (by omega)
      obtain ⟨s, bs, cs⟩ := (hk.only ho1 (by simpa using n1)).at_ (j := 4 * k + 1) (by omega)
      obtain ⟨x, hx, ex⟩ : ∃ x, U32 x ∧ bits .xor .u32 (bits .xor .u32 (bits .xor .u32 y0 y2) y3) s = x := ⟨_, u32_bits _ _ _, rfl⟩
      obtain ⟨t0, t1, t2, t3, ⟨f0, f1, f2, f3⟩, ⟨i0, i1, i2, i3⟩, ⟨l0, l1, l2, l3⟩⟩ := tab_facts (ht.only ho1 h7 (by simpa using j1)) x
      obtain ⟨z, hz, ez⟩ : ∃ z, U32 z ∧ bits .xor .u32 (bits .xor .u32 (bits .xor .u32 (bits .xor .u32 y1 t0) t1) t2) t3 = z := ⟨_, u32_bits _ _ _, rfl⟩
      unfold U32 at hx
      have fz := hw1.frozen 1
      go_quiet (fail)
      go_wp2_with fail
      refine region_quiet_tail 28 (by kernel_rfl) (by kernel_rfl) ?_
      simp only [List.take_succ_cons, List.take_zero, List.drop_succ_cons, List.drop_zero]
      repeat (quiet_step (fail))
      refine wpQuiet_nil ?_
      intro _ hw'
      obtain ⟨nq, rfl⟩ := hw'
      go_wp2_with fail
      generalize hW : World.setCell _ _ _ = W2
      have ho2 : Only [g] w W2 := by rw [← hW]; exact (ho1.drewN _).setCell (p := ⟨g, 1, none⟩) (fun _ => by simp) _
      have hw2 : Wds W2 g 4 := by rw [← hW]; exact (hw1.drewN _).set_ 1 hz
      clear hW fz hx i0 i1 i2 i3 l0 l1 l2 l3 f0 f1 f2 f3 ex ez bs cs cy0 cy1 cy2 cy3 by0 by1 by2 by3 hz
      go_wp2_with fail
      obtain ⟨y0, by0, cy0⟩ := hw2.at_ (j := 0) (by omega)
      obtain ⟨y1, by1, cy1⟩ := hw2.at_ (j := 1) (by omega)
      obtain ⟨y2, by2, cy2⟩ := hw2.at_ (j := 2) (by omega)
      obtain ⟨y3, by3, cy3⟩ := hw2.at_ (j := 3) (by omega)
      obtain ⟨s, bs, cs⟩ := (hk.only ho2 (by simpa using n1)).at_ (j := 4 * k + 2) (by omega)
      obtain ⟨x, hx, ex⟩ : ∃ x, U32 x ∧ bits .xor .u32 (bits .xor .u32 (bits .xor .u32 y0 y1) y3) s = x := ⟨_, u32_bits _ _ _, rfl⟩
      obtain ⟨t0, t1, t2, t3, ⟨f0, f1, f2, f3⟩, ⟨i0, i1, i2, i3⟩, ⟨l0, l1, l2, l3⟩⟩ := tab_facts (ht.only ho2 h7 (by simpa using j1)) x
      obtain ⟨z, hz, ez⟩ : ∃ z, U32 z ∧ bits .xor .u32 (bits .xor .u32 (bits .xor .u32 (bits .xor .u32 y2 t0) t1) t2) t3 = z := ⟨_, u32_bits _ _ _, rfl⟩
      unfold U32 at hx
      have fz := hw2.frozen 2
      go_quiet (fail)
      go_wp2_with fail
      refine region_quiet_tail 28 (by kernel_rfl) (by kernel_rfl) ?_
      simp only [List.take_succ_cons, List.take_zero, List.drop_succ_cons, List.drop_zero]
      repeat (quiet_step (fail))
      refine wpQuiet_nil ?_
      intro _ hw'
      obtain ⟨nq, rfl⟩ := hw'
      go_wp2_with fail
      generalize hW : World.setCell _ _ _ = W3
      have ho3 : Only [g] w W3 := by rw [← hW]; exact (ho2.drewN _).setCell (p := ⟨g, 2, none⟩) (fun _ => by simp) _
      have hw3 : Wds W3 g 4 := by rw [← hW]; exact (hw2.drewN _).set_ 2 hz
      clear hW fz hx i0 i1 i2 i3 l0 l1 l2 l3 f0 f1 f2 f3 ex ez bs cs cy0 cy1 cy2 cy3 by0 by1 by2 by3 hz
      go_wp2_with fail
      obtain ⟨y0, by0, cy0⟩ := hw3.at_ (j := 0) (by omega)
      obtain ⟨y1, by1, cy1⟩ := hw3.at_ (j := 1) (by omega)
      obtain ⟨y2, by2, cy2⟩ := hw3.at_ (j := 2) (by omega)
      obtain ⟨y3, by3, cy3⟩ := hw3.at_ (j := 3) (by omega)
      obtain ⟨s, bs, cs⟩ := (hk.only ho3 (by simpa using n1)).at_ (j := 4 * k + 3) (by omega)
      obtain ⟨x, hx, ex⟩ : ∃ x, U32 x ∧ bits .xor .u32 (bits .xor .u32 (bits .xor .u32 y1 y2) y0) s = x := ⟨_, u32_bits _ _ _, rfl⟩
      obtain ⟨t0, t1, t2, t3, ⟨f0, f1, f2, f3⟩, ⟨i0, i1, i2, i3⟩, ⟨l0, l1, l2, l3⟩⟩ := tab_facts (ht.only ho3 h7 (by simpa using j1)) x
      obtain ⟨z, hz, ez⟩ : ∃ z, U32 z ∧ bits .xor .u32 (bits .xor .u32 (bits .xor .u32 (bits .xor .u32 y3 t0) t1) t2) t3 = z := ⟨_, u32_bits _ _ _, rfl⟩
      unfold U32 at hx
      have fz := hw3.frozen 3
      go_quiet (fail)
      go_wp2_with fail
      refine region_quiet_tail 28 (by kernel_rfl) (by kernel_rfl) ?_
      simp only [List.take_succ_cons, List.take_zero, List.drop_succ_cons, List.drop_zero]
      repeat (quiet_step (fail))
      refine wpQuiet_nil ?_
      intro _ hw'
      obtain ⟨nq, rfl⟩ := hw'
      go_wp2_with fail
      generalize hW : World.setCell _ _ _ = W4
      have ho4 : Only [g] w W4 := by rw [← hW]; exact (ho3.drewN _).setCell (p := ⟨g, 3, none⟩) (fun _ => by simp) _
      have hw4 : Wds W4 g 4 := by rw [← hW]; exact (hw3.drewN _).set_ 3 hz
      clear hW fz hx i0 i1 i2 i3 l0 l1 l2 l3 f0 f1 f2 f3 ex ez bs cs cy0 cy1 cy2 cy3 by0 by1 by2 by3 hz
      go_wp2_with fail
      go_roundw
      case rel => exact ⟨k + 1, by omega, by go_num, ho4, hw4⟩
      case measure => simp [intOf]; omega
    · as_aux_lemma =>
      obtain ⟨y0, by0, cy0⟩ := hw0.at_ (j := 0) (by omega)
      obtain ⟨y1, by1, cy1⟩ := hw0.at_ (j := 1) (by omega)
      obtain ⟨y2, by2, cy2⟩ := hw0.at_ (j := 2) (by omega)
      obtain ⟨y3, by3, cy3⟩ := hw0.at_ (j := 3) (by omega)
      have fz0 := hw0.frozen 0
      have fz1 := hw0.frozen 1
      have fz2 := hw0.frozen 2
      have fz3 := hw0.frozen 3
      go_wp2_with fail
      go_region
      go_wp2_with fail
      generalize hW : World.setCell _ _ _ = W5
      have h5 : Only [g] w W5 ∧ Wds W5 g 4 := by rw [← hW]; exact four ho0 (by simp) hw0 by3 by2 by1 by0
      obtain ⟨ho5, hw5⟩ := h5
      clear hW fz0 fz1 fz2 fz3 cy0 cy1 cy2 cy3
      refine (final_any gr g W5.drew (hr.only ho5.drew (by simpa using n2)) hw5.drew (fun e => n2 e.symm)).mono ?_
      rintro e W6 ⟨rfl, ho6, hr6⟩
      have hd6 : Bys W6 gd 16 := (hd.only ho5.drew (by simpa using n3)).only ho6 (by simpa using n4)
      have ho7 : Only [g, gr, gd] w W6 := (ho5.drew.mono (by simp)).then_ ho6 (by simp)
      go_wp2_with (refine copy16 rfl (.tmp 418) (.tmp 419) rfl gd 0 16 16 ⟨gr, 0, none⟩ 16 rfl rfl hd6 (by omega) (hr6.src (by omega)) ?_; intro W8 ho8 hd8)
      simp [bodyPost, results, Tryd.results19]
      exact ⟨rfl, ho7.then_ ho8 (by simp), hd8, (hw5.drew.only ho6 (by simpa using fun e => n2 e.symm)).only ho8 (by simpa using fun e => n3 e.symm), hr6.only ho8 (by simpa using fun e => n4 e.symm)⟩
end Go.Proofs.YteioblloppcjoaaDoor
