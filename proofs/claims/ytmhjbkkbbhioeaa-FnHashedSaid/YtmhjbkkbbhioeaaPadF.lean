/- The package's SM3 object: padding, and which blocks it turns. (Printed by gen_padf.py from Pad.) -/
import Derived.Test.YtmhjbkkbbhioeaaPad
import Derived.Test.YtmhjbkkbbhioeaaSpareF
namespace Go.Proofs.Ytmhjbkkbbhioeaa
open Go.RowKit

theorem Fr.step {w wk w' : World} {v vk v' : Value} (h : Fr w v wk vk) (hs : w.heap.size ≤ wk.heap.size) (o : Obj) (h2 : Fr (wk.alloc o) vk w' v') : Fr w v w' v' :=
  (h.trans hs (Fr.alloc o)).trans (by simp; omega) h2

def PadPostF (w : World) (base b : Nat) (s : St) (N : Int) (v : Value) (u p : List Int) (e : Ending) (w' : World) : Prop :=
  ∃ v', e = .returned v' ∧ OwnS w' base v' p ∧ Below base w w' ∧ Blk w' b 55 (smCells s N v) ∧ OwnS w' base v u ∧ Fr w v w' v'

set_option maxRecDepth 100000 in
set_option maxHeartbeats 1000000 in
theorem pad_f (base b : Nat) (s : St) (N : Int) (v : Value) (u : List Int) (w : World) (hb : base ≤ b) (hO : Blk w b 55 (smCells s N v)) (hV : OwnS w base v u) (hN : 0 ≤ N ∧ N ≤ 8000000) (hu : u.length < 64) :
    Calls Try.prog 39 #[.pointer (some ⟨b, 0, none⟩)] w (PadPostF w base b s N v u (padTail u N)) := by
  have hcs8 := smCells_8 s N v
  have hlt := hO.lt
  have hbw : base ≤ w.heap.size := by omega
  have c8 := hO.cell 8
  have c9 := hO.cell 9
  rw [hcs8] at c8
  rw [smCells_9] at c9
  have hP := Apart.self hV
  go_enter Try.func39, Try.ntmps39
  go_wp2_with (at_builtin; refine app_f _ rfl (.tmp 9) (.tmp 10) rfl base v u rfl (hV.alloc _) (w.heap.size + 1) _ 1 1 [128] rfl (Reads.lit w 5 #[.int .u8 128] (Nat.le_refl _)) (by omega) (by simp; omega) ?_; intro v1 w1 hS1 hB1' hK1 hA1 hF1')
  have hF1 := (Fr.refl w v).step (Nat.le_refl _) _ hF1'
  have hB1 : Below base w w1 := ((Below.refl base w).alloc (by omega) _).trans hB1'
  have hO1 := hK1 b 55 _ (by decide) (hO.alloc _)
  obtain ⟨hV1, hP1⟩ := hA1 v u (hV.alloc _) hP
  have hl1 : (u ++ [(128 : Int)]).length = u.length + 1 := by simp
  obtain ⟨g1, o1, d1, _, e1, _⟩ := (id hS1)
  rw [hl1] at e1
  subst e1
  clear c8 c9 hB1' hK1 hA1 hl1 hF1'
  go_loopw [3] (fun v' wr => ∃ g o c m : Nat, v' = .slice (some ⟨g, o, none⟩) m c ∧ u.length + 1 ≤ m ∧ m ≤ u.length + 1 + zn u.length ∧ OwnS wr base (.slice (some ⟨g, o, none⟩) m c) (u ++ [128] ++ List.replicate (m - (u.length + 1)) 0) ∧ Below base w wr ∧
      Blk wr b 55 (smCells s N v) ∧ OwnS wr base v u ∧ Apart v (.slice (some ⟨g, o, none⟩) m c) u.length ∧ Fr w v wr (.slice (some ⟨g, o, none⟩) m c))
    (fun v _ => match v with | .slice _ m _ => u.length + 1 + zn u.length - m | _ => 0)
  case atStart =>
    exact ⟨g1, o1, d1, u.length + 1, rfl, by omega, by omega, by simpa using hS1, hB1, hO1, hV1, hP1, hF1⟩
  case round =>
    clear hS1 hB1 hO1 hV1 hP1 hF1
    obtain ⟨g, o, c, m, rfl, hm0, hm1, hS, hB, hO2, hV2, hP2, hF2⟩ := hrel
    have hz : zn u.length < 64 := by unfold zn; omega
    have hBs := hB.size
    by_cases hlt2 : m = u.length + 1 + zn u.length
    · have ht : ((m : Int) % 64 == 56) = true := by
        have := (zn_stop hm0 hm1); simp; omega
      have ht2 : ((m : Int) % 64 != 56) = false := by
        have := (zn_stop hm0 hm1); simp; omega
      have hpad := padTail_eq u N m hN hlt2
      obtain ⟨L, hL⟩ : ∃ L, (padTail u N).length = L := ⟨_, rfl⟩
      have hL64 : ((L : Int) % 64 == 0) = true := by have := padTail_mod u N; rw [hL] at this; simp; omega
      have hL65 : ((L : Int) % 64 != 0) = false := by have := padTail_mod u N; rw [hL] at this; simp; omega
      have hLm : L ≤ 200 := by have := padTail_length u N; omega
      have LT := Lib.hid hlt2
      clear hlt2
      obtain ⟨v2, e2⟩ : ∃ v2, v2 = Value.slice (some ⟨g, o, none⟩) m c := ⟨_, rfl⟩
      have hS2 := hS
      rw [← e2] at hS2 hP2 hF2
      have hV2' := hV2
      obtain ⟨w2, ew⟩ : ∃ w2, w2 = wr := ⟨_, rfl⟩
      subst ew
      subst e2
      have c2 := hO2.cell 8
      rw [hcs8] at c2
      have hB2 := hB
      clear hB hS hV2'
      go_wp2_with (first
        | (at_builtin; refine app_f _ rfl (.tmp 20) (.tmp 28) rfl base _ _ rfl (hS2.alloc _) (w2.heap.size + 1) _ 1 1 [_] rfl (Reads.lit w2 5 #[.int .u8 _] (Nat.le_refl _)) (by simp; omega) (by simp; have := hB2.size; omega) ?_
           intro v3 w3 hS3 hB3' hK3 hA3 hF3'
           have hF3 := hF2.step hB2.size _ hF3'
           have hB3 := (hB2.alloc (Nat.le_trans hbw hB2.size) _).trans hB3'
           have hO3 := hK3 b 55 _ (by decide) (hO2.alloc _)
           have c3 := hO3.cell 8
           rw [hcs8] at c3
           obtain ⟨hV3, hP3⟩ := hA3 v u (hV2.alloc _) hP2)
        | (at_builtin; refine app_f _ rfl (.tmp 30) (.tmp 38) rfl base v3 _ rfl (hS3.alloc _) (w3.heap.size + 1) _ 1 1 [_] rfl (Reads.lit w3 5 #[.int .u8 _] (Nat.le_refl _)) (by simp; omega) (by simp; have := hB3.size; omega) ?_
           intro v4 w4 hS4 hB4' hK4 hA4 hF4'
           have hF4 := hF3.step hB3.size _ hF4'
           have hB4 := (hB3.alloc (Nat.le_trans hbw hB3.size) _).trans hB4'
           have hO4 := hK4 b 55 _ (by decide) (hO3.alloc _)
           have c4 := hO4.cell 8
           rw [hcs8] at c4
           obtain ⟨hV4, hP4⟩ := hA4 v u (hV3.alloc _) hP3)
        | (at_builtin; refine app_f _ rfl (.tmp 40) (.tmp 48) rfl base v4 _ rfl (hS4.alloc _) (w4.heap.size + 1) _ 1 1 [_] rfl (Reads.lit w4 5 #[.int .u8 _] (Nat.le_refl _)) (by simp; omega) (by simp; have := hB4.size; omega) ?_
           intro v5 w5 hS5 hB5' hK5 hA5 hF5'
           have hF5 := hF4.step hB4.size _ hF5'
           have hB5 := (hB4.alloc (Nat.le_trans hbw hB4.size) _).trans hB5'
           have hO5 := hK5 b 55 _ (by decide) (hO4.alloc _)
           have c5 := hO5.cell 8
           rw [hcs8] at c5
           obtain ⟨hV5, hP5⟩ := hA5 v u (hV4.alloc _) hP4)
        | (at_builtin; refine app_f _ rfl (.tmp 50) (.tmp 58) rfl base v5 _ rfl (hS5.alloc _) (w5.heap.size + 1) _ 1 1 [_] rfl (Reads.lit w5 5 #[.int .u8 _] (Nat.le_refl _)) (by simp; omega) (by simp; have := hB5.size; omega) ?_
           intro v6 w6 hS6 hB6' hK6 hA6 hF6'
           have hF6 := hF5.step hB5.size _ hF6'
           have hB6 := (hB5.alloc (Nat.le_trans hbw hB5.size) _).trans hB6'
           have hO6 := hK6 b 55 _ (by decide) (hO5.alloc _)
           have c6 := hO6.cell 8
           rw [hcs8] at c6
           obtain ⟨hV6, hP6⟩ := hA6 v u (hV5.alloc _) hP5)
        | (at_builtin; refine app_f _ rfl (.tmp 60) (.tmp 68) rfl base v6 _ rfl (hS6.alloc _) (w6.heap.size + 1) _ 1 1 [_] rfl (Reads.lit w6 5 #[.int .u8 _] (Nat.le_refl _)) (by simp; omega) (by simp; have := hB6.size; omega) ?_
           intro v7 w7 hS7 hB7' hK7 hA7 hF7'
           have hF7 := hF6.step hB6.size _ hF7'
           have hB7 := (hB6.alloc (Nat.le_trans hbw hB6.size) _).trans hB7'
           have hO7 := hK7 b 55 _ (by decide) (hO6.alloc _)
           have c7 := hO7.cell 8
           rw [hcs8] at c7
           obtain ⟨hV7, hP7⟩ := hA7 v u (hV6.alloc _) hP6)
        | (at_builtin; refine app_f _ rfl (.tmp 70) (.tmp 78) rfl base v7 _ rfl (hS7.alloc _) (w7.heap.size + 1) _ 1 1 [_] rfl (Reads.lit w7 5 #[.int .u8 _] (Nat.le_refl _)) (by simp; omega) (by simp; have := hB7.size; omega) ?_
           intro v8 w8 hS8 hB8' hK8 hA8 hF8'
           have hF8 := hF7.step hB7.size _ hF8'
           have hB8 := (hB7.alloc (Nat.le_trans hbw hB7.size) _).trans hB8'
           have hO8 := hK8 b 55 _ (by decide) (hO7.alloc _)
           have c8 := hO8.cell 8
           rw [hcs8] at c8
           obtain ⟨hV8, hP8⟩ := hA8 v u (hV7.alloc _) hP7)
        | (at_builtin; refine app_f _ rfl (.tmp 80) (.tmp 88) rfl base v8 _ rfl (hS8.alloc _) (w8.heap.size + 1) _ 1 1 [_] rfl (Reads.lit w8 5 #[.int .u8 _] (Nat.le_refl _)) (by simp; omega) (by simp; have := hB8.size; omega) ?_
           intro v9 w9 hS9 hB9' hK9 hA9 hF9'
           have hF9 := hF8.step hB8.size _ hF9'
           have hB9 := (hB8.alloc (Nat.le_trans hbw hB8.size) _).trans hB9'
           have hO9 := hK9 b 55 _ (by decide) (hO8.alloc _)
           have c9 := hO9.cell 8
           rw [hcs8] at c9
           obtain ⟨hV9, hP9⟩ := hA9 v u (hV8.alloc _) hP8)
        | (at_builtin; refine app_f _ rfl (.tmp 90) (.tmp 98) rfl base v9 _ rfl (hS9.alloc _) (w9.heap.size + 1) _ 1 1 [_] rfl (Reads.lit w9 5 #[.int .u8 _] (Nat.le_refl _)) (by simp; omega) (by simp; have := hB9.size; omega) ?_
           intro v10 w10 hS10 hB10' hK10 hA10 hF10'
           have hF10 := hF9.step hB9.size _ hF10'
           have hB10 := (hB9.alloc (Nat.le_trans hbw hB9.size) _).trans hB10'
           have hO10 := hK10 b 55 _ (by decide) (hO9.alloc _)
           have c10 := hO10.cell 8
           rw [hcs8] at c10
           obtain ⟨hV10, hP10⟩ := hA10 v u (hV9.alloc _) hP9
           rw [hpad] at hS10
           obtain ⟨g10, o10, d10, _, e10, _⟩ := (id hS10)
           rw [hL] at e10
           subst e10))
      go_ret
      refine ⟨_, rfl, ?_, hB10, hO10, hV10, hF10⟩
      rw [← hL] at hS10 ⊢
      exact hS10
    · have ht : ((m : Int) % 64 == 56) = false := by
        have := (zn_stop hm0 hm1); simp; omega
      have ht2 : ((m : Int) % 64 != 56) = true := by
        have := (zn_stop hm0 hm1); simp; omega
      go_wp2_with (at_builtin; refine app_f _ rfl (.tmp 17) (.tmp 18) rfl base _ _ rfl (hS.alloc _) (wr.heap.size + 1) _ 1 1 [0] rfl (Reads.lit wr 5 #[.int .u8 0] (Nat.le_refl _)) (by simp; omega) (by simp; omega) ?_; intro v3 w3 hS3 hB3 hK3 hA3 hF3')
      have hF3 := hF2.step hBs _ hF3'
      have hO3 := hK3 b 55 _ (by decide) (hO2.alloc _)
      obtain ⟨hV3, hP3⟩ := hA3 v u (hV2.alloc _) hP2
      obtain ⟨g3, o3, c3, _, e3, _⟩ := (id hS3)
      have hlen : (u ++ [128] ++ List.replicate (m - (u.length + 1)) 0 ++ [(0 : Int)]).length = m + 1 := by
        simp; omega
      rw [hlen] at e3
      subst e3
      refine ⟨⟨g3, o3, c3, m + 1, rfl, by omega, by omega, ?_, (hB.alloc (Nat.le_trans hbw hBs) _).trans hB3, hO3, hV3, hP3, hF3⟩, by show u.length + 1 + zn u.length - (m + 1) < u.length + 1 + zn u.length - m; omega⟩
      rw [show m + 1 - (u.length + 1) = (m - (u.length + 1)) + 1 by omega, List.replicate_succ', ← List.append_assoc]
      exact hS3
end Go.Proofs.Ytmhjbkkbbhioeaa
