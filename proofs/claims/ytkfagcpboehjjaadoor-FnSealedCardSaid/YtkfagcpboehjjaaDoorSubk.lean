/- The keys of the rounds, exactly. No condition but where things lie. -/
import Derived.Test.YtkfagcpboehjjaaDoorCopy
import Derived.BigRegion
namespace Go.Proofs.YtkfagcpboehjjaaDoor
set_option maxRecDepth 100000
open Go.RowKit

def ZU (n : Nat) : Array Value := Array.replicate n (.int .u32 0)
def ZB (n : Nat) : Array Value := Array.replicate n (.int .u8 0)
theorem makeU32 (w : World) : (Instr.makeSlice 57 (.int .i64 32) (.int .i64 32)).run Tryd.prog w = .ok (.slice (some ⟨w.heap.size, 0, none⟩) 32 32) (w.alloc (.cells (ZU 32) 46)) := by kernel_rfl
theorem makeU4 (w : World) : (Instr.makeSlice 57 (.int .i64 4) (.int .i64 4)).run Tryd.prog w = .ok (.slice (some ⟨w.heap.size, 0, none⟩) 4 4) (w.alloc (.cells (ZU 4) 46)) := by kernel_rfl
theorem makeB16 (w : World) : (Instr.makeSlice 22 (.int .i64 16) (.int .i64 16)).run Tryd.prog w = .ok (.slice (some ⟨w.heap.size, 0, none⟩) 16 16) (w.alloc (.cells (ZB 16) 5)) := by kernel_rfl
theorem ArrU.new (w : World) (n : Nat) : ArrU (w.alloc (.cells (ZU n) 46)) w.heap.size 46 n (fun _ => 0) := ⟨ZU n, Blk.new w 46 _, by simp [ZU], fun j hj => by simp [ZU, hj]⟩
theorem ArrB.new (w : World) (n : Nat) : ArrB (w.alloc (.cells (ZB n) 5)) w.heap.size n (fun _ => 0) := ⟨ZB n, Blk.new w 5 _, by simp [ZB], fun j hj => by simp [ZB, hj]⟩

/-- The words that the keys begin with, and the keys. -/
def k0F (f : Nat → Int) (j : Nat) : Int := xr (wdF f j) (FK.getD j 0)
def keyF (f : Nat → Int) (j : Nat) : Int := fei keyI (k0F f) (fun i => CK.getD i 0) (j + 4)
theorem u32_keyI (a b : Int) : U32 (keyI a b) := u32_xr _ _

/-- The keys' row comes back, in new memory. -/
def GotK (f : Nat → Int) (w : World) (e : Ending) (w' : World) : Prop := e = .returned (.slice (some ⟨w.heap.size, 0, none⟩) 32 32) ∧ ArrU w' w.heap.size 46 32 (keyF f) ∧ Only [] w w' ∧ w.heap.size + 1 < w'.heap.size

set_option maxHeartbeats 8000000 in
theorem subk_any (ad : Addr) (n c : Nat) (f : Nat → Int) (w : World) (hn : 16 ≤ n) (hs : Src w ad 16 f) (hf : Bf f) (ht : Tabs w) (h7 : 7 ≤ w.heap.size) (hl : ad.block < w.heap.size) :
    Calls Tryd.prog 41 #[.slice (some ad) n c] w (GotK f w) := by
  have m1 := makeU32
  have m2 := makeU4
  have hk1 : ArrU ((w.alloc (.cells (ZU 32) 46)).alloc (.cells (ZU 4) 46)) w.heap.size 46 32 (fun _ => 0) := (ArrU.new w 32).alloc _
  have hb1 : ArrU ((w.alloc (.cells (ZU 32) 46)).alloc (.cells (ZU 4) 46)) (w.heap.size + 1) 46 4 (fun _ => 0) := by simpa using ArrU.new (w.alloc (.cells (ZU 32) 46)) 4
  have ho1 : Only [] w ((w.alloc (.cells (ZU 32) 46)).alloc (.cells (ZU 4) 46)) := ((Only.refl _ _).alloc _).alloc _
  have hs1 := hs.only ho1 hl (by simp)
  go_enter Tryd.func41, Tryd.ntmps41
  go_wp2_with fail
  refine (init_any (w.heap.size + 1) ad n c f _ _ hn hb1 hs1 hf (by simp; omega) (by omega)).mono ?_
  rintro e W0 ⟨rfl, o1, hb0⟩
  have ho0 : Only [] w W0 := ho1.then_ o1 (by intro k hk hl; simp at hk; omega)
  have hk0 : ArrU W0 w.heap.size 46 32 (fun _ => 0) := hk1.only o1 (by simp)
  have hb0 := to_q4 hb0
  obtain ⟨y0, HY0⟩ : ∃ v, Hid (v = wdF f 0) := ⟨_, Lib.hid rfl⟩
  obtain ⟨y1, HY1⟩ : ∃ v, Hid (v = wdF f 1) := ⟨_, Lib.hid rfl⟩
  obtain ⟨y2, HY2⟩ : ∃ v, Hid (v = wdF f 2) := ⟨_, Lib.hid rfl⟩
  obtain ⟨y3, HY3⟩ : ∃ v, Hid (v = wdF f 3) := ⟨_, Lib.hid rfl⟩
  rw [← HY0.out, ← HY1.out, ← HY2.out, ← HY3.out] at hb0
  clear o1 hs1 ho1 hb1 hk1 m1 m2
  obtain ⟨cy0, cy1, cy2, cy3⟩ := four_cells hb0
  obtain ⟨f0, cf, HF0⟩ : ∃ f, W0.cell? ⟨0, 0, none⟩ = some (.int .u32 f) ∧ Hid (f = FK.getD 0 0) := ⟨_, (ht.only ho0 h7 (by simp)).fk 0 (by omega), Lib.hid rfl⟩
  obtain ⟨u0, ez, HU0⟩ : ∃ z, bits .xor .u32 y0 f0 = z ∧ Hid (z = xr y0 f0) := ⟨_, rfl, Lib.hid rfl⟩
  have fz := hb0.frozen 0
  go_wp2_with fail
  refine region_quiet_tail 7 (by kernel_rfl) (by kernel_rfl) ?_
  simp only [List.take_succ_cons, List.take_zero, List.drop_succ_cons, List.drop_zero]
  repeat (quiet_step (fail))
  refine wpQuiet_nil ?_
  intro _ hw'
  obtain ⟨nq, rfl⟩ := hw'
  go_wp2_with fail
  generalize hW : World.setCell _ _ _ = W1
  have ho1 : Only [] w W1 := by rw [← hW]; exact (ho0.drewN _).setCell (p := ⟨w.heap.size + 1, 0, none⟩) (fun h => absurd h (by show ¬ (w.heap.size + 1 < w.heap.size); omega)) _
  have hb1 : ArrU W1 (w.heap.size + 1) 46 4 (q4 u0 y1 y2 y3) := by rw [← hW]; exact set_0 (hb0.drewN _)
  have hk1 : ArrU W1 w.heap.size 46 32 (fun _ => 0) := by rw [← hW]; exact (hk0.drewN _).only ((Only.refl [w.heap.size + 1] _).set1 (by simp) 0 _) (by simp)
  clear hW fz ez cf cy0 cy1 cy2 cy3
  obtain ⟨cy0, cy1, cy2, cy3⟩ := four_cells hb1
  obtain ⟨f1, cf, HF1⟩ : ∃ f, W1.cell? ⟨0, 1, none⟩ = some (.int .u32 f) ∧ Hid (f = FK.getD 1 0) := ⟨_, (ht.only ho1 h7 (by simp)).fk 1 (by omega), Lib.hid rfl⟩
  obtain ⟨u1, ez, HU1⟩ : ∃ z, bits .xor .u32 y1 f1 = z ∧ Hid (z = xr y1 f1) := ⟨_, rfl, Lib.hid rfl⟩
  have fz := hb1.frozen 1
  go_wp2_with fail
  refine region_quiet_tail 7 (by kernel_rfl) (by kernel_rfl) ?_
  simp only [List.take_succ_cons, List.take_zero, List.drop_succ_cons, List.drop_zero]
  repeat (quiet_step (fail))
  refine wpQuiet_nil ?_
  intro _ hw'
  obtain ⟨nq, rfl⟩ := hw'
  go_wp2_with fail
  generalize hW : World.setCell _ _ _ = W2
  have ho2 : Only [] w W2 := by rw [← hW]; exact (ho1.drewN _).setCell (p := ⟨w.heap.size + 1, 1, none⟩) (fun h => absurd h (by show ¬ (w.heap.size + 1 < w.heap.size); omega)) _
  have hb2 : ArrU W2 (w.heap.size + 1) 46 4 (q4 u0 u1 y2 y3) := by rw [← hW]; exact set_1 (hb1.drewN _)
  have hk2 : ArrU W2 w.heap.size 46 32 (fun _ => 0) := by rw [← hW]; exact (hk1.drewN _).only ((Only.refl [w.heap.size + 1] _).set1 (by simp) 1 _) (by simp)
  clear hW fz ez cf cy0 cy1 cy2 cy3
  obtain ⟨cy0, cy1, cy2, cy3⟩ := four_cells hb2
  obtain ⟨f2, cf, HF2⟩ : ∃ f, W2.cell? ⟨0, 2, none⟩ = some (.int .u32 f) ∧ Hid (f = FK.getD 2 0) := ⟨_, (ht.only ho2 h7 (by simp)).fk 2 (by omega), Lib.hid rfl⟩
  obtain ⟨u2, ez, HU2⟩ : ∃ z, bits .xor .u32 y2 f2 = z ∧ Hid (z = xr y2 f2) := ⟨_, rfl, Lib.hid rfl⟩
  have fz := hb2.frozen 2
  go_wp2_with fail
  refine region_quiet_tail 7 (by kernel_rfl) (by kernel_rfl) ?_
  simp only [List.take_succ_cons, List.take_zero, List.drop_succ_cons, List.drop_zero]
  repeat (quiet_step (fail))
  refine wpQuiet_nil ?_
  intro _ hw'
  obtain ⟨nq, rfl⟩ := hw'
  go_wp2_with fail
  generalize hW : World.setCell _ _ _ = W3
  have ho3 : Only [] w W3 := by rw [← hW]; exact (ho2.drewN _).setCell (p := ⟨w.heap.size + 1, 2, none⟩) (fun h => absurd h (by show ¬ (w.heap.size + 1 < w.heap.size); omega)) _
  have hb3 : ArrU W3 (w.heap.size + 1) 46 4 (q4 u0 u1 u2 y3) := by rw [← hW]; exact set_2 (hb2.drewN _)
  have hk3 : ArrU W3 w.heap.size 46 32 (fun _ => 0) := by rw [← hW]; exact (hk2.drewN _).only ((Only.refl [w.heap.size + 1] _).set1 (by simp) 2 _) (by simp)
  clear hW fz ez cf cy0 cy1 cy2 cy3
  obtain ⟨cy0, cy1, cy2, cy3⟩ := four_cells hb3
  obtain ⟨f3, cf, HF3⟩ : ∃ f, W3.cell? ⟨0, 3, none⟩ = some (.int .u32 f) ∧ Hid (f = FK.getD 3 0) := ⟨_, (ht.only ho3 h7 (by simp)).fk 3 (by omega), Lib.hid rfl⟩
  obtain ⟨u3, ez, HU3⟩ : ∃ z, bits .xor .u32 y3 f3 = z ∧ Hid (z = xr y3 f3) := ⟨_, rfl, Lib.hid rfl⟩
  have fz := hb3.frozen 3
  go_wp2_with fail
  refine region_quiet_tail 7 (by kernel_rfl) (by kernel_rfl) ?_
  simp only [List.take_succ_cons, List.take_zero, List.drop_succ_cons, List.drop_zero]
  repeat (quiet_step (fail))
  refine wpQuiet_nil ?_
  intro _ hw'
  obtain ⟨nq, rfl⟩ := hw'
  go_wp2_with fail
  generalize hW : World.setCell _ _ _ = W4
  have ho4 : Only [] w W4 := by rw [← hW]; exact (ho3.drewN _).setCell (p := ⟨w.heap.size + 1, 3, none⟩) (fun h => absurd h (by show ¬ (w.heap.size + 1 < w.heap.size); omega)) _
  have hb4 : ArrU W4 (w.heap.size + 1) 46 4 (q4 u0 u1 u2 u3) := by rw [← hW]; exact set_3 (hb3.drewN _)
  have hk4 : ArrU W4 w.heap.size 46 32 (fun _ => 0) := by rw [← hW]; exact (hk3.drewN _).only ((Only.refl [w.heap.size + 1] _).set1 (by simp) 3 _) (by simp)
  clear hW fz ez cf cy0 cy1 cy2 cy3
  have hb4 : ArrU W4 (w.heap.size + 1) 46 4 (fun j => fei keyI (k0F f) (fun i => CK.getD i 0) (0 + j)) := hb4.congr fun j hj => by
    rw [Nat.zero_add, fei_low _ _ _ _ hj]
    rcases lt4 hj with rfl | rfl | rfl | rfl
    · show u0 = _; rw [HU0.out, HY0.out, HF0.out]; rfl
    · show u1 = _; rw [HU1.out, HY1.out, HF1.out]; rfl
    · show u2 = _; rw [HU2.out, HY2.out, HF2.out]; rfl
    · show u3 = _; rw [HU3.out, HY3.out, HF3.out]; rfl
  go_wp2_with fail
  go_loopw [5] (fun i wr => ∃ k : Nat, k ≤ 32 ∧ i = .int .i64 k ∧ Only [] w wr ∧ ArrU wr (w.heap.size + 1) 46 4 (fun j => fei keyI (k0F f) (fun i => CK.getD i 0) (k + j)) ∧ ArrU wr w.heap.size 46 32 (fun j => if j < k then keyF f j else 0)) (fun i _ => 32 - (intOf i).toNat)
  case atStart => exact ⟨0, by omega, rfl, ho4, hb4, hk4.congr fun j hj => by rw [if_neg (by omega)]⟩
  case round =>
    clear ho4 hb4 hk4 ho3 hb3 hk3 ho2 hb2 hk2 ho1 hb1 hk1 ho0 hb0 hk0
    obtain ⟨k, hk32, rfl, ho, hb, hk⟩ := hrel
    by_cases hlt : k < 32
    · as_aux_lemma =>
      have hb := to_q4 hb
      obtain ⟨v0, HV0⟩ : ∃ v, Hid (v = fei keyI (k0F f) (fun i => CK.getD i 0) (k + 0)) := ⟨_, Lib.hid rfl⟩
      obtain ⟨v1, HV1⟩ : ∃ v, Hid (v = fei keyI (k0F f) (fun i => CK.getD i 0) (k + 1)) := ⟨_, Lib.hid rfl⟩
      obtain ⟨v2, HV2⟩ : ∃ v, Hid (v = fei keyI (k0F f) (fun i => CK.getD i 0) (k + 2)) := ⟨_, Lib.hid rfl⟩
      obtain ⟨v3, HV3⟩ : ∃ v, Hid (v = fei keyI (k0F f) (fun i => CK.getD i 0) (k + 3)) := ⟨_, Lib.hid rfl⟩
      rw [← HV0.out, ← HV1.out, ← HV2.out, ← HV3.out] at hb
      obtain ⟨cy0, cy1, cy2, cy3⟩ := four_cells hb
      obtain ⟨ff, cf, HF⟩ : ∃ x, wr.cell? ⟨1, k, none⟩ = some (.int .u32 x) ∧ Hid (x = CK.getD k 0) := ⟨_, (ht.only ho h7 (by simp)).ck k hlt, Lib.hid rfl⟩
      obtain ⟨z, HZ, hc⟩ : ∃ z, Hid (z = keyI v0 (xr (xr (xr v1 v2) v3) ff)) ∧ ∀ q, Calls Tryd.prog 55 #[.int .u32 v0, .int .u32 v1, .int .u32 v2, .int .u32 v3, .int .u32 ff] (wr.drewN q) fun e w' => e = .returned (.int .u32 z) ∧ ∃ n, w' = (wr.drewN q).drewN n :=
        ⟨_, Lib.hid rfl, fun q => feistel0_any v0 v1 v2 v3 ff (wr.drewN q) ((ht.only ho h7 (by simp)).keep fun _ _ => rfl)⟩
      have fz := hk.frozen k
      obtain ⟨old, cold⟩ : ∃ o, wr.cell? ⟨w.heap.size, k, none⟩ = some (.int .u32 o) := ⟨_, hk.cell hlt⟩
      have l1 : (k : Int) < 32 := by omega
      have hne : ¬ (w.heap.size + 1 = w.heap.size) := by omega
      go_wp2_with fail
      refine region_quiet_tail 19 (by kernel_rfl) (by kernel_rfl) ?_
      simp only [List.take_succ_cons, List.take_zero, List.drop_succ_cons, List.drop_zero]
      repeat (quiet_step ((go_at_call 55; exact Calls.quiet_of (hc _))))
      refine wpQuiet_nil ?_
      intro _ hw'
      obtain ⟨nq, rfl⟩ := hw'
      go_wp2_with fail
      generalize hW : World.setCell _ _ _ = W1
      have hz : z = keyF f k := by
        have hn := fei_next keyI (k0F f) (fun i => CK.getD i 0) k
        unfold keyF
        rw [hn, HZ.out, HV0.out, HV1.out, HV2.out, HV3.out, HF.out, Nat.add_zero]
      have HZ2 := Lib.hid hz
      clear hz
      have ho1 : Only [] w W1 := by rw [← hW]; exact (ho.drewN _).setCell (p := ⟨w.heap.size, k, none⟩) (fun h => absurd h (Nat.lt_irrefl _)) _
      have hk1 : ArrU W1 w.heap.size 46 32 (fun j => if j < k + 1 then keyF f j else 0) := by
        rw [← hW]
        refine (hk.drewN _).set_ k z fun j hj => ?_
        by_cases e : j = k
        · subst e; rw [if_pos (by omega), if_pos rfl, HZ2.out]
        · rw [if_neg e]
          by_cases h : j < k
          · rw [if_pos h, if_pos (by omega)]
          · rw [if_neg h, if_neg (by omega)]
      have hb1 : ArrU W1 (w.heap.size + 1) 46 4 (q4 v0 v1 v2 v3) := by rw [← hW]; exact (hb.drewN _).only ((Only.refl [w.heap.size] _).set1 (by simp) k _) (by simp)
      have cy4 : W1.cell? ⟨w.heap.size, k, none⟩ = some (.int .u32 z) := by rw [hk1.cell hlt, if_pos (by omega), HZ2.out]
      clear hW fz cold cy0 cy1 cy2 cy3 cf hc ho hb hk
      obtain ⟨cy0, cy1, cy2, cy3⟩ := four_cells hb1
      have fz0 := hb1.frozen 0
      have fz1 := hb1.frozen 1
      have fz2 := hb1.frozen 2
      have fz3 := hb1.frozen 3
      go_wp2_with fail
      go_region
      go_wp2_with fail
      go_roundw
      case rel =>
        have h5 := four ho1 (S := []) (g := w.heap.size + 1) (x0 := v1) (x1 := v2) (x2 := v3) (x3 := z) (fun h => absurd h (by omega)) hb1
        have h6 := four (Only.refl [w.heap.size + 1] W1) (g := w.heap.size + 1) (x0 := v1) (x1 := v2) (x2 := v3) (x3 := z) (fun _ => by simp) hb1
        refine ⟨k + 1, by omega, by go_num, h5.1.drew, h5.2.drew.congr fun j hj => ?_, hk1.only h6.1.drew (by simp)⟩
        rcases lt4 hj with rfl | rfl | rfl | rfl
        · exact HV1.out
        · exact HV2.out
        · exact HV3.out
        · show z = _; rw [HZ2.out]; rfl
      case measure => simp [intOf]; omega
    · as_aux_lemma =>
      obtain rfl : k = 32 := by omega
      go_wp2_with fail
      go_ret
      exact ⟨rfl, hk.congr fun j hj => by rw [if_pos hj], ho, hb.lt⟩
end Go.Proofs.YtkfagcpboehjjaaDoor
