/- The keys of the rounds: nothing panics, 32 words come out. No condition but where things lie. -/
import Derived.Test.YteioblloppcjoaaDoorFeis
import Derived.BigRegion
import Derived.Outline
namespace Go.Proofs.YteioblloppcjoaaDoor
set_option maxRecDepth 100000
open Go.RowKit

def ZU (n : Nat) : Array Value := Array.replicate n (.int .u32 0)
def ZB (n : Nat) : Array Value := Array.replicate n (.int .u8 0)
theorem makeU32 (w : World) : (Instr.makeSlice 39 (.int .i64 32) (.int .i64 32)).run Tryd.prog w = .ok (.slice (some ⟨w.heap.size, 0, none⟩) 32 32) (w.alloc (.cells (ZU 32) 50)) := by kernel_rfl
theorem makeU4 (w : World) : (Instr.makeSlice 39 (.int .i64 4) (.int .i64 4)).run Tryd.prog w = .ok (.slice (some ⟨w.heap.size, 0, none⟩) 4 4) (w.alloc (.cells (ZU 4) 50)) := by kernel_rfl
theorem makeB16 (w : World) : (Instr.makeSlice 22 (.int .i64 16) (.int .i64 16)).run Tryd.prog w = .ok (.slice (some ⟨w.heap.size, 0, none⟩) 16 16) (w.alloc (.cells (ZB 16) 5)) := by kernel_rfl
theorem Wds.new (w : World) (n : Nat) : Wds (w.alloc (.cells (ZU n) 50)) w.heap.size n :=
  ⟨fun _ => 0, ⟨ZU n, Blk.new w 50 _, by simp [ZU], fun j hj => by simp [ZU, hj]⟩, fun _ _ => ⟨Int.le_refl 0, by show (0 : Int) ≤ 4294967295; omega⟩⟩
theorem Bys.new (w : World) (n : Nat) : Bys (w.alloc (.cells (ZB n) 5)) w.heap.size n :=
  ⟨fun _ => 0, ⟨ZB n, Blk.new w 5 _, by simp [ZB], fun j hj => by simp [ZB, hj]⟩, fun _ _ => ⟨Int.le_refl 0, by show (0 : Int) ≤ 255; omega⟩⟩
theorem Wds.alloc {w : World} {g n : Nat} (h : Wds w g n) (o : Obj) : Wds (w.alloc o) g n := h.only ((Only.refl [] w).alloc o) (by simp)
theorem Bys.alloc {w : World} {g n : Nat} (h : Bys w g n) (o : Obj) : Bys (w.alloc o) g n := h.only ((Only.refl [] w).alloc o) (by simp)

/-- The keys' row comes back, in new memory. -/
def GotK (w : World) (e : Ending) (w' : World) : Prop := e = .returned (.slice (some ⟨w.heap.size, 0, none⟩) 32 32) ∧ Wds w' w.heap.size 32 ∧ Only [] w w' ∧ w.heap.size + 1 < w'.heap.size

set_option maxHeartbeats 8000000 in
theorem subk_any (ad : Addr) (n c : Nat) (w : World) (hn : 16 ≤ n) (hs : Src w ad 16) (ht : Tabs w) (h7 : 7 ≤ w.heap.size) (hl : ad.block < w.heap.size) :
    Calls Tryd.prog 18 #[.slice (some ad) n c] w (GotK w) := by
  have m1 := makeU32
  have m2 := makeU4
  have hk1 : Wds ((w.alloc (.cells (ZU 32) 50)).alloc (.cells (ZU 4) 50)) w.heap.size 32 := (Wds.new w 32).alloc _
  have hb1 : Wds ((w.alloc (.cells (ZU 32) 50)).alloc (.cells (ZU 4) 50)) (w.heap.size + 1) 4 := by simpa using Wds.new (w.alloc (.cells (ZU 32) 50)) 4
  have ho1 : Only [] w ((w.alloc (.cells (ZU 32) 50)).alloc (.cells (ZU 4) 50)) := ((Only.refl _ _).alloc _).alloc _
  have hs1 := hs.only ho1 hl (by simp)
  go_enter Tryd.func18, Tryd.ntmps18
  go_wp2_with fail
  refine (init_any (w.heap.size + 1) ad n c _ hn hb1 hs1 (by simp; omega) (by omega)).mono ?_
  rintro e W0 ⟨rfl, o1, hb0⟩
  have ho0 : Only [] w W0 := ho1.then_ o1 (by intro k hk hl; simp at hk; omega)
  have hk0 : Wds W0 w.heap.size 32 := hk1.only o1 (by simp)
  clear o1 hs1 ho1 hb1 hk1 m1 m2
  obtain ⟨y, by_, cy⟩ := hb0.at_ (j := 0) (by omega)
  obtain ⟨f, bf, cf⟩ := (ht.only ho0 h7 (by simp)).fk 0 (by omega)
  obtain ⟨z, hz, ez⟩ : ∃ z, U32 z ∧ bits .xor .u32 y f = z := ⟨_, u32_bits _ _ _, rfl⟩
  have fz := hb0.frozen 0
  go_wp2_with fail
  refine region_quiet_tail 7 (by kernel_rfl) (by kernel_rfl) ?_
  simp only [List.take_succ_cons, List.take_zero, List.drop_succ_cons, List.drop_zero]
  repeat (quiet_step (fail))
  refine wpQuiet_nil ?_
  intro _ hw'
  obtain ⟨nq, rfl⟩ := hw'
  go_wp2_with fail
  generalize hW : World.setCell _ _ _ = W1
  have ho1 : Only [] w W1 := by rw [← hW]; exact (ho0.drewN _).setCell (p := ⟨w.heap.size + 1, 0, none⟩) (fun h => absurd h (by show ¬ (w.heap.size + 1 < w.heap.size); omega)) _
  have hb1 : Wds W1 (w.heap.size + 1) 4 := by rw [← hW]; exact (hb0.drewN _).set_ 0 hz
  have hk1 : Wds W1 w.heap.size 32 := by rw [← hW]; exact (hk0.drewN _).only ((Only.refl [w.heap.size + 1] _).setCell (p := ⟨w.heap.size + 1, 0, none⟩) (fun _ => by simp) _) (by simp)
  clear hW fz ez cy cf by_ bf hz
  obtain ⟨y, by_, cy⟩ := hb1.at_ (j := 1) (by omega)
  obtain ⟨f, bf, cf⟩ := (ht.only ho1 h7 (by simp)).fk 1 (by omega)
  obtain ⟨z, hz, ez⟩ : ∃ z, U32 z ∧ bits .xor .u32 y f = z := ⟨_, u32_bits _ _ _, rfl⟩
  have fz := hb1.frozen 1
  go_wp2_with fail
  refine region_quiet_tail 7 (by kernel_rfl) (by kernel_rfl) ?_
  simp only [List.take_succ_cons, List.take_zero, List.drop_succ_cons, List.drop_zero]
  repeat (quiet_step (fail))
  refine wpQuiet_nil ?_
  intro _ hw'
  obtain ⟨nq, rfl⟩ := hw'
  go_wp2_with fail
  generalize hW : World.setCell _ _ _ = W2
  have ho2 : Only [] w W2 := by rw [← hW]; exact (ho1.drewN _).setCell (p := ⟨w.heap.size + 1, 1, none⟩) (fun h => absurd h (by show ¬ (w.heap.size + 1 < w.heap.size); omega)) _
  have hb2 : Wds W2 (w.heap.size + 1) 4 := by rw [← hW]; exact (hb1.drewN _).set_ 1 hz
  have hk2 : Wds W2 w.heap.size 32 := by rw [← hW]; exact (hk1.drewN _).only ((Only.refl [w.heap.size + 1] _).setCell (p := ⟨w.heap.size + 1, 1, none⟩) (fun _ => by simp) _) (by simp)
  clear hW fz ez cy cf by_ bf hz
  obtain ⟨y, by_, cy⟩ := hb2.at_ (j := 2) (by omega)
  obtain ⟨f, bf, cf⟩ := (ht.only ho2 h7 (by simp)).fk 2 (by omega)
  obtain ⟨z, hz, ez⟩ : ∃ z, U32 z ∧ bits .xor .u32 y f = z := ⟨_, u32_bits _ _ _, rfl⟩
  have fz := hb2.frozen 2
  go_wp2_with fail
  refine region_quiet_tail 7 (by kernel_rfl) (by kernel_rfl) ?_
  simp only [List.take_succ_cons, List.take_zero, List.drop_succ_cons, List.drop_zero]
  repeat (quiet_step (fail))
  refine wpQuiet_nil ?_
  intro _ hw'
  obtain ⟨nq, rfl⟩ := hw'
  go_wp2_with fail
  generalize hW : World.setCell _ _ _ = W3
  have ho3 : Only [] w W3 := by rw [← hW]; exact (ho2.drewN _).setCell (p := ⟨w.heap.size + 1, 2, none⟩) (fun h => absurd h (by show ¬ (w.heap.size + 1 < w.heap.size); omega)) _
  have hb3 : Wds W3 (w.heap.size + 1) 4 := by rw [← hW]; exact (hb2.drewN _).set_ 2 hz
  have hk3 : Wds W3 w.heap.size 32 := by rw [← hW]; exact (hk2.drewN _).only ((Only.refl [w.heap.size + 1] _).setCell (p := ⟨w.heap.size + 1, 2, none⟩) (fun _ => by simp) _) (by simp)
  clear hW fz ez cy cf by_ bf hz
  obtain ⟨y, by_, cy⟩ := hb3.at_ (j := 3) (by omega)
  obtain ⟨f, bf, cf⟩ := (ht.only ho3 h7 (by simp)).fk 3 (by omega)
  obtain ⟨z, hz, ez⟩ : ∃ z, U32 z ∧ bits .xor .u32 y f = z := ⟨_, u32_bits _ _ _, rfl⟩
  have fz := hb3.frozen 3
  go_wp2_with fail
  refine region_quiet_tail 7 (by kernel_rfl) (by kernel_rfl) ?_
  simp only [List.take_succ_cons, List.take_zero, List.drop_succ_cons, List.drop_zero]
  repeat (quiet_step (fail))
  refine wpQuiet_nil ?_
  intro _ hw'
  obtain ⟨nq, rfl⟩ := hw'
  go_wp2_with fail
  generalize hW : World.setCell _ _ _ = W4
  have ho4 : Only [] w W4 := by rw [← hW]; exact (ho3.drewN _).setCell (p := ⟨w.heap.size + 1, 3, none⟩) (fun h => absurd h (by show ¬ (w.heap.size + 1 < w.heap.size); omega)) _
  have hb4 : Wds W4 (w.heap.size + 1) 4 := by rw [← hW]; exact (hb3.drewN _).set_ 3 hz
  have hk4 : Wds W4 w.heap.size 32 := by rw [← hW]; exact (hk3.drewN _).only ((Only.refl [w.heap.size + 1] _).setCell (p := ⟨w.heap.size + 1, 3, none⟩) (fun _ => by simp) _) (by simp)
  clear hW fz ez cy cf by_ bf hz
  go_wp2_with fail
  go_loopw [5] (fun i wr => ∃ k : Nat, k ≤ 32 ∧ i = .int .i64 k ∧ Only [] w wr ∧ Wds wr (w.heap.size + 1) 4 ∧ Wds wr w.heap.size 32) (fun i _ => 32 - (intOf i).toNat)
  case atStart => exact ⟨0, by omega, rfl, ho4, hb4, hk4⟩
  case round =>
    clear ho4 hb4 hk4 ho3 hb3 hk3 ho2 hb2 hk2 ho1 hb1 hk1 ho0 hb0 hk0
    obtain ⟨k, hk32, rfl, ho, hb, hk⟩ := hrel
    by_cases hlt : k < 32
    · obtain ⟨y0, _, cy0⟩ := hb.at_ (j := 0) (by omega)
      obtain ⟨y1, by1, cy1⟩ := hb.at_ (j := 1) (by omega)
      obtain ⟨y2, by2, cy2⟩ := hb.at_ (j := 2) (by omega)
      obtain ⟨y3, by3, cy3⟩ := hb.at_ (j := 3) (by omega)
      obtain ⟨f, _, cf⟩ := (ht.only ho h7 (by simp)).ck k hlt
      obtain ⟨z, hz, hc⟩ := feistel0_ex y0 y1 y2 y3 f wr (ht.only ho h7 (by simp))
      have fz := hk.frozen k
      obtain ⟨old, _, cold⟩ := hk.at_ hlt
      have l1 : (k : Int) < 32 := by omega
      have hne : ¬ (w.heap.size + 1 = w.heap.size) := by omega
      go_wp2_with fail
      refine region_quiet_tail 19 (by kernel_rfl) (by kernel_rfl) ?_
      simp only [List.take_succ_cons, List.take_zero, List.drop_succ_cons, List.drop_zero]
      repeat (quiet_step ((go_at_call 25; exact Calls.quiet_of (hc _))))
      refine wpQuiet_nil ?_
      intro _ hw'
      obtain ⟨nq, rfl⟩ := hw'
      go_wp2_with fail
      generalize hW : World.setCell _ _ _ = W1
      have ho1 : Only [] w W1 := by rw [← hW]; exact (ho.drewN _).setCell (p := ⟨w.heap.size, k, none⟩) (fun h => absurd h (Nat.lt_irrefl _)) _
      have hk1 : Wds W1 w.heap.size 32 := by rw [← hW]; exact (hk.drewN _).set_ k hz
      have hb1 : Wds W1 (w.heap.size + 1) 4 := by rw [← hW]; exact (hb.drewN _).only ((Only.refl [w.heap.size] _).setCell (p := ⟨w.heap.size, k, none⟩) (fun _ => by simp) _) (by simp)
      clear hW fz cold cy0 cy1 cy2 cy3 cf hc ho hb hk hz
      obtain ⟨y0, bz0, cy0⟩ := hb1.at_ (j := 0) (by omega)
      obtain ⟨y1, bz1, cy1⟩ := hb1.at_ (j := 1) (by omega)
      obtain ⟨y2, bz2, cy2⟩ := hb1.at_ (j := 2) (by omega)
      obtain ⟨y3, bz3, cy3⟩ := hb1.at_ (j := 3) (by omega)
      obtain ⟨y4, bz4, cy4⟩ := hk1.at_ hlt
      have fz0 := hb1.frozen 0
      have fz1 := hb1.frozen 1
      have fz2 := hb1.frozen 2
      have fz3 := hb1.frozen 3
      go_wp2_with fail
      go_region
      go_wp2_with fail
      go_roundw
      case rel =>
        have h5 := four ho1 (S := []) (g := w.heap.size + 1) (fun h => absurd h (by omega)) hb1 bz1 bz2 bz3 bz4
        have h6 := four (Only.refl [w.heap.size + 1] W1) (g := w.heap.size + 1) (fun _ => by simp) hb1 bz1 bz2 bz3 bz4
        exact ⟨k + 1, by omega, by go_num, h5.1.drew, h5.2.drew, hk1.only h6.1.drew (by simp)⟩
      case measure => simp [intOf]; omega
    · go_wp2_with fail
      go_ret
      exact ⟨rfl, hk, ho, hb.lt⟩
end Go.Proofs.YteioblloppcjoaaDoor
