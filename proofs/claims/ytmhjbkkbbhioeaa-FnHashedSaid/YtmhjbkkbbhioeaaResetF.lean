/- The package's SM3 object: made and set back, and which blocks that turns. No condition. -/
import Derived.Test.YtmhjbkkbbhioeaaHash
import Derived.Test.YtmhjbkkbbhioeaaSumF
namespace Go.Proofs.Ytmhjbkkbbhioeaa
open Go.RowKit

theorem reset_f (base b : Nat) (s : St) (N : Int) (v : Value) (w : World) (hbb : base ≤ b) (hb : Blk w b 55 (smCells s N v)) :
    Calls Try.prog 30 #[.pointer (some ⟨b, 0, none⟩)] w fun e w' => e = .returned (.tuple #[]) ∧ (∃ v', Blk w' b 55 (smCells St.start 0 v') ∧ OwnS w' base v' [] ∧ w.heap.size ≤ blk v') ∧ w.grownBy w' (some b) := by
  have c0 := hb.cell 0
  have c1 := hb.cell 1
  have c2 := hb.cell 2
  have c3 := hb.cell 3
  have c4 := hb.cell 4
  have c5 := hb.cell 5
  have c6 := hb.cell 6
  have c7 := hb.cell 7
  have c8 := hb.cell 8
  have c9 := hb.cell 9
  simp [smCells, St.cells] at c0 c1 c2 c3 c4 c5 c6 c7 c8 c9
  have z0 := hb.frozen 0
  have z1 := hb.frozen 1
  have z2 := hb.frozen 2
  have z3 := hb.frozen 3
  have z4 := hb.frozen 4
  have z5 := hb.frozen 5
  have z6 := hb.frozen 6
  have z7 := hb.frozen 7
  have z8 := hb.frozen 8
  have z9 := hb.frozen 9
  have hlt := hb.lt
  go_enter Try.func30, Try.ntmps30
  go_wp2
  go_end0
  show _ ∧ (∃ v', Blk ((((store8 w b St.start).setCell ⟨b, 8, none⟩ (.int .u64 0)).setCell ⟨b, 9, none⟩ (.slice (some ⟨w.heap.size, 0, none⟩) 0 0)).alloc (.cells #[] 5)) b 55 (smCells St.start 0 v') ∧ OwnS ((((store8 w b St.start).setCell ⟨b, 8, none⟩ (.int .u64 0)).setCell ⟨b, 9, none⟩ (.slice (some ⟨w.heap.size, 0, none⟩) 0 0)).alloc (.cells #[] 5)) base v' [] ∧ w.heap.size ≤ blk v') ∧ w.grownBy ((((store8 w b St.start).setCell ⟨b, 8, none⟩ (.int .u64 0)).setCell ⟨b, 9, none⟩ (.slice (some ⟨w.heap.size, 0, none⟩) 0 0)).alloc (.cells #[] 5)) (some b)
  have h1 : Blk (store8 w b St.start) b 55 (smCells St.start N v) := store8_sm hb St.start
  have h2 := h1.set_ 8 (.int .u64 0)
  rw [smCells_set8] at h2
  have h3 := h2.set_ 9 (.slice (some ⟨w.heap.size, 0, none⟩) 0 0)
  rw [smCells_set9] at h3
  have hsz : (((store8 w b St.start).setCell ⟨b, 8, none⟩ (.int .u64 0)).setCell ⟨b, 9, none⟩ (.slice (some ⟨w.heap.size, 0, none⟩) 0 0)).heap.size = w.heap.size := by
    have := store8_size w b St.start
    simpa [World.setCell] using this
  refine ⟨rfl, ⟨_, h3.alloc _, ?_, Nat.le_refl _⟩, grown_alloc (grown_setCell (grown_setCell (grown_store8 (World.grownBy.refl w _) _) _ _) _ _) _⟩
  have := OwnS.new (((store8 w b St.start).setCell ⟨b, 8, none⟩ (.int .u64 0)).setCell ⟨b, 9, none⟩ (.slice (some ⟨w.heap.size, 0, none⟩) 0 0)) (base := base) (by rw [hsz]; omega) #[] [] rfl (by unfold maxLen; simp)
  rw [hsz] at this
  exact this

theorem new_f (w : World) :
    Calls Try.prog 27 #[] w fun e w' => e = .returned (.pointer (some ⟨w.heap.size, 0, none⟩)) ∧ (∃ v', Blk w' w.heap.size 55 (smCells St.start 0 v') ∧ OwnS w' w.heap.size v' [] ∧ w.heap.size + 1 ≤ blk v') ∧ Below w.heap.size w w' := by
  have hO0 : Blk (w.alloc (.cells (smCells St.zero 0 (.slice none 0 0)) 55)) w.heap.size 55 (smCells St.zero 0 (.slice none 0 0)) := Blk.new w 55 _
  go_enter Try.func27, Try.ntmps27
  go_wp2_with fail
  refine (reset_f w.heap.size w.heap.size St.zero 0 (.slice none 0 0) _ (Nat.le_refl _) hO0).mono ?_
  rintro e w1 ⟨rfl, ⟨v', h1, h2, h3⟩, hG1⟩
  have hB1 : Below w.heap.size w w1 := ((Below.refl w.heap.size w).alloc (Nat.le_refl _) _).trans ⟨hG1.os, hG1.tape, hG1.output, hG1.size, fun k hk => hG1.block k (by simp; omega) (by simp; omega)⟩
  go_wp2_with fail
  go_ret
  exact ⟨rfl, ⟨v', h1, h2, by simpa using h3⟩, hB1⟩
end Go.Proofs.Ytmhjbkkbbhioeaa
