/- What the world's shape tells of the package's tables and of a table of the library's. No condition. -/
import Derived.Test.YteioblloppcjoaaDoorLaww
import Derived.Shelf.Vars
import Derived.SizedLaws
namespace Go.Proofs.YteioblloppcjoaaDoor
set_option maxRecDepth 100000
open Go.RowKit

theorem cells_of_shape {w : World} {g n : Nat} {t e : TypeId} {zero : Array Value} {k : IntKind} (h : w.ShapedOpen Tryd.prog) (hg : g < Tryd.prog.globals.size)
    (h0 : ((begin Tryd.prog (fun _ _ => 0) default).world.heap[g]?).bind Obj.row? = some (zero, t)) (hz : zero.size = n)
    (hb : Tryd.prog.buildable t = true) (hc : Tryd.prog.cellTypes Tryd.prog.depth t = some (List.replicate n e)) (hu : Tryd.prog.underlying e = some (.int k)) (j : Nat) (hj : j < n) :
    ∃ x, k.has x ∧ w.cell? ⟨g, j, none⟩ = some (.int k x) := by
  obtain ⟨cs, hh, hs, hr⟩ := h.1 g zero t hg h0
  obtain ⟨ts, hts, _, hall⟩ := hr hb
  rw [hc] at hts
  cases hts
  have h1 : j < cs.size := by omega
  obtain ⟨u, hu', hok⟩ := hall j cs[j] (by simp [h1])
  rw [List.length_replicate, Nat.mod_eq_of_lt hj, List.getElem?_replicate, if_pos hj] at hu'
  obtain rfl := Option.some.inj hu'
  have hcell : w.cell? ⟨g, j, none⟩ = some cs[j] := by simp [World.cell?, hh, h1]
  rw [hcell]
  unfold Cell.ok at hok
  rw [hu] at hok
  cases hv : cs[j] <;> rw [hv] at hok <;> simp at hok
  case int k' x => exact ⟨x, by rw [← hok.1]; exact hok.1 ▸ hok.2, by rw [hok.1]⟩
theorem has_u32 {x : Int} (h : IntKind.has .u32 x) : U32 x := by
  unfold IntKind.has at h
  have e1 : IntKind.min .u32 = 0 := rfl
  have e2 : IntKind.max .u32 = 4294967295 := rfl
  rw [e1, e2] at h
  exact h
theorem has_u8 {x : Int} (h : IntKind.has .u8 x) : 0 ≤ x ∧ x ≤ 255 := by
  unfold IntKind.has at h
  have e1 : IntKind.min .u8 = 0 := rfl
  have e2 : IntKind.max .u8 = 255 := rfl
  rw [e1, e2] at h
  exact h
def zz (k : IntKind) (n : Nat) : Array Value := Array.replicate n (.int k 0)
theorem start0 : ((begin Tryd.prog (fun _ _ => 0) default).world.heap[0]?).bind Obj.row? = some (zz .u32 4, 51) := by kernel_rfl
theorem start1 : ((begin Tryd.prog (fun _ _ => 0) default).world.heap[1]?).bind Obj.row? = some (zz .u32 32, 53) := by kernel_rfl
theorem start2 : ((begin Tryd.prog (fun _ _ => 0) default).world.heap[2]?).bind Obj.row? = some (zz .u32 256, 54) := by kernel_rfl
theorem start3 : ((begin Tryd.prog (fun _ _ => 0) default).world.heap[3]?).bind Obj.row? = some (zz .u32 256, 54) := by kernel_rfl
theorem start4 : ((begin Tryd.prog (fun _ _ => 0) default).world.heap[4]?).bind Obj.row? = some (zz .u32 256, 54) := by kernel_rfl
theorem start5 : ((begin Tryd.prog (fun _ _ => 0) default).world.heap[5]?).bind Obj.row? = some (zz .u32 256, 54) := by kernel_rfl
theorem start6 : ((begin Tryd.prog (fun _ _ => 0) default).world.heap[6]?).bind Obj.row? = some (zz .u8 256, 66) := by kernel_rfl
theorem start7 : ((begin Tryd.prog (fun _ _ => 0) default).world.heap[7]?).bind Obj.row? = some (zz .u64 20, 69) := by kernel_rfl
theorem zz_size (k : IntKind) (n : Nat) : (zz k n).size = n := by simp [zz]
theorem types51 : Tryd.prog.cellTypes Tryd.prog.depth 51 = some (List.replicate 4 50) := by kernel_rfl
theorem types53 : Tryd.prog.cellTypes Tryd.prog.depth 53 = some (List.replicate 32 50) := by kernel_rfl
theorem types54 : Tryd.prog.cellTypes Tryd.prog.depth 54 = some (List.replicate 256 50) := by kernel_rfl
theorem types66 : Tryd.prog.cellTypes Tryd.prog.depth 66 = some (List.replicate 256 5) := by kernel_rfl
theorem types69 : Tryd.prog.cellTypes Tryd.prog.depth 69 = some (List.replicate 20 60) := by kernel_rfl
theorem globals_size : Tryd.prog.globals.size = 10 := by kernel_rfl

/-- The package's tables hold numbers; so does the library's. -/
theorem tabs_of_shape {w : World} (h : w.ShapedOpen Tryd.prog) : Tabs w := by
  refine ⟨fun j hj => ?_, fun j hj => ?_, fun j hj => ?_, fun j hj => ?_, fun j hj => ?_, fun j hj => ?_, fun j hj => ?_⟩
  · obtain ⟨x, hx, hc⟩ := cells_of_shape h (by rw [globals_size]; omega) start0 (zz_size _ _) (by kernel_rfl) types51 Tryd.underlying50 j hj; exact ⟨x, has_u32 hx, hc⟩
  · obtain ⟨x, hx, hc⟩ := cells_of_shape h (by rw [globals_size]; omega) start1 (zz_size _ _) (by kernel_rfl) types53 Tryd.underlying50 j hj; exact ⟨x, has_u32 hx, hc⟩
  · obtain ⟨x, hx, hc⟩ := cells_of_shape h (by rw [globals_size]; omega) start2 (zz_size _ _) (by kernel_rfl) types54 Tryd.underlying50 j hj; exact ⟨x, has_u32 hx, hc⟩
  · obtain ⟨x, hx, hc⟩ := cells_of_shape h (by rw [globals_size]; omega) start3 (zz_size _ _) (by kernel_rfl) types54 Tryd.underlying50 j hj; exact ⟨x, has_u32 hx, hc⟩
  · obtain ⟨x, hx, hc⟩ := cells_of_shape h (by rw [globals_size]; omega) start4 (zz_size _ _) (by kernel_rfl) types54 Tryd.underlying50 j hj; exact ⟨x, has_u32 hx, hc⟩
  · obtain ⟨x, hx, hc⟩ := cells_of_shape h (by rw [globals_size]; omega) start5 (zz_size _ _) (by kernel_rfl) types54 Tryd.underlying50 j hj; exact ⟨x, has_u32 hx, hc⟩
  · obtain ⟨x, hx, hc⟩ := cells_of_shape h (by rw [globals_size]; omega) start6 (zz_size _ _) (by kernel_rfl) types66 Tryd.underlying5 j hj; exact ⟨x, has_u8 hx, hc⟩
theorem pow_of_shape {w : World} (h : w.ShapedOpen Tryd.prog) : ∃ x, w.cell? ⟨7, 2, none⟩ = some (.int .u64 x) := by
  obtain ⟨x, _, hc⟩ := cells_of_shape h (by rw [globals_size]; omega) start7 (zz_size _ _) (by kernel_rfl) types69 Tryd.underlying60 2 (by omega); exact ⟨x, hc⟩
theorem size_of_shape {w : World} (h : w.ShapedOpen Tryd.prog) : 8 ≤ w.heap.size := by
  obtain ⟨x, hc⟩ := pow_of_shape h
  rcases Nat.lt_or_ge 7 w.heap.size with h1 | h1
  · exact h1
  · unfold World.cell? at hc; rw [Array.getElem?_eq_none h1] at hc; cases hc
end Go.Proofs.YteioblloppcjoaaDoor
