/- The package's call: refused or done. No condition but where things lie. -/
import Derived.Test.YteioblloppcjoaaDoorCall
import Derived.WalkSpells
namespace Go.Proofs.YteioblloppcjoaaDoor
set_option maxRecDepth 100000
open Go.RowKit

/-- First blocks of another length are refused at once. -/
theorem impl_iv (m : Int) (K V A : Option Addr) (nk ck nv cv n c : Nat) (w : World) (h0 : (m != 0) = true) (h1 : (m != 1) = true) (hv : nv ≠ 16) :
    Calls Tryd.prog 4 #[.int .i64 m, .slice K nk ck, .slice V nv cv, .slice A n c, .bool false] w (GotF false w) := by
  have l1 : ((nv : Int) != 16) = true := by simp; omega
  go_enter Tryd.func4, Tryd.ntmps4
  go_wp2_with fail
  refine bodyPost_ret (v := .tuple #[.slice none 0 0, .bool false]) (by simp [results, Tryd.results4, go_sem]) rfl ⟨none, 0, 0, rfl, ?_⟩
  exact (((((((Only.refl [] w).alloc _).alloc _).alloc _).alloc _).alloc _).alloc _).to_below (Nat.le_refl _) (by simp)
set_option maxHeartbeats 1000000 in
theorem impl_ok (m : Int) (K V A : Option Addr) (nk ck cv n c : Nat) (w : World) (h0 : (m != 0) = true) (h1 : (m != 1) = true)
    (ha : Asked w m (.slice K nk ck) (.slice V 16 cv) (.slice A n c) (· = .nilIface)) :
    Calls Tryd.prog 4 #[.int .i64 m, .slice K nk ck, .slice V 16 cv, .slice A n c, .bool false] w (GotF true w) := by
  have hcl := calm_clos w m _ _ _ _ ha
  clear ha
  go_enter Tryd.func4, Tryd.ntmps4
  go_wp2_with fail
  refine hcl.mono ?_
  rintro e w1 ⟨rfl, hb, ⟨A1, n1, c1, h5⟩, v, rfl, h6⟩
  have c5 := h5.cell 0
  have f5 := h5.frozen 0
  have c6 := h6.cell 0
  simp at c5 c6
  go_wp2_with fail
  have c5b : w1.cell? ⟨w.heap.size + 1 + 1 + 1 + 1 + 1, 0, none⟩ = some (.slice A1 n1 c1) := c5
  refine bodyPost_ret (v := .tuple #[.slice A1 n1 c1, .bool true]) (by simp [results, Tryd.results4, go_sem, c5b]) rfl ⟨_, _, _, rfl, ?_⟩
  exact hb.setCell (p := ⟨w.heap.size + 1 + 1 + 1 + 1 + 1, 0, none⟩) (by show w.heap.size ≤ w.heap.size + 1 + 1 + 1 + 1 + 1; omega) _
set_option maxHeartbeats 1000000 in
theorem impl_ok1 (K V A : Option Addr) (nk ck cv n c : Nat) (w : World)
    (ha : Asked w 1 (.slice K nk ck) (.slice V 16 cv) (.slice A n c) (· = .nilIface)) :
    Calls Tryd.prog 4 #[.int .i64 1, .slice K nk ck, .slice V 16 cv, .slice A n c, .bool false] w (GotF true w) := by
  have hcl := calm_clos w 1 _ _ _ _ ha
  clear ha
  go_enter Tryd.func4, Tryd.ntmps4
  go_wp2_with fail
  refine hcl.mono ?_
  rintro e w1 ⟨rfl, hb, ⟨A1, n1, c1, h5⟩, v, rfl, h6⟩
  have c5 := h5.cell 0
  have f5 := h5.frozen 0
  have c6 := h6.cell 0
  simp at c5 c6
  go_wp2_with fail
  have c5b : w1.cell? ⟨w.heap.size + 1 + 1 + 1 + 1 + 1, 0, none⟩ = some (.slice A1 n1 c1) := c5
  refine bodyPost_ret (v := .tuple #[.slice A1 n1 c1, .bool true]) (by simp [results, Tryd.results4, go_sem, c5b]) rfl ⟨_, _, _, rfl, ?_⟩
  exact hb.setCell (p := ⟨w.heap.size + 1 + 1 + 1 + 1 + 1, 0, none⟩) (by show w.heap.size ≤ w.heap.size + 1 + 1 + 1 + 1 + 1; omega) _
set_option maxHeartbeats 1000000 in
theorem impl_no (m : Int) (K V A : Option Addr) (nk ck cv n c : Nat) (w : World) (h0 : (m != 0) = true) (h1 : (m != 1) = true)
    (ha : Asked w m (.slice K nk ck) (.slice V 16 cv) (.slice A n c) (fun v => ∃ u, v = .iface 46 u)) :
    Calls Tryd.prog 4 #[.int .i64 m, .slice K nk ck, .slice V 16 cv, .slice A n c, .bool false] w (GotF false w) := by
  have hcl := calm_clos w m _ _ _ _ ha
  clear ha
  go_enter Tryd.func4, Tryd.ntmps4
  go_wp2_with fail
  refine hcl.mono ?_
  rintro e w1 ⟨rfl, hb, ⟨A1, n1, c1, h5⟩, v, ⟨u, rfl⟩, h6⟩
  have c5 := h5.cell 0
  have f5 := h5.frozen 0
  have c6 := h6.cell 0
  simp at c5 c6
  go_wp2_with fail
  have c5b : w1.cell? ⟨w.heap.size + 1 + 1 + 1 + 1 + 1, 0, none⟩ = some (.slice A1 n1 c1) := c5
  refine bodyPost_ret (v := .tuple #[.slice none 0 0, .bool false]) (by simp [results, Tryd.results4, go_sem, c5b]) rfl ⟨_, _, _, rfl, ?_⟩
  exact hb.setCell (p := ⟨w.heap.size + 1 + 1 + 1 + 1 + 1, 0, none⟩) (by show w.heap.size ≤ w.heap.size + 1 + 1 + 1 + 1 + 1; omega) _
set_option maxHeartbeats 1000000 in
theorem impl_no1 (K V A : Option Addr) (nk ck cv n c : Nat) (w : World)
    (ha : Asked w 1 (.slice K nk ck) (.slice V 16 cv) (.slice A n c) (fun v => ∃ u, v = .iface 46 u)) :
    Calls Tryd.prog 4 #[.int .i64 1, .slice K nk ck, .slice V 16 cv, .slice A n c, .bool false] w (GotF false w) := by
  have hcl := calm_clos w 1 _ _ _ _ ha
  clear ha
  go_enter Tryd.func4, Tryd.ntmps4
  go_wp2_with fail
  refine hcl.mono ?_
  rintro e w1 ⟨rfl, hb, ⟨A1, n1, c1, h5⟩, v, ⟨u, rfl⟩, h6⟩
  have c5 := h5.cell 0
  have f5 := h5.frozen 0
  have c6 := h6.cell 0
  simp at c5 c6
  go_wp2_with fail
  have c5b : w1.cell? ⟨w.heap.size + 1 + 1 + 1 + 1 + 1, 0, none⟩ = some (.slice A1 n1 c1) := c5
  refine bodyPost_ret (v := .tuple #[.slice none 0 0, .bool false]) (by simp [results, Tryd.results4, go_sem, c5b]) rfl ⟨_, _, _, rfl, ?_⟩
  exact hb.setCell (p := ⟨w.heap.size + 1 + 1 + 1 + 1 + 1, 0, none⟩) (by show w.heap.size ≤ w.heap.size + 1 + 1 + 1 + 1 + 1; omega) _
end Go.Proofs.YteioblloppcjoaaDoor
