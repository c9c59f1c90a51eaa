/- What the rows list as laid, and what it tells of the package's tables. No condition. -/
import Derived.Test.YtkfagcpboehjjaaDoorTabs
import Derived.Lib.LaidU8
import Derived.Lib.LaidTab
import Derived.MakeChecks
namespace Go.Proofs.YtkfagcpboehjjaaDoor
set_option maxRecDepth 100000
open Go.RowKit

def POW : List Int := [1, 10, 100, 1000, 10000, 100000, 1000000, 10000000, 100000000, 1000000000, 10000000000, 100000000000, 1000000000000, 10000000000000, 100000000000000, 1000000000000000, 10000000000000000, 100000000000000000, 1000000000000000000, 10000000000000000000]
def B32 : List Int := [0, 1, 28, 2, 29, 14, 24, 3, 30, 22, 20, 15, 25, 17, 4, 8, 31, 27, 13, 23, 21, 19, 16, 7, 26, 12, 18, 6, 11, 5, 10, 9]
def B64 : List Int := [0, 1, 56, 2, 57, 49, 28, 3, 61, 58, 42, 50, 38, 29, 17, 4, 62, 47, 59, 36, 45, 43, 51, 22, 53, 39, 33, 30, 24, 18, 12, 5, 63, 55, 48, 27, 60, 41, 37, 16, 46, 35, 44, 21, 52, 32, 23, 11, 54, 26, 40, 15, 34, 20, 31, 10, 25, 14, 19, 9, 13, 8, 7, 6]
abbrev L10 : List (String × DataW Unit) := [("internal/strconv.uint64pow10", Lib.tabData .u64 POW), ("math/bits.deBruijn32tab", Lib.tabData .u8 B32), ("math/bits.deBruijn64tab", Lib.tabData .u8 B64), ("given.example/pub-waxwright/pub/gmsmt/sm4.fk", Lib.tabData .u32 FK), ("given.example/pub-waxwright/pub/gmsmt/sm4.ck", Lib.tabData .u32 CK), ("given.example/pub-waxwright/pub/gmsmt/sm4.sbox", Lib.tabData .u8 SB), ("given.example/pub-waxwright/pub/gmsmt/sm4.sbox0", Lib.tabData .u32 T0), ("given.example/pub-waxwright/pub/gmsmt/sm4.sbox1", Lib.tabData .u32 T1), ("given.example/pub-waxwright/pub/gmsmt/sm4.sbox2", Lib.tabData .u32 T2), ("given.example/pub-waxwright/pub/gmsmt/sm4.sbox3", Lib.tabData .u32 T3)]
theorem tab_cell {name : String} {k : IntKind} {zs : List Int} {w : World} {g n : Nat} {t e : TypeId} (h : Lib.VarReads Tryd.prog w name (Lib.tabData k zs)) (hn : Tryd.prog.globalNamed name = some g) (hy : (Tryd.prog.globals[g]?).map (·.type) = some t)
    (ht : Tryd.prog.underlying t = some (.array n e)) (he : Tryd.prog.underlying e = some (.int k)) (c1 : Tryd.prog.cellsOf e = 1) (cn : Tryd.prog.cellsOf t = n) (j : Nat) (hj : j < zs.length) : w.cell? ⟨g, j, none⟩ = some (.int k (zs.getD j 0)) := by
  obtain ⟨g', t', cs, fuel, p, hg, hty, hvar, hd⟩ := h
  obtain rfl := Option.some.inj (hn.symm.trans hg)
  obtain rfl := Option.some.inj (hy.symm.trans hty)
  have hcs := Lib.cells_of_tab ht he c1 cn hd
  have := World.var?_cell hg hvar j
  rw [this, ← Array.getElem?_toList, hcs, List.getElem?_map, List.getD_eq_getElem?_getD, List.getElem?_eq_getElem hj]
  rfl
theorem tabs_of_laid {w : World} (h : laidMetH Tryd.prog L10 w) : Tabs w ∧ 8 ≤ w.heap.size := by
  rw [MakeChecks.laidMetH_plain _ _ _ (by kernel_rfl)] at h
  have hr : ∀ n d, (n, d) ∈ L10 → Lib.VarReads Tryd.prog w n d := fun n d hm => Lib.laidMet.reads h hm
  refine ⟨⟨fun j hj => tab_cell (hr _ _ (by simp)) (g := 0) (n := 4) (t := 75) (e := 46) (name := "given.example/pub-waxwright/pub/gmsmt/sm4.fk") (zs := FK) (by kernel_rfl) (by kernel_rfl) Tryd.underlying75 Tryd.underlying46 (by kernel_rfl) (by kernel_rfl) j (by rw [show FK.length = 4 from rfl]; exact hj),
    fun j hj => tab_cell (hr _ _ (by simp)) (g := 1) (n := 32) (t := 47) (e := 46) (name := "given.example/pub-waxwright/pub/gmsmt/sm4.ck") (zs := CK) (by kernel_rfl) (by kernel_rfl) Tryd.underlying47 Tryd.underlying46 (by kernel_rfl) (by kernel_rfl) j (by rw [show CK.length = 32 from by kernel_rfl]; exact hj),
    fun j hj => tab_cell (hr _ _ (by simp)) (g := 2) (n := 256) (t := 77) (e := 46) (name := "given.example/pub-waxwright/pub/gmsmt/sm4.sbox0") (zs := T0) (by kernel_rfl) (by kernel_rfl) Tryd.underlying77 Tryd.underlying46 (by kernel_rfl) (by kernel_rfl) j (by rw [show T0.length = 256 from T0_length]; exact hj),
    fun j hj => tab_cell (hr _ _ (by simp)) (g := 3) (n := 256) (t := 77) (e := 46) (name := "given.example/pub-waxwright/pub/gmsmt/sm4.sbox1") (zs := T1) (by kernel_rfl) (by kernel_rfl) Tryd.underlying77 Tryd.underlying46 (by kernel_rfl) (by kernel_rfl) j (by rw [show T1.length = 256 from T1_length]; exact hj),
    fun j hj => tab_cell (hr _ _ (by simp)) (g := 4) (n := 256) (t := 77) (e := 46) (name := "given.example/pub-waxwright/pub/gmsmt/sm4.sbox2") (zs := T2) (by kernel_rfl) (by kernel_rfl) Tryd.underlying77 Tryd.underlying46 (by kernel_rfl) (by kernel_rfl) j (by rw [show T2.length = 256 from T2_length]; exact hj),
    fun j hj => tab_cell (hr _ _ (by simp)) (g := 5) (n := 256) (t := 77) (e := 46) (name := "given.example/pub-waxwright/pub/gmsmt/sm4.sbox3") (zs := T3) (by kernel_rfl) (by kernel_rfl) Tryd.underlying77 Tryd.underlying46 (by kernel_rfl) (by kernel_rfl) j (by rw [show T3.length = 256 from T3_length]; exact hj),
    fun j hj => tab_cell (hr _ _ (by simp)) (g := 6) (n := 256) (t := 84) (e := 5) (name := "given.example/pub-waxwright/pub/gmsmt/sm4.sbox") (zs := SB) (by kernel_rfl) (by kernel_rfl) Tryd.underlying84 Tryd.underlying5 (by kernel_rfl) (by kernel_rfl) j (by rw [show SB.length = 256 from SB_length]; exact hj)⟩, ?_⟩
  have hp : ∀ j, j < 20 → w.cell? ⟨7, j, none⟩ = some (.int .u64 (POW.getD j 0)) := fun j hj => tab_cell (hr _ _ (by simp)) (g := 7) (n := 20) (t := 95) (e := 69) (name := "internal/strconv.uint64pow10") (zs := POW) (by kernel_rfl) (by kernel_rfl) Tryd.underlying95 Tryd.underlying69 (by kernel_rfl) (by kernel_rfl) j (by rw [show POW.length = 20 from rfl]; exact hj)
  have h0 := hp 0 (by omega)
  rcases Nat.lt_or_ge 7 w.heap.size with h1 | h1
  · exact h1
  · unfold World.cell? at h0; rw [Array.getElem?_eq_none h1] at h0; cases h0
end Go.Proofs.YtkfagcpboehjjaaDoor
