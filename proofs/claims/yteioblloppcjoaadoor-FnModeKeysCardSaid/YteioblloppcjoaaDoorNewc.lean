/- A cipher is made: its keys, its two rows of work. No condition but where things lie. -/
import Derived.Test.YteioblloppcjoaaDoorSubk
import Derived.Laws.Pointers
namespace Go.Proofs.YteioblloppcjoaaDoor
set_option maxRecDepth 100000
open Go.RowKit

/-- A cipher at block a: its keys in gk, its rows of work in g and gr, all from block B on. -/
structure Ciph (w : World) (B a gk g gr : Nat) : Prop where
  row : Blk w a 41 #[.slice (some ⟨gk, 0, none⟩) 32 32, .slice (some ⟨g, 0, none⟩) 4 4, .slice (some ⟨gr, 0, none⟩) 16 16]
  k : Wds w gk 32
  b : Wds w g 4
  r : Bys w gr 16
  n1 : gk ≠ g
  n2 : gr ≠ g
  n3 : gk ≠ gr
  a1 : a ≠ g
  a2 : a ≠ gr
  lo : B ≤ a ∧ B ≤ gk ∧ B ≤ g ∧ B ≤ gr
section
variable {w w' : World} {B a gk g gr : Nat} {S : List Nat}
theorem Ciph.only (h : Ciph w B a gk g gr) (ho : Only S w w') (ha : a ∉ S) (hk : gk ∉ S) (hg : g ∉ S) (hr : gr ∉ S) : Ciph w' B a gk g gr :=
  ⟨ho.blk h.row ha, h.k.only ho hk, h.b.only ho hg, h.r.only ho hr, h.n1, h.n2, h.n3, h.a1, h.a2, h.lo⟩
theorem Ciph.lt (h : Ciph w B a gk g gr) : a < w.heap.size ∧ gk < w.heap.size ∧ g < w.heap.size ∧ gr < w.heap.size := ⟨h.row.lt, h.k.lt, h.b.lt, h.r.lt⟩
end

/-- A cipher comes back, in new memory. -/
def GotC (w : World) (e : Ending) (w' : World) : Prop := ∃ a gk g gr, e = .returned (.tuple #[.pointer (some ⟨a, 0, none⟩), .nilIface]) ∧ Ciph w' w.heap.size a gk g gr ∧ Only [] w w'
theorem zero41 (w : World) : (zeroValue 41).run Tryd.prog w = .ok (.agg #[.slice none 0 0, .slice none 0 0, .slice none 0 0]) w := by kernel_rfl

set_option maxHeartbeats 1000000 in
theorem newc_any (ad : Addr) (c : Nat) (w : World) (hs : Src w ad 16) (ht : Tabs w) (h7 : 7 ≤ w.heap.size) (hl : ad.block < w.heap.size) :
    Calls Tryd.prog 7 #[.slice (some ad) 16 c] w (GotC w) := by
  have m1 := makeU4
  have m2 := makeB16
  have hz := zero41
  have ho0 : Only [] w (w.alloc (.cells #[.slice none 0 0, .slice none 0 0, .slice none 0 0] 41)) := (Only.refl _ _).alloc _
  have hb0 : Blk (w.alloc (.cells #[.slice none 0 0, .slice none 0 0, .slice none 0 0] 41)) w.heap.size 41 #[.slice none 0 0, .slice none 0 0, .slice none 0 0] := Blk.new _ _ _
  go_enter Tryd.func7, Tryd.ntmps7
  go_wp2_with fail
  refine (subk_any ad 16 c _ (Nat.le_refl _) (hs.only ho0 hl (by simp)) (ht.only ho0 h7 (by simp)) (by simp; omega) (by simp; omega)).mono ?_
  rintro e w1 ⟨rfl, hk, ho1, hsz⟩
  have hb1 := ho1.blk hb0 (by simp)
  have c0 := hb1.cell 0
  have c1 := hb1.cell 1
  have c2 := hb1.cell 2
  have f0 := hb1.frozen 0
  have f1 := hb1.frozen 1
  have f2 := hb1.frozen 2
  simp at c0 c1 c2 hsz hk
  have hlt : w.heap.size < w1.heap.size := by omega
  have hlt1 : w.heap.size + 1 < w1.heap.size := by omega
  go_wp2_with fail
  have hb4 := ((((hb1.set_ 0 (.slice (some ⟨w.heap.size + 1, 0, none⟩) 32 32)).set_ 1 (.slice (some ⟨w1.heap.size, 0, none⟩) 4 4)).set_ 2 (.slice (some ⟨w1.heap.size + 1, 0, none⟩) 16 16)).alloc (.cells (ZU 4) 50)).alloc (.cells (ZB 16) 5)
  have ho3 : Only [w.heap.size] w1 (((w1.setCell ⟨w.heap.size, 0, none⟩ (.slice (some ⟨w.heap.size + 1, 0, none⟩) 32 32)).setCell ⟨w.heap.size, 1, none⟩ (.slice (some ⟨w1.heap.size, 0, none⟩) 4 4)).setCell ⟨w.heap.size, 2, none⟩ (.slice (some ⟨w1.heap.size + 1, 0, none⟩) 16 16)) :=
    (((Only.refl _ _).setCell (p := ⟨w.heap.size, 0, none⟩) (fun _ => by simp) _).setCell (p := ⟨w.heap.size, 1, none⟩) (fun _ => by simp) _).setCell (p := ⟨w.heap.size, 2, none⟩) (fun _ => by simp) _
  generalize hW : ((w1.setCell ⟨w.heap.size, 0, none⟩ (.slice (some ⟨w.heap.size + 1, 0, none⟩) 32 32)).setCell ⟨w.heap.size, 1, none⟩ (.slice (some ⟨w1.heap.size, 0, none⟩) 4 4)).setCell ⟨w.heap.size, 2, none⟩ (.slice (some ⟨w1.heap.size + 1, 0, none⟩) 16 16) = W3 at *
  have hs3 : W3.heap.size = w1.heap.size := by rw [← hW]; simp
  have hb' := Wds.new W3 4
  have hr' := Bys.new (W3.alloc (.cells (ZU 4) 50)) 16
  rw [hs3] at hb'
  simp only [World.size_alloc, hs3] at hr'
  go_ret2
  refine ⟨w.heap.size, w.heap.size + 1, w1.heap.size, w1.heap.size + 1, rfl, ⟨hb4, ((hk.only ho3 (by simp)).alloc _).alloc _, hb'.alloc _, hr', by omega, by omega, by omega, by omega, by omega, by omega, by omega, by omega, by omega⟩, ?_⟩
  exact (((ho0.trans ho1).then_ ho3 (by intro k hk hl; simp at hk; omega)).alloc _).alloc _
end Go.Proofs.YteioblloppcjoaaDoor
