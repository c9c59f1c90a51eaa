/- A cipher is made: its keys, exactly, and its two rows of work. No condition but where things lie. -/
import Derived.Test.YtkfagcpboehjjaaDoorSubk
import Derived.Laws.Pointers
namespace Go.Proofs.YtkfagcpboehjjaaDoor
set_option maxRecDepth 100000
open Go.RowKit

/-- A cipher at block a: its keys rk in gk, its rows of work in g and gr, all from block B on. -/
structure Ciph (w : World) (B a gk g gr : Nat) (rk : Nat → Int) : Prop where
  row : Blk w a 59 #[.slice (some ⟨gk, 0, none⟩) 32 32, .slice (some ⟨g, 0, none⟩) 4 4, .slice (some ⟨gr, 0, none⟩) 16 16]
  k : ArrU w gk 46 32 rk
  b : ∃ o, ArrU w g 46 4 o
  r : ∃ o, ArrB w gr 16 o
  n1 : gk ≠ g
  n2 : gr ≠ g
  n3 : gk ≠ gr
  a1 : a ≠ g
  a2 : a ≠ gr
  lo : B ≤ a ∧ B ≤ gk ∧ B ≤ g ∧ B ≤ gr
section
variable {w w' : World} {B a gk g gr : Nat} {rk : Nat → Int} {S : List Nat}
theorem Ciph.only (h : Ciph w B a gk g gr rk) (ho : Only S w w') (ha : a ∉ S) (hk : gk ∉ S) (hg : g ∉ S) (hr : gr ∉ S) : Ciph w' B a gk g gr rk :=
  ⟨ho.blk h.row ha, h.k.only ho hk, h.b.imp fun _ hb => hb.only ho hg, h.r.imp fun _ hb => hb.only ho hr, h.n1, h.n2, h.n3, h.a1, h.a2, h.lo⟩
theorem Ciph.lt (h : Ciph w B a gk g gr rk) : a < w.heap.size ∧ gk < w.heap.size ∧ g < w.heap.size ∧ gr < w.heap.size := ⟨h.row.lt, h.k.lt, h.b.elim fun _ hb => hb.lt, h.r.elim fun _ hb => hb.lt⟩
end

/-- A cipher comes back, in new memory. -/
def GotC (f : Nat → Int) (w : World) (e : Ending) (w' : World) : Prop := ∃ a gk g gr, e = .returned (.tuple #[.pointer (some ⟨a, 0, none⟩), .nilIface]) ∧ Ciph w' w.heap.size a gk g gr (keyF f) ∧ Only [] w w'
theorem zero59 (w : World) : (zeroValue 59).run Tryd.prog w = .ok (.agg #[.slice none 0 0, .slice none 0 0, .slice none 0 0]) w := by kernel_rfl

set_option maxHeartbeats 1000000 in
theorem newc_any (ad : Addr) (c : Nat) (f : Nat → Int) (w : World) (hs : Src w ad 16 f) (hf : Bf f) (ht : Tabs w) (h7 : 7 ≤ w.heap.size) (hl : ad.block < w.heap.size) :
    Calls Tryd.prog 17 #[.slice (some ad) 16 c] w (GotC f w) := by
  have m1 := makeU4
  have m2 := makeB16
  have hz := zero59
  have ho0 : Only [] w (w.alloc (.cells #[.slice none 0 0, .slice none 0 0, .slice none 0 0] 59)) := (Only.refl _ _).alloc _
  have hb0 : Blk (w.alloc (.cells #[.slice none 0 0, .slice none 0 0, .slice none 0 0] 59)) w.heap.size 59 #[.slice none 0 0, .slice none 0 0, .slice none 0 0] := Blk.new _ _ _
  go_enter Tryd.func17, Tryd.ntmps17
  go_wp2_with fail
  refine (subk_any ad 16 c f _ (Nat.le_refl _) (hs.only ho0 hl (by simp)) hf (ht.only ho0 h7 (by simp)) (by simp; omega) (by simp; omega)).mono ?_
  rintro e w1 ⟨rfl, hk, ho1, hsz⟩
  have hb1 := ho1.blk hb0 (by simp)
  have c0 := hb1.cell 0
  have c1 := hb1.cell 1
  have c2 := hb1.cell 2
  have f0 := hb1.frozen 0
  have f1 := hb1.frozen 1
  have f2 := hb1.frozen 2
  simp at c0 c1 c2 hsz hk
  have hlt : w.heap.size < w1.heap.size := by omega
  have hlt1 : w.heap.size + 1 < w1.heap.size := by omega
  go_wp2_with fail
  have hb4 := ((((hb1.set_ 0 (.slice (some ⟨w.heap.size + 1, 0, none⟩) 32 32)).set_ 1 (.slice (some ⟨w1.heap.size, 0, none⟩) 4 4)).set_ 2 (.slice (some ⟨w1.heap.size + 1, 0, none⟩) 16 16)).alloc (.cells (ZU 4) 46)).alloc (.cells (ZB 16) 5)
  have ho3 : Only [w.heap.size] w1 (((w1.setCell ⟨w.heap.size, 0, none⟩ (.slice (some ⟨w.heap.size + 1, 0, none⟩) 32 32)).setCell ⟨w.heap.size, 1, none⟩ (.slice (some ⟨w1.heap.size, 0, none⟩) 4 4)).setCell ⟨w.heap.size, 2, none⟩ (.slice (some ⟨w1.heap.size + 1, 0, none⟩) 16 16)) :=
    (((Only.refl _ _).setCell (p := ⟨w.heap.size, 0, none⟩) (fun _ => by simp) _).setCell (p := ⟨w.heap.size, 1, none⟩) (fun _ => by simp) _).setCell (p := ⟨w.heap.size, 2, none⟩) (fun _ => by simp) _
  generalize hW : ((w1.setCell ⟨w.heap.size, 0, none⟩ (.slice (some ⟨w.heap.size + 1, 0, none⟩) 32 32)).setCell ⟨w.heap.size, 1, none⟩ (.slice (some ⟨w1.heap.size, 0, none⟩) 4 4)).setCell ⟨w.heap.size, 2, none⟩ (.slice (some ⟨w1.heap.size + 1, 0, none⟩) 16 16) = W3 at *
  have hs3 : W3.heap.size = w1.heap.size := by rw [← hW]; simp
  have hb' := ArrU.new W3 4
  have hr' := ArrB.new (W3.alloc (.cells (ZU 4) 46)) 16
  rw [hs3] at hb'
  simp only [World.size_alloc, hs3] at hr'
  go_ret2
  refine ⟨w.heap.size, w.heap.size + 1, w1.heap.size, w1.heap.size + 1, rfl, ⟨hb4, ((hk.only ho3 (by simp)).alloc _).alloc _, ⟨_, hb'.alloc _⟩, ⟨_, hr'⟩, by omega, by omega, by omega, by omega, by omega, by omega, by omega, by omega, by omega⟩, ?_⟩
  exact (((ho0.trans ho1).then_ ho3 (by intro k hk hl; simp at hk; omega)).alloc _).alloc _
end Go.Proofs.YtkfagcpboehjjaaDoor
