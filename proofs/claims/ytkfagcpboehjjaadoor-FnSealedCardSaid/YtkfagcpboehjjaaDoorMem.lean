/- Words for memory: a block that is known whole, an array of words, bytes that can be read. No condition. -/
import Derived.WalkKit
import Derived.Deep.Draws
namespace Go.Proofs.YtkfagcpboehjjaaDoor
open Go.RowKit

/-- Block g is the cells cs of type t, none frozen. -/
def Blk (w : World) (g : Nat) (t : TypeId) (cs : Array Value) : Prop := w.heap[g]? = some (.cells cs t (0, 0))

section
variable {w w' : World} {g : Nat} {t : TypeId} {cs : Array Value}
theorem Blk.lt (h : Blk w g t cs) : g < w.heap.size := by
  rcases Nat.lt_or_ge g w.heap.size with hlt | hge
  · exact hlt
  · unfold Blk at h; rw [Array.getElem?_eq_none hge] at h; cases h
theorem Blk.cell (h : Blk w g t cs) (i : Nat) : w.cell? ⟨g, i, none⟩ = cs[i]? := cell_of_row w g i cs t (0, 0) h
theorem Blk.frozen (h : Blk w g t cs) (i : Nat) : w.frozen? ⟨g, i, none⟩ = false := by
  unfold Blk at h
  simp [World.frozen?, h]
theorem Blk.new (w : World) (t : TypeId) (cs : Array Value) : Blk (w.alloc (.cells cs t)) w.heap.size t cs := heap_alloc_new w _
theorem Blk.drew (h : Blk w g t cs) : Blk w.drew g t cs := h
theorem Blk.drewN (h : Blk w g t cs) (n : Nat) : Blk (w.drewN n) g t cs := h
theorem Blk.alloc (h : Blk w g t cs) (o : Obj) : Blk (w.alloc o) g t cs := (Below.heap_alloc w o g h.lt).trans h
theorem Blk.set_ (h : Blk w g t cs) (i : Nat) (u : Value) : Blk (w.setCell ⟨g, i, none⟩ u) g t (cs.setIfInBounds i u) := by
  unfold Blk at h ⊢
  simp [World.setCell, Array.getElem?_modify, h]
theorem Blk.far (h : Blk w g t cs) {p : Addr} (hp : g ≠ p.block) (u : Value) : Blk (w.setCell p u) g t cs := (Below.heap_setCell w p u g hp).trans h
theorem Blk.below {B : Nat} (h : Blk w g t cs) (hb : Below B w w') (hg : g < B) : Blk w' g t cs := (hb.block g hg).trans h
end

/-- Block g is an array of n words of 32 bits, word j being f j. -/
def ArrU (w : World) (g : Nat) (t : TypeId) (n : Nat) (f : Nat → Int) : Prop :=
  ∃ cs, Blk w g t cs ∧ cs.size = n ∧ ∀ j, j < n → cs[j]? = some (.int .u32 (f j))

section
variable {w w' : World} {g n : Nat} {t : TypeId} {f f' : Nat → Int}
theorem ArrU.lt (h : ArrU w g t n f) : g < w.heap.size := let ⟨_, h, _, _⟩ := h; h.lt
theorem ArrU.cell (h : ArrU w g t n f) {j : Nat} (hj : j < n) : w.cell? ⟨g, j, none⟩ = some (.int .u32 (f j)) := by
  obtain ⟨cs, hb, _, hc⟩ := h
  rw [hb.cell, hc j hj]
theorem ArrU.frozen (h : ArrU w g t n f) (j : Nat) : w.frozen? ⟨g, j, none⟩ = false := let ⟨_, hb, _, _⟩ := h; hb.frozen j
theorem ArrU.drewN (h : ArrU w g t n f) (k : Nat) : ArrU (w.drewN k) g t n f := h
theorem ArrU.alloc (h : ArrU w g t n f) (o : Obj) : ArrU (w.alloc o) g t n f := let ⟨cs, hb, h⟩ := h; ⟨cs, hb.alloc o, h⟩
theorem ArrU.far (h : ArrU w g t n f) {p : Addr} (hp : g ≠ p.block) (u : Value) : ArrU (w.setCell p u) g t n f := let ⟨cs, hb, h⟩ := h; ⟨cs, hb.far hp u, h⟩
theorem ArrU.below {B : Nat} (h : ArrU w g t n f) (hb : Below B w w') (hg : g < B) : ArrU w' g t n f := let ⟨cs, h1, h⟩ := h; ⟨cs, h1.below hb hg, h⟩
theorem ArrU.congr (h : ArrU w g t n f) (he : ∀ j, j < n → f j = f' j) : ArrU w g t n f' := let ⟨cs, h1, h2, h3⟩ := h; ⟨cs, h1, h2, fun j hj => by rw [h3 j hj, he j hj]⟩
theorem ArrU.set_ (h : ArrU w g t n f) (i : Nat) (x : Int) (he : ∀ j, j < n → f' j = if j = i then x else f j) : ArrU (w.setCell ⟨g, i, none⟩ (.int .u32 x)) g t n f' := by
  obtain ⟨cs, h1, h2, h3⟩ := h
  refine ⟨_, h1.set_ i _, by simp [h2], fun j hj => ?_⟩
  rw [he j hj, Array.getElem?_setIfInBounds]
  by_cases hij : i = j
  · subst hij; simp [h2, hj]
  · rw [if_neg hij, h3 j hj, if_neg (fun e => hij e.symm)]
end

/-- n bytes lie at ⟨g, o⟩: the list l. -/
structure Bytes (w : World) (g o : Nat) (l : List Int) : Prop where
  cell : ∀ j, j < l.length → w.cell? ⟨g, o + j, none⟩ = some (.int .u8 (l.getD j 0))
  byte : ∀ x ∈ l, 0 ≤ x ∧ x ≤ 255

theorem byte_getD {l : List Int} (h : ∀ x ∈ l, 0 ≤ x ∧ x ≤ 255) (j : Nat) : 0 ≤ l.getD j 0 ∧ l.getD j 0 ≤ 255 := by
  by_cases hj : j < l.length
  · rw [List.getD_eq_getElem?_getD, List.getElem?_eq_getElem hj]; exact h _ (List.getElem_mem hj)
  · rw [List.getD_eq_getElem?_getD, List.getElem?_eq_none (by omega)]; exact ⟨by decide, by decide⟩
section
variable {w w' : World} {g o : Nat} {l : List Int}
theorem Bytes.drewN (h : Bytes w g o l) (k : Nat) : Bytes (w.drewN k) g o l := ⟨h.cell, h.byte⟩
theorem Bytes.keep (h : Bytes w g o l) (hk : w'.heap[g]? = w.heap[g]?) : Bytes w' g o l :=
  ⟨fun j hj => (World.cell?_of_block (a := ⟨g, o + j, none⟩) hk).trans (h.cell j hj), h.byte⟩
theorem Bytes.below {B : Nat} (h : Bytes w g o l) (hb : Below B w w') (hg : g < B) : Bytes w' g o l := h.keep (hb.block g hg)
end
end Go.Proofs.YtkfagcpboehjjaaDoor
