/- What a call leaves as it was: all blocks but those named. No condition. -/
import Derived.Test.YteioblloppcjoaaDoorPrim
namespace Go.Proofs.YteioblloppcjoaaDoor
open Go.RowKit

/-- Of the blocks that were there only those named may have turned. -/
structure Only (S : List Nat) (w w' : World) : Prop where
  os : w'.os = w.os
  tape : w'.tape = w.tape
  output : w'.output = w.output
  size : w.heap.size ≤ w'.heap.size
  block : ∀ k, k < w.heap.size → k ∉ S → w'.heap[k]? = w.heap[k]?
section
variable {w w' w'' : World} {S S' : List Nat}
theorem Only.refl (S : List Nat) (w : World) : Only S w w := ⟨rfl, rfl, rfl, Nat.le_refl _, fun _ _ _ => rfl⟩
theorem Only.mono (h : Only S w w') (hs : ∀ k ∈ S, k < w.heap.size → k ∈ S') : Only S' w w' := ⟨h.os, h.tape, h.output, h.size, fun k hk hn => h.block k hk fun hm => hn (hs k hm hk)⟩
theorem Only.trans (h : Only S w w') (h' : Only S w' w'') : Only S w w'' :=
  ⟨h'.os.trans h.os, h'.tape.trans h.tape, h'.output.trans h.output, Nat.le_trans h.size h'.size, fun k hk hn => (h'.block k (Nat.lt_of_lt_of_le hk h.size) hn).trans (h.block k hk hn)⟩
theorem Only.then_ (h : Only S w w') (h' : Only S' w' w'') (hs : ∀ k ∈ S', k < w.heap.size → k ∈ S) : Only S w w'' :=
  ⟨h'.os.trans h.os, h'.tape.trans h.tape, h'.output.trans h.output, Nat.le_trans h.size h'.size, fun k hk hn => (h'.block k (Nat.lt_of_lt_of_le hk h.size) fun hm => hn (hs k hm hk)).trans (h.block k hk hn)⟩
theorem Only.drewN (h : Only S w w') (n : Nat) : Only S w (w'.drewN n) := ⟨h.os, h.tape, h.output, h.size, h.block⟩
theorem Only.drew (h : Only S w w') : Only S w w'.drew := ⟨h.os, h.tape, h.output, h.size, h.block⟩
theorem Only.setCell (h : Only S w w') {p : Addr} (hp : p.block < w.heap.size → p.block ∈ S) (u : Value) : Only S w (w'.setCell p u) := by
  refine ⟨h.os, h.tape, h.output, by simpa [World.setCell] using h.size, fun k hk hn => ?_⟩
  have hne : k ≠ p.block := fun e => hn (e ▸ hp (e ▸ hk))
  exact (Below.heap_setCell w' p u k hne).trans (h.block k hk hn)
theorem Only.alloc (h : Only S w w') (o : Obj) : Only S w (w'.alloc o) :=
  ⟨h.os, h.tape, h.output, Nat.le_trans h.size (by simp), fun k hk hn => (Below.heap_alloc w' o k (Nat.lt_of_lt_of_le hk h.size)).trans (h.block k hk hn)⟩
theorem Only.of_below {B : Nat} (h : Below B w w') (hB : w.heap.size ≤ B) : Only [] w w' := ⟨h.os, h.tape, h.output, h.size, fun k hk _ => h.block k (by omega)⟩
theorem Only.to_below {B : Nat} (h : Only S w w') (hB : B ≤ w.heap.size) (hS : ∀ k ∈ S, B ≤ k) : Below B w w' :=
  ⟨h.os, h.tape, h.output, h.size, fun k hk => h.block k (by omega) fun hm => by have := hS k hm; omega⟩
theorem Only.cell (h : Only S w w') {p : Addr} (hp : p.block < w.heap.size) (hn : p.block ∉ S) : w'.cell? p = w.cell? p := World.cell?_of_block (h.block p.block hp hn)
theorem Only.blk {g : Nat} {t : TypeId} {cs : Array Value} (h : Only S w w') (hb : Blk w g t cs) (hn : g ∉ S) : Blk w' g t cs := (h.block g hb.lt hn).trans hb
end

/-- Block g is n words. -/
def Wds (w : World) (g n : Nat) : Prop := ∃ f, ArrU w g 50 n f ∧ ∀ j, j < n → U32 (f j)
/-- Block g begins with n bytes. -/
def Bys (w : World) (g n : Nat) : Prop := ∃ f, ArrB w g n f ∧ ∀ j, j < n → 0 ≤ f j ∧ f j ≤ 255
/-- n bytes lie at ad. -/
def Src (w : World) (ad : Addr) (n : Nat) : Prop := ∀ j, j < n → ∃ x : Int, (0 ≤ x ∧ x ≤ 255) ∧ w.cell? (ad.add j) = some (.int .u8 x)
theorem add_at (g o j : Nat) : (⟨g, o, none⟩ : Addr).add j = ⟨g, o + j, none⟩ := by
  unfold Addr.add; by_cases h0 : j = 0 <;> simp [h0]
section
variable {w w' : World} {S : List Nat} {g n : Nat} {ad : Addr}
theorem Wds.lt (h : Wds w g n) : g < w.heap.size := let ⟨_, h, _⟩ := h; h.lt
theorem Bys.lt (h : Bys w g n) : g < w.heap.size := let ⟨_, h, _⟩ := h; h.lt
theorem Wds.only (h : Wds w g n) (ho : Only S w w') (hn : g ∉ S) : Wds w' g n := let ⟨f, ⟨cs, hb, h1⟩, h2⟩ := h; ⟨f, ⟨cs, ho.blk hb hn, h1⟩, h2⟩
theorem Bys.only (h : Bys w g n) (ho : Only S w w') (hn : g ∉ S) : Bys w' g n := let ⟨f, ⟨cs, hb, h1⟩, h2⟩ := h; ⟨f, ⟨cs, ho.blk hb hn, h1⟩, h2⟩
theorem Wds.drewN (h : Wds w g n) (k : Nat) : Wds (w.drewN k) g n := h
theorem Bys.drewN (h : Bys w g n) (k : Nat) : Bys (w.drewN k) g n := h
theorem Wds.at_ (h : Wds w g n) {j : Nat} (hj : j < n) : ∃ x, U32 x ∧ w.cell? ⟨g, j, none⟩ = some (.int .u32 x) := let ⟨f, h1, h2⟩ := h; ⟨f j, h2 j hj, h1.cell hj⟩
theorem Bys.at_ (h : Bys w g n) {j : Nat} (hj : j < n) : ∃ x : Int, (0 ≤ x ∧ x ≤ 255) ∧ w.cell? ⟨g, j, none⟩ = some (.int .u8 x) := let ⟨f, h1, h2⟩ := h; ⟨f j, h2 j hj, h1.cell hj⟩
theorem Wds.frozen (h : Wds w g n) (j : Nat) : w.frozen? ⟨g, j, none⟩ = false := let ⟨_, h1, _⟩ := h; h1.frozen j
theorem Bys.frozen (h : Bys w g n) (j : Nat) : w.frozen? ⟨g, j, none⟩ = false := let ⟨_, h1, _⟩ := h; h1.frozen j
theorem Wds.set_ (h : Wds w g n) (i : Nat) {x : Int} (hx : U32 x) : Wds (w.setCell ⟨g, i, none⟩ (.int .u32 x)) g n := by
  obtain ⟨f, h1, h2⟩ := h
  refine ⟨fun j => if j = i then x else f j, h1.set_ i x fun _ _ => rfl, fun j hj => ?_⟩
  by_cases e : j = i
  · simp only [e, if_true]; exact hx
  · simp only [e, if_false]; exact h2 j hj
theorem Bys.set_ (h : Bys w g n) (i : Nat) {x : Int} (hx : 0 ≤ x ∧ x ≤ 255) : Bys (w.setCell ⟨g, i, none⟩ (.int .u8 x)) g n := by
  obtain ⟨f, h1, h2⟩ := h
  refine ⟨fun j => if j = i then x else f j, h1.set_ i x fun _ _ => rfl, fun j hj => ?_⟩
  by_cases e : j = i
  · simp only [e, if_true]; exact hx
  · simp only [e, if_false]; exact h2 j hj
theorem Src.only (h : Src w ad n) (ho : Only S w w') (hl : ad.block < w.heap.size) (hn : ad.block ∉ S) : Src w' ad n := fun j hj =>
  let ⟨x, hx, hc⟩ := h j hj; ⟨x, hx, (ho.cell (by rw [block_of_add]; exact hl) (by rw [block_of_add]; exact hn)).trans hc⟩
theorem Bys.src (h : Bys w g n) {o m : Nat} (hm : o + m ≤ n) : Src w ⟨g, o, none⟩ m := fun j hj => by
  rw [add_at]; exact h.at_ (by omega)
theorem Tabs.only (h : Tabs w) (ho : Only S w w') (hl : 7 ≤ w.heap.size) (hn : ∀ k ∈ S, 7 ≤ k) : Tabs w' := h.keep fun p hp => ho.cell (by omega) fun hm => by have := hn _ hm; omega
theorem four {g : Nat} (ho : Only S w w') (hg : g < w.heap.size → g ∈ S) (hw : Wds w' g 4) {x0 x1 x2 x3 : Int} (h0 : U32 x0) (h1 : U32 x1) (h2 : U32 x2) (h3 : U32 x3) :
    Only S w ((((w'.setCell ⟨g, 0, none⟩ (.int .u32 x0)).setCell ⟨g, 1, none⟩ (.int .u32 x1)).setCell ⟨g, 2, none⟩ (.int .u32 x2)).setCell ⟨g, 3, none⟩ (.int .u32 x3)) ∧
    Wds ((((w'.setCell ⟨g, 0, none⟩ (.int .u32 x0)).setCell ⟨g, 1, none⟩ (.int .u32 x1)).setCell ⟨g, 2, none⟩ (.int .u32 x2)).setCell ⟨g, 3, none⟩ (.int .u32 x3)) g 4 :=
  ⟨(((ho.setCell (p := ⟨g, 0, none⟩) hg _).setCell (p := ⟨g, 1, none⟩) hg _).setCell (p := ⟨g, 2, none⟩) hg _).setCell (p := ⟨g, 3, none⟩) hg _, (((hw.set_ 0 h0).set_ 1 h1).set_ 2 h2).set_ 3 h3⟩
theorem Wds.drew (h : Wds w g n) : Wds w.drew g n := h
theorem Bys.drew (h : Bys w g n) : Bys w.drew g n := h
end
end Go.Proofs.YteioblloppcjoaaDoor
