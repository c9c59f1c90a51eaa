/- What a call leaves as it was: all blocks but those named. No condition. -/
import Derived.Test.YtkfagcpboehjjaaDoorTabs
namespace Go.Proofs.YtkfagcpboehjjaaDoor
open Go.RowKit

/-- Of the blocks that were there only those named may have turned. -/
structure Only (S : List Nat) (w w' : World) : Prop where
  os : w'.os = w.os
  tape : w'.tape = w.tape
  output : w'.output = w.output
  size : w.heap.size ≤ w'.heap.size
  block : ∀ k, k < w.heap.size → k ∉ S → w'.heap[k]? = w.heap[k]?
section
variable {w w' w'' : World} {S S' : List Nat}
theorem Only.refl (S : List Nat) (w : World) : Only S w w := ⟨rfl, rfl, rfl, Nat.le_refl _, fun _ _ _ => rfl⟩
theorem Only.mono (h : Only S w w') (hs : ∀ k ∈ S, k < w.heap.size → k ∈ S') : Only S' w w' := ⟨h.os, h.tape, h.output, h.size, fun k hk hn => h.block k hk fun hm => hn (hs k hm hk)⟩
theorem Only.trans (h : Only S w w') (h' : Only S w' w'') : Only S w w'' :=
  ⟨h'.os.trans h.os, h'.tape.trans h.tape, h'.output.trans h.output, Nat.le_trans h.size h'.size, fun k hk hn => (h'.block k (Nat.lt_of_lt_of_le hk h.size) hn).trans (h.block k hk hn)⟩
theorem Only.then_ (h : Only S w w') (h' : Only S' w' w'') (hs : ∀ k ∈ S', k < w.heap.size → k ∈ S) : Only S w w'' :=
  ⟨h'.os.trans h.os, h'.tape.trans h.tape, h'.output.trans h.output, Nat.le_trans h.size h'.size, fun k hk hn => (h'.block k (Nat.lt_of_lt_of_le hk h.size) fun hm => hn (hs k hm hk)).trans (h.block k hk hn)⟩
theorem Only.drewN (h : Only S w w') (n : Nat) : Only S w (w'.drewN n) := ⟨h.os, h.tape, h.output, h.size, h.block⟩
theorem Only.drew (h : Only S w w') : Only S w w'.drew := ⟨h.os, h.tape, h.output, h.size, h.block⟩
theorem Only.setCell (h : Only S w w') {p : Addr} (hp : p.block < w.heap.size → p.block ∈ S) (u : Value) : Only S w (w'.setCell p u) := by
  refine ⟨h.os, h.tape, h.output, by simpa [World.setCell] using h.size, fun k hk hn => ?_⟩
  have hne : k ≠ p.block := fun e => hn (e ▸ hp (e ▸ hk))
  exact (Below.heap_setCell w' p u k hne).trans (h.block k hk hn)
theorem Only.alloc (h : Only S w w') (o : Obj) : Only S w (w'.alloc o) :=
  ⟨h.os, h.tape, h.output, Nat.le_trans h.size (by simp), fun k hk hn => (Below.heap_alloc w' o k (Nat.lt_of_lt_of_le hk h.size)).trans (h.block k hk hn)⟩
theorem Only.of_below {B : Nat} (h : Below B w w') (hB : w.heap.size ≤ B) : Only [] w w' := ⟨h.os, h.tape, h.output, h.size, fun k hk _ => h.block k (by omega)⟩
theorem Only.to_below {B : Nat} (h : Only S w w') (hB : B ≤ w.heap.size) (hS : ∀ k ∈ S, B ≤ k) : Below B w w' :=
  ⟨h.os, h.tape, h.output, h.size, fun k hk => h.block k (by omega) fun hm => by have := hS k hm; omega⟩
theorem Only.cell (h : Only S w w') {p : Addr} (hp : p.block < w.heap.size) (hn : p.block ∉ S) : w'.cell? p = w.cell? p := World.cell?_of_block (h.block p.block hp hn)
theorem Only.blk {g : Nat} {t : TypeId} {cs : Array Value} (h : Only S w w') (hb : Blk w g t cs) (hn : g ∉ S) : Blk w' g t cs := (h.block g hb.lt hn).trans hb
end

/-- n bytes lie at ad: byte j is f j. -/
def Src (w : World) (ad : Addr) (n : Nat) (f : Nat → Int) : Prop := ∀ j, j < n → w.cell? (ad.add j) = some (.int .u8 (f j))
/-- They are bytes; they are words. -/
def Bf (f : Nat → Int) : Prop := ∀ j, 0 ≤ f j ∧ f j ≤ 255
def Wf (f : Nat → Int) : Prop := ∀ j, U32 (f j)
theorem add_at (g o j : Nat) : (⟨g, o, none⟩ : Addr).add j = ⟨g, o + j, none⟩ := by
  unfold Addr.add; by_cases h0 : j = 0 <;> simp [h0]
section
variable {w w' : World} {S : List Nat} {g n : Nat} {t : TypeId} {ad : Addr} {f : Nat → Int}
theorem ArrU.only (h : ArrU w g t n f) (ho : Only S w w') (hn : g ∉ S) : ArrU w' g t n f := let ⟨cs, hb, h1⟩ := h; ⟨cs, ho.blk hb hn, h1⟩
theorem ArrB.only (h : ArrB w g n f) (ho : Only S w w') (hn : g ∉ S) : ArrB w' g n f := let ⟨cs, hb, h1⟩ := h; ⟨cs, ho.blk hb hn, h1⟩
theorem ArrB.alloc (h : ArrB w g n f) (o : Obj) : ArrB (w.alloc o) g n f := h.only ((Only.refl [] w).alloc o) (by simp)
theorem ArrU.drew (h : ArrU w g t n f) : ArrU w.drew g t n f := h
theorem ArrB.drew (h : ArrB w g n f) : ArrB w.drew g n f := h
theorem Src.only (h : Src w ad n f) (ho : Only S w w') (hl : ad.block < w.heap.size) (hn : ad.block ∉ S) : Src w' ad n f := fun j hj =>
  (ho.cell (by rw [block_of_add]; exact hl) (by rw [block_of_add]; exact hn)).trans (h j hj)
theorem Src.below {B : Nat} (h : Src w ad n f) (hb : Below B w w') (hl : ad.block < B) : Src w' ad n f := fun j hj => (hb.cell (by rw [block_of_add]; exact hl)).trans (h j hj)
theorem Src.congr {f' : Nat → Int} (h : Src w ad n f) (he : ∀ j, j < n → f j = f' j) : Src w ad n f' := fun j hj => by rw [h j hj, he j hj]
theorem ArrB.src (h : ArrB w g n f) {o m : Nat} (hm : o + m ≤ n) : Src w ⟨g, o, none⟩ m (fun j => f (o + j)) := fun j hj => by
  rw [add_at]; exact h.cell (by omega)
theorem ArrB.src0 (h : ArrB w g n f) {m : Nat} (hm : m ≤ n) : Src w ⟨g, 0, none⟩ m f := (h.src (o := 0) (by omega)).congr fun j _ => by rw [Nat.zero_add]
theorem Tabs.only (h : Tabs w) (ho : Only S w w') (hl : 7 ≤ w.heap.size) (hn : ∀ k ∈ S, 7 ≤ k) : Tabs w' := h.keep fun p hp => ho.cell (by omega) fun hm => by have := hn _ hm; omega
theorem Only.set1 (h : Only S w w') {g : Nat} (hg : g ∈ S) (i : Nat) (v : Value) : Only S w (w'.setCell ⟨g, i, none⟩ v) := h.setCell (p := ⟨g, i, none⟩) (fun _ => hg) v
theorem Only.to_below' (h : Only [] w w') : Below w.heap.size w w' := h.to_below (Nat.le_refl _) (by simp)
end

/-- Four words. -/
def q4 (a b c d : Int) (j : Nat) : Int := if j = 0 then a else if j = 1 then b else if j = 2 then c else d
section
variable {w w' : World} {S : List Nat} {g : Nat} {a b c d z : Int} {t : TypeId}
theorem q4_0 : q4 a b c d 0 = a := rfl
theorem q4_1 : q4 a b c d 1 = b := rfl
theorem q4_2 : q4 a b c d 2 = c := rfl
theorem q4_3 : q4 a b c d 3 = d := rfl
theorem four_cells (h : ArrU w g t 4 (q4 a b c d)) : w.cell? ⟨g, 0, none⟩ = some (.int .u32 a) ∧ w.cell? ⟨g, 1, none⟩ = some (.int .u32 b) ∧ w.cell? ⟨g, 2, none⟩ = some (.int .u32 c) ∧ w.cell? ⟨g, 3, none⟩ = some (.int .u32 d) :=
  ⟨h.cell (j := 0) (by omega), h.cell (j := 1) (by omega), h.cell (j := 2) (by omega), h.cell (j := 3) (by omega)⟩
theorem lt4 {j : Nat} (h : j < 4) : j = 0 ∨ j = 1 ∨ j = 2 ∨ j = 3 := by omega
theorem set_0 (h : ArrU w g t 4 (q4 a b c d)) : ArrU (w.setCell ⟨g, 0, none⟩ (.int .u32 z)) g t 4 (q4 z b c d) := h.set_ 0 z fun j hj => by rcases lt4 hj with rfl | rfl | rfl | rfl <;> rfl
theorem set_1 (h : ArrU w g t 4 (q4 a b c d)) : ArrU (w.setCell ⟨g, 1, none⟩ (.int .u32 z)) g t 4 (q4 a z c d) := h.set_ 1 z fun j hj => by rcases lt4 hj with rfl | rfl | rfl | rfl <;> rfl
theorem set_2 (h : ArrU w g t 4 (q4 a b c d)) : ArrU (w.setCell ⟨g, 2, none⟩ (.int .u32 z)) g t 4 (q4 a b z d) := h.set_ 2 z fun j hj => by rcases lt4 hj with rfl | rfl | rfl | rfl <;> rfl
theorem set_3 (h : ArrU w g t 4 (q4 a b c d)) : ArrU (w.setCell ⟨g, 3, none⟩ (.int .u32 z)) g t 4 (q4 a b c z) := h.set_ 3 z fun j hj => by rcases lt4 hj with rfl | rfl | rfl | rfl <;> rfl
theorem to_q4 {f : Nat → Int} (h : ArrU w g t 4 f) : ArrU w g t 4 (q4 (f 0) (f 1) (f 2) (f 3)) := h.congr fun j hj => by rcases lt4 hj with rfl | rfl | rfl | rfl <;> rfl
theorem four {x0 x1 x2 x3 : Int} (ho : Only S w w') (hg : g < w.heap.size → g ∈ S) (hw : ArrU w' g t 4 (q4 a b c d)) :
    Only S w ((((w'.setCell ⟨g, 0, none⟩ (.int .u32 x0)).setCell ⟨g, 1, none⟩ (.int .u32 x1)).setCell ⟨g, 2, none⟩ (.int .u32 x2)).setCell ⟨g, 3, none⟩ (.int .u32 x3)) ∧
    ArrU ((((w'.setCell ⟨g, 0, none⟩ (.int .u32 x0)).setCell ⟨g, 1, none⟩ (.int .u32 x1)).setCell ⟨g, 2, none⟩ (.int .u32 x2)).setCell ⟨g, 3, none⟩ (.int .u32 x3)) g t 4 (q4 x0 x1 x2 x3) :=
  ⟨(((ho.setCell (p := ⟨g, 0, none⟩) hg _).setCell (p := ⟨g, 1, none⟩) hg _).setCell (p := ⟨g, 2, none⟩) hg _).setCell (p := ⟨g, 3, none⟩) hg _, set_3 (set_2 (set_1 (set_0 hw)))⟩
end

/-- Words out of bytes, bytes out of words. -/
def wdF (f : Nat → Int) (j : Nat) : Int := wd (f (4 * j)) (f (4 * j + 1)) (f (4 * j + 2)) (f (4 * j + 3))
def byF (x : Nat → Int) (m : Nat) : Int :=
  if m % 4 = 0 then x (m / 4) / 16777216 else if m % 4 = 1 then x (m / 4) / 65536 % 256 else if m % 4 = 2 then x (m / 4) / 256 % 256 else x (m / 4) % 256
theorem wdF_u32 (f : Nat → Int) : Wf (wdF f) := fun _ => by unfold wdF wd; exact u32_bits _ _ _
theorem byF_bf {x : Nat → Int} (h : Wf x) : Bf (byF x) := fun m => by
  have := h (m / 4)
  unfold U32 at this
  unfold byF
  split
  · omega
  · split
    · omega
    · split <;> omega
end Go.Proofs.YtkfagcpboehjjaaDoor
