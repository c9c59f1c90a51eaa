/- The library leads a hash through steps: what it hands out. No condition. -/
import Derived.Test.YtmhjbkkbbhioeaaInner
import Derived.WalkKit
namespace Go.Proofs.Ytmhjbkkbbhioeaa
open Go.RowKit

def HashedPost (w : World) (n : Nat) (O : Nat → Int) (lr : Nat → List Int) (e : Ending) (w' : World) : Prop :=
  ∃ v xs, e = .returned (.tuple #[v, .bool true]) ∧ OwnL w' w.heap.size v xs ∧ xs.length = n ∧ Told w' w.heap.size xs O lr none ∧ Below w.heap.size w w'

theorem OwnL.lift {w : World} {base base' : Nat} {v : Value} {xs : List Value} (h : OwnL w base v xs) (hb : base' ≤ base) : OwnL w base' v xs :=
  ⟨h.1, h.2.imp id fun ⟨g, c, cur, h1, h2, h3⟩ => ⟨g, c, cur, h1, Nat.le_trans hb h2, h3⟩⟩
theorem OwnL.setLow {w : World} {base : Nat} {v : Value} {xs : List Value} (h : OwnL w base v xs) {p : Addr} (hp : p.block < base) (u : Value) : OwnL (w.setCell p u) base v xs :=
  ownsRow_of h fun g _ _ hg => Below.heap_setCell w p u g (by omega)
theorem Told.setLow {w : World} {base : Nat} {xs : List Value} {O : Nat → Int} {lr : Nat → List Int} {q : Option Nat} (h : Told w base xs O lr q) {p : Addr} (hp : p.block < base) (u : Value) : Told (w.setCell p u) base xs O lr q :=
  fun j x hx ho => ⟨ownsRow_of (h j x hx ho).1 fun g _ _ hg => Below.heap_setCell w p u g (by omega), (h j x hx ho).2⟩
theorem Told.lift {w : World} {base base' : Nat} {xs : List Value} {O : Nat → Int} {lr : Nat → List Int} {q : Option Nat} (h : Told w base xs O lr q) (hb : base' ≤ base) : Told w base' xs O lr q :=
  fun j x hx ho => ⟨OwnB.lift (h j x hx ho).1 hb, (h j x hx ho).2⟩

def Led (w : World) (b1 base n : Nat) (O : Nat → Int) (lr : Nat → List Int) (w' : World) : Prop :=
  ∃ v xs, Blk w' b1 22 #[v] ∧ OwnL w' base v xs ∧ xs.length = n ∧ Told w' base xs O lr none ∧ Below w.heap.size w w'

set_option maxHeartbeats 1000000 in
theorem hashed_any (ad : Option Addr) (n c : Nat) (O : Nat → Int) (A : Nat → Option Addr) (L C : Nat → Nat) (lr : Nat → List Int) (w : World) (hp : Steps w ad n O A L C lr) (hfine : Hid (∀ j, j < n → Fine O L j)) (hn : n ≤ 50) :
    Calls Try.prog 15 #[.slice ad n c] w (HashedPost w n O lr) := by
  have hmf : ∀ (fn : Fn) (first cap : Array Value) (w : World), (Instr.makeFunc fn first cap).run Try.prog w = .ok (.func fn first cap) w := fun _ _ _ _ => rfl
  have hb0 : Below w.heap.size w ((w.alloc (.cells #[.slice ad n c] 32)).alloc (.cells #[.slice none 0 0] 22)) := ((Below.refl _ _).alloc (Nat.le_refl _) _).alloc (by simp) _
  have B0 : Blk ((w.alloc (.cells #[.slice ad n c] 32)).alloc (.cells #[.slice none 0 0] 22)) w.heap.size 32 #[.slice ad n c] := (Blk.new w 32 _).alloc _
  have B1 : Blk ((w.alloc (.cells #[.slice ad n c] 32)).alloc (.cells #[.slice none 0 0] 22)) (w.heap.size + 1) 22 #[.slice none 0 0] := by
    have := Blk.new (w.alloc (.cells #[.slice ad n c] 32)) 22 #[.slice none 0 0]
    simpa using this
  have hs0 : ((w.alloc (.cells #[.slice ad n c] 32)).alloc (.cells #[.slice none 0 0] 22)).heap.size = w.heap.size + 1 + 1 := by simp
  go_enter Try.func15, Try.ntmps15
  go_wp2_with fail
  generalize (w.alloc (.cells #[.slice ad n c] 32)).alloc (.cells #[.slice none 0 0] 22) = W at *
  refine (calm_any 26 _ (Led w (w.heap.size + 1) (W.heap.size + 1) n O lr) W (fun _ => by kernel_rfl) ?_).mono ?_
  · have hwb := hb0.alloc hb0.size (.cells #[.bool false] 4)
    refine (inner26_any w ad n c O A L C lr hp (W.alloc (.cells #[.bool false] 4)) hwb _ _ (B0.alloc _) (B1.alloc _) (by simp) hfine hn).mono ?_
    rintro e w' ⟨rfl, v, xs, h1, h2, h3, h4, h5⟩
    rw [World.size_alloc] at h2 h4
    refine ⟨rfl, (h5.block W.heap.size (by simp) (by simp; omega)).trans (Blk.new W 4 _), v, xs, h1, h2, h3, h4, hwb.trans (below_gb h5 (by simp) (by simp; omega))⟩
  rintro e w'' ⟨rfl, w', ⟨v, xs, h1, h2, h3, h4, h5⟩, rfl⟩
  have C1 := h1.far (p := ⟨W.heap.size, 0, none⟩) (by simp; omega) (.bool true)
  have C2 := h2.setLow (p := ⟨W.heap.size, 0, none⟩) (by simp) (.bool true)
  have C4 := h4.setLow (p := ⟨W.heap.size, 0, none⟩) (by simp) (.bool true)
  have C5 : Below w.heap.size w (w'.setCell ⟨W.heap.size, 0, none⟩ (.bool true)) := h5.setCell (by simp; omega) _
  have hge : w.heap.size + 1 + 1 ≤ W.heap.size + 1 := by omega
  generalize w'.setCell ⟨W.heap.size, 0, none⟩ (.bool true) = V at *
  clear hb0 B0 B1 h1 h2 h4 h5
  obtain ⟨A1, c1, e1⟩ := C2.shaped
  subst e1
  have H3 := Lib.hid h3
  clear h3 hs0
  have c4 := C1.cell 0
  have f4 := C1.frozen 0
  simp only [List.getElem?_toArray, List.getElem?_cons_zero] at c4
  have hlate := (C1.set_ 0 (.slice A1 xs.length c1)).cell 0
  simp only [List.setIfInBounds_toArray, List.set_cons_zero, List.getElem?_toArray, List.getElem?_cons_zero] at hlate
  have D2 := (C2.setLow (p := ⟨w.heap.size + 1, 0, none⟩) (by simp; omega) (.slice A1 xs.length c1)).lift (base' := w.heap.size) (by omega)
  have D4 := (C4.setLow (p := ⟨w.heap.size + 1, 0, none⟩) (by simp; omega) (.slice A1 xs.length c1)).lift (base' := w.heap.size) (by omega)
  have D5 : Below w.heap.size w (V.setCell ⟨w.heap.size + 1, 0, none⟩ (.slice A1 xs.length c1)) := C5.setCell (by simp) _
  go_wp2_with fail
  refine bodyPost_ret (v := .tuple #[.slice A1 xs.length c1, .bool true]) ?_ rfl ⟨_, xs, rfl, D2, H3.out, D4, D5⟩
  simp [results, Try.results15, go_sem, hlate]
end Go.Proofs.Ytmhjbkkbbhioeaa
