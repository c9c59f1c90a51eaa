/- The library's steps. No condition. -/
import Derived.Test.YtmhjbkkbbhioeaaFits
import Derived.Test.YtmhjbkkbbhioeaaCalm
import Derived.WalkKit
import Derived.LoopTactic
namespace Go.Proofs.Ytmhjbkkbbhioeaa
open Go.RowKit

/-- What was handed out: at each step that says something, its bytes, in a block of its own, apart from the block q. -/
def Told (w : World) (base : Nat) (xs : List Value) (O : Nat → Int) (lr : Nat → List Int) (q : Option Nat) : Prop :=
  ∀ j x, xs[j]? = some x → (O j = 1 ∨ O j = 3) → OwnB w base x (says O lr j) ∧ x.ownBlock ≠ q

theorem Told.keep {w w' : World} {base : Nat} {xs : List Value} {O : Nat → Int} {lr : Nat → List Int} {q q' : Option Nat} (h : Told w base xs O lr q) {row : Option Nat} (hg : w.grownBy w' row) (hq : ∀ j x, xs[j]? = some x → (O j = 1 ∨ O j = 3) → (x.ownBlock = none ∨ x.ownBlock ≠ row) ∧ x.ownBlock ≠ q') : Told w' base xs O lr q' :=
  fun j x hx ho => ⟨World.ownsRow.kept (h j x hx ho).1 hg (hq j x hx ho).1, (hq j x hx ho).2⟩

theorem Told.nil (w : World) (base : Nat) (O : Nat → Int) (lr : Nat → List Int) (q : Option Nat) : Told w base [] O lr q := fun j x hx => by cases j <;> cases hx
/-- Nothing that was there is turned. -/
theorem Told.below {w w' : World} {base : Nat} {xs : List Value} {O : Nat → Int} {lr : Nat → List Int} {q : Option Nat} (h : Told w base xs O lr q) (hb : Below w.heap.size w w') : Told w' base xs O lr q :=
  fun j x hx ho => ⟨OwnB.below (h j x hx ho).1 hb (Nat.le_refl _), (h j x hx ho).2⟩
theorem Told.alloc {w : World} {base : Nat} {xs : List Value} {O : Nat → Int} {lr : Nat → List Int} {q : Option Nat} (h : Told w base xs O lr q) (o : Obj) : Told (w.alloc o) base xs O lr q :=
  fun j x hx ho => ⟨OwnB.alloc (h j x hx ho).1 o, (h j x hx ho).2⟩
/-- Another block is the one to be apart from: none, or a new one. -/
theorem Told.other {w : World} {base : Nat} {xs : List Value} {O : Nat → Int} {lr : Nat → List Int} {q q' : Option Nat} (h : Told w base xs O lr q) (hq : ∀ g, q' = some g → q' = q ∨ w.heap.size ≤ g) (hs : ∀ j, (O j = 1 ∨ O j = 3) → 0 < (says O lr j).length) : Told w base xs O lr q' :=
  fun j x hx ho => ⟨(h j x hx ho).1, fun e => by
    obtain ⟨hx1, hx2⟩ := h j x hx ho
    obtain ⟨g, c, rfl, hb, hlt, _⟩ := hx1.form (hs j ho)
    rcases hq g (by rw [← e]; rfl) with h1 | h1
    · exact hx2 (e.trans h1)
    · omega⟩
/-- The block that one is apart from grows. -/
theorem Told.grown {w w' : World} {base : Nat} {xs : List Value} {O : Nat → Int} {lr : Nat → List Int} {q : Option Nat} (h : Told w base xs O lr q) (hg : w.grownBy w' q) : Told w' base xs O lr q :=
  fun j x hx ho => ⟨World.ownsRow.kept (h j x hx ho).1 hg (.inr (h j x hx ho).2), (h j x hx ho).2⟩
/-- A row of slices grows: one more is told. -/
theorem Told.push {w w' : World} {base : Nat} {v x : Value} {xs : List Value} {O : Nat → Int} {lr : Nat → List Int} {q : Option Nat} (h : Told w base xs O lr q) (hL : OwnL w base v xs) (hg : w.grownBy w' v.ownBlock)
    (hx : (O xs.length = 1 ∨ O xs.length = 3) → OwnB w base x (says O lr xs.length) ∧ x.ownBlock ≠ q) : Told w' base (xs ++ [x]) O lr q := fun j y hy ho => by
  have key : OwnB w base y (says O lr j) ∧ y.ownBlock ≠ q := by
    rcases Nat.lt_or_ge j xs.length with h1 | h1
    · rw [List.getElem?_append_left h1] at hy
      exact h j y hy ho
    · rw [List.getElem?_append_right h1] at hy
      have hj : j = xs.length := by
        rcases Nat.lt_or_ge xs.length j with h2 | h2
        · rw [List.getElem?_eq_none (by simp; omega)] at hy; cases hy
        · omega
      subst hj
      simp at hy
      subst hy
      exact hx ho
  exact ⟨World.ownsRow.kept key.1 hg (own_apart key.1 hL (by decide)), key.2⟩

theorem says_pos {O : Nat → Int} {lr : Nat → List Int} (j : Nat) (h : O j = 1 ∨ O j = 3) : 0 < (says O lr j).length := by
  unfold says
  by_cases h1 : O j = 1
  · rw [if_pos h1]; exact Nat.zero_lt_succ _
  · rw [if_neg h1, if_pos (h.resolve_left h1)]; decide
end Go.Proofs.Ytmhjbkkbbhioeaa
