/- The package's call: in four modes, one way. No condition but where things lie. -/
import Derived.Test.YteioblloppcjoaaDoorClos
import Derived.Test.YteioblloppcjoaaDoorCalm
namespace Go.Proofs.YteioblloppcjoaaDoor
set_option maxRecDepth 100000
open Go.RowKit

/-- A slice and a truth come back. -/
def GotF (b : Bool) (w : World) (e : Ending) (w' : World) : Prop := ∃ A n c, e = .returned (.tuple #[.slice A n c, .bool b]) ∧ Below w.heap.size w w'
/-- The captured cells, laid. -/
abbrev laid7 (w : World) (m : Int) (K V D : Value) : World :=
  ((((((w.alloc (.cells #[.int .i64 m] 3)).alloc (.cells #[K] 22)).alloc (.cells #[V] 22)).alloc (.cells #[D] 22)).alloc (.cells #[.bool false] 4)).alloc (.cells #[.slice none 0 0] 22)).alloc (.cells #[.nilIface] 27)
theorem Blk.at_ {w : World} (N : Nat) (t : TypeId) (cs : Array Value) (h : N = w.heap.size) : Blk (w.alloc (.cells cs t)) N t cs := by subst h; exact Blk.new w t cs
theorem capt_laid (w : World) (m : Int) (K V D : Value) : Capt (laid7 w m K V D) w.heap.size m K V D :=
  ⟨((((((Blk.at_ _ _ _ rfl).alloc _).alloc _).alloc _).alloc _).alloc _).alloc _, (((((Blk.at_ _ _ _ (by simp)).alloc _).alloc _).alloc _).alloc _).alloc _, ((((Blk.at_ _ _ _ (by simp)).alloc _).alloc _).alloc _).alloc _,
   (((Blk.at_ _ _ _ (by simp)).alloc _).alloc _).alloc _, ((Blk.at_ _ _ _ (by simp)).alloc _).alloc _, (Blk.at_ _ _ _ (by simp)).alloc _, Blk.at_ _ _ _ (by simp)⟩
theorem only_laid (w : World) (m : Int) (K V D : Value) : Only [] w (laid7 w m K V D) := (((((((Only.refl _ _).alloc _).alloc _).alloc _).alloc _).alloc _).alloc _).alloc _

/-- What the closure is asked for. -/
def Asked (w : World) (m : Int) (K V D : Value) (E : Value → Prop) : Prop :=
  ∀ Wa, Capt Wa w.heap.size m K V D → Only [] w Wa → Calls Tryd.prog 6 #[.pointer (some ⟨w.heap.size, 0, none⟩), .pointer (some ⟨w.heap.size + 1, 0, none⟩), .pointer (some ⟨w.heap.size + 6, 0, none⟩), .pointer (some ⟨w.heap.size + 5, 0, none⟩), .pointer (some ⟨w.heap.size + 4, 0, none⟩), .pointer (some ⟨w.heap.size + 3, 0, none⟩), .pointer (some ⟨w.heap.size + 2, 0, none⟩)] Wa (ClosDone w.heap.size E Wa)

theorem calm_clos (w : World) (m : Int) (K V D : Value) (E : Value → Prop) (ha : Asked w m K V D E) :
    Calls Tryd.prog 5 #[.func (.func 6) #[] #[.pointer (some ⟨w.heap.size, 0, none⟩), .pointer (some ⟨w.heap.size + 1, 0, none⟩), .pointer (some ⟨w.heap.size + 6, 0, none⟩), .pointer (some ⟨w.heap.size + 5, 0, none⟩), .pointer (some ⟨w.heap.size + 4, 0, none⟩), .pointer (some ⟨w.heap.size + 3, 0, none⟩), .pointer (some ⟨w.heap.size + 2, 0, none⟩)]] (laid7 w m K V D)
      fun e w' => e = .returned (.bool true) ∧ Below w.heap.size w w' ∧ (∃ A n c, Blk w' (w.heap.size + 5) 22 #[.slice A n c]) ∧ ∃ v, E v ∧ Blk w' (w.heap.size + 6) 27 #[v] := by
  have ho := only_laid w m K V D
  have hsz : (laid7 w m K V D).heap.size = w.heap.size + 7 := by simp
  have ho2 : Only [] (laid7 w m K V D) ((laid7 w m K V D).alloc (.cells #[.bool false] 4)) := (Only.refl _ _).alloc _
  have hk : Blk ((laid7 w m K V D).alloc (.cells #[.bool false] 4)) (laid7 w m K V D).heap.size 4 #[.bool false] := Blk.new _ _ _
  refine (calm_any 6 _ (fun w' => Only [w.heap.size + 5, w.heap.size + 6] ((laid7 w m K V D).alloc (.cells #[.bool false] 4)) w' ∧ (∃ A n c, Blk w' (w.heap.size + 5) 22 #[.slice A n c]) ∧ ∃ v, E v ∧ Blk w' (w.heap.size + 6) 27 #[v]) (laid7 w m K V D) (fun _ => by kernel_rfl) ?_).mono ?_
  · refine (ha _ ((capt_laid w m K V D).only ho2) (ho.trans ho2)).mono ?_
    rintro e w' ⟨rfl, h1, h2, h3⟩
    exact ⟨rfl, h1.blk hk (by rw [hsz]; simp), h1, h2, h3⟩
  · rintro e w'' ⟨rfl, w', ⟨h1, ⟨A, n, c, h2⟩, v, hv, h3⟩, rfl⟩
    refine ⟨rfl, ?_, ⟨A, n, c, h2.far (p := ⟨_, 0, none⟩) (by show w.heap.size + 5 ≠ (laid7 w m K V D).heap.size; omega) _⟩, v, hv, h3.far (p := ⟨_, 0, none⟩) (by show w.heap.size + 6 ≠ (laid7 w m K V D).heap.size; omega) _⟩
    refine Below.setCell (((ho.trans ho2).to_below (Nat.le_refl _) (by simp)).trans (h1.to_below (by simp; omega) (by intro k hk; simp at hk; omega))) (p := ⟨_, 0, none⟩) (by show w.heap.size ≤ (laid7 w m K V D).heap.size; omega) _
end Go.Proofs.YteioblloppcjoaaDoor
