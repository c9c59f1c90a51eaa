/- Bytes that lie at a block of their own. No condition. -/
import Derived.Test.YtkfagcpboehjjaaDoorByte
import Derived.Test.YtkfagcpboehjjaaDoorTail
import Derived.BigQuiet
import Derived.LoopTactic
import Derived.Lib.Hide
import Derived.WalkSmall
namespace Go.Proofs.YtkfagcpboehjjaaDoor
open Go.RowKit

theorem OwnB.lift {w : World} {base base' : Nat} {v : Value} {l : List Int} (h : OwnB w base v l) (hb : base' ≤ base) : OwnB w base' v l :=
  ⟨h.1, h.2.imp id fun ⟨g, c, cur, h1, h2, h3⟩ => ⟨g, c, cur, h1, Nat.le_trans hb h2, h3⟩⟩
/-- A slice of the call's own, as it is written. -/
theorem OwnB.shaped {w : World} {base : Nat} {v : Value} {l : List Int} (h : OwnB w base v l) : ∃ A c, v = .slice A l.length c := by
  rcases h.2 with ⟨e, h0⟩ | ⟨g, cap, cur, e, _⟩
  · refine ⟨none, 0, ?_⟩
    rw [h0]; exact e
  · exact ⟨_, _, e⟩

/-- Block g begins with n bytes, byte j being f j. -/
def ArrB (w : World) (g n : Nat) (f : Nat → Int) : Prop :=
  ∃ cs, Blk w g 5 cs ∧ n ≤ cs.size ∧ ∀ j, j < n → cs[j]? = some (.int .u8 (f j))

section
variable {w w' : World} {g n : Nat} {f f' : Nat → Int}
theorem ArrB.lt (h : ArrB w g n f) : g < w.heap.size := let ⟨_, h, _, _⟩ := h; h.lt
theorem ArrB.cell (h : ArrB w g n f) {j : Nat} (hj : j < n) : w.cell? ⟨g, j, none⟩ = some (.int .u8 (f j)) := by
  obtain ⟨cs, hb, _, hc⟩ := h
  rw [hb.cell, hc j hj]
theorem ArrB.frozen (h : ArrB w g n f) (j : Nat) : w.frozen? ⟨g, j, none⟩ = false := let ⟨_, hb, _, _⟩ := h; hb.frozen j
theorem ArrB.drewN (h : ArrB w g n f) (k : Nat) : ArrB (w.drewN k) g n f := h
theorem ArrB.below {B : Nat} (h : ArrB w g n f) (hb : Below B w w') (hg : g < B) : ArrB w' g n f := let ⟨cs, h1, h⟩ := h; ⟨cs, h1.below hb hg, h⟩
theorem ArrB.congr (h : ArrB w g n f) (he : ∀ j, j < n → f j = f' j) : ArrB w g n f' := let ⟨cs, h1, h2, h3⟩ := h; ⟨cs, h1, h2, fun j hj => by rw [h3 j hj, he j hj]⟩
theorem ArrB.set_ (h : ArrB w g n f) (i : Nat) (x : Int) (he : ∀ j, j < n → f' j = if j = i then x else f j) : ArrB (w.setCell ⟨g, i, none⟩ (.int .u8 x)) g n f' := by
  obtain ⟨cs, h1, h2, h3⟩ := h
  refine ⟨_, h1.set_ i _, by simpa using h2, fun j hj => ?_⟩
  rw [he j hj, Array.getElem?_setIfInBounds]
  by_cases hij : i = j
  · subst hij
    have : i < cs.size := by omega
    simp [this]
  · rw [if_neg hij, h3 j hj, if_neg (fun e => hij e.symm)]
theorem ArrB.reads (h : ArrB w g n f) : Reads w w.heap.size 1 (some ⟨g, 0, none⟩) n (((List.range n).map f).map (Value.int .u8)) :=
  ⟨by simp, fun _ => ⟨_, rfl, h.lt, fun j u hu => by
    have e : (⟨g, 0, none⟩ : Addr).add j = ⟨g, j, none⟩ := by
      unfold Addr.add; by_cases h0 : j = 0 <;> simp [h0]
    have hj : j < n := by
      rcases Nat.lt_or_ge j n with h1 | h1
      · exact h1
      · rw [List.getElem?_eq_none (by simpa using h1)] at hu; cases hu
    rw [e, h.cell hj]
    simp [hj] at hu
    rw [← hu]⟩⟩
theorem ArrB.of_own {base c : Nat} {l : List Int} (h : OwnB w base (.slice (some ⟨g, 0, none⟩) l.length c) l) : base ≤ g ∧ l.length ≤ c ∧ c ≤ maxLen ∧ ArrB w g l.length (fun j => l.getD j 0) := by
  rcases h.2 with ⟨e, h0⟩ | ⟨g', cap, cur, e, hb, hh, h3, h4, h5, h6⟩
  · cases e
  · have e1 : g = g' := by injection e with e1 _ _; injection e1 with e1; injection e1
    have e2 : c = cap := by injection e
    subst e1; subst e2
    refine ⟨hb, h3, h4, cur, hh, by omega, fun j hj => ?_⟩
    have h7 : (List.take (l.length * 1) cur.toList)[j]? = (List.map (Value.int .u8) l)[j]? := by rw [h6]
    rw [List.getElem?_take, if_pos (by omega), List.getElem?_map, List.getElem?_eq_getElem hj, Array.getElem?_toList] at h7
    rw [h7]
    simp [List.getElem?_eq_getElem hj]
end

end Go.Proofs.YtkfagcpboehjjaaDoor
