/-
  FnCombined, second form: bytes one behind the other: for every input whose reading is of bulk at most 1048576 the law returns true, and its argument reads as before. Proved of Rows.FnCombinedUptoSaid, with no condition of its own.
-/
import Derived.Test.YtmhjbkkbbhioeaaRows
import Derived.Test.YtmhjbkkbbhioeaaComb
import Derived.WalkKit
import Derived.ProofKit
import Derived.OpenShut
import Derived.JoinedCond
import Derived.Below
import Derived.Deep.Matrix
namespace Go.Proofs.Ytmhjbkkbbhioeaa.fnCombined
open Go.ChangeShapes Go.WideShapes Go.ChangeAt Go.RowKit Go.Deep

theorem own : ownKnob Try.prog.godebug = none := by kernel_rfl
theorem laidOut : laidOutB Try.prog = true := by kernel_rfl

theorem one_le {H : Type} (d : DataW H) : 1 ≤ Rows.uptoBulk d := by
  cases d with
  | lit l => cases l <;> simp [Rows.uptoBulk]
  | nil => simp [Rows.uptoBulk]
  | ptr d => simp [Rows.uptoBulk]
  | slice elems spare => simp [Rows.uptoBulk]
  | agg parts => simp [Rows.uptoBulk]
  | iface t d => simp [Rows.uptoBulk]
  | map entries => simp [Rows.uptoBulk]
  | held h => simp [Rows.uptoBulk]
theorem bulk_append {H : Type} (l r : List (DataW H)) : Rows.uptoBulkAll (l ++ r) = Rows.uptoBulkAll l + Rows.uptoBulkAll r := by
  induction l with
  | nil => simp [Rows.uptoBulkAll]
  | cons x l ih => simp only [List.cons_append, Rows.uptoBulkAll, ih]; omega
theorem length_le {H : Type} (l : List (DataW H)) : l.length ≤ Rows.uptoBulkAll l := by
  induction l with
  | nil => simp [Rows.uptoBulkAll]
  | cons x r ih => have := one_le x; simp only [Rows.uptoBulkAll, List.length_cons]; omega

theorem row_le {H : Type} (A : Option Addr) (L C : Nat) (Z : List Int) (h0 : A = none → C = 0) (hL : L ≤ C) : (Z.take L).length ≤ Rows.uptoBulk (intRow (H := H) .u8 A L Z) := by
  cases A with
  | none =>
    have := h0 rfl
    rw [List.length_take]; omega
  | some a =>
    simp only [intRow, Rows.uptoBulk]
    have h := length_le (lits (H := H) .u8 (Z.take L))
    have e : (lits (H := H) .u8 (Z.take L)).length = (Z.take L).length := by simp [lits]
    omega
theorem cat_le {H : Type} (A : Nat → Option Addr) (L C : Nat → Nat) (Z : Nat → List Int) (n : Nat) (h : ∀ r, r < n → (A r = none → C r = 0) ∧ L r ≤ C r) :
    (cat (fun r => (Z r).take (L r)) n).length ≤ Rows.uptoBulkAll ((List.range n).map fun r => intRow (H := H) .u8 (A r) (L r) (Z r)) := by
  induction n with
  | zero => simp [cat]
  | succ n ih =>
    have h1 := ih fun r hr => h r (by omega)
    have h2 := row_le (H := H) (A n) (L n) (C n) (Z n) (h n (by omega)).1 (h n (by omega)).2
    rw [List.range_succ, List.map_append, bulk_append]
    simp only [cat, List.length_append, List.map_cons, List.map_nil, Rows.uptoBulkAll]
    omega

theorem cell_lt {w : World} {a : Addr} {v : Value} (h : w.cell? a = some v) : a.block < w.heap.size := by
  rcases Nat.lt_or_ge a.block w.heap.size with h1 | h1
  · exact h1
  · unfold World.cell? at h; rw [Array.getElem?_eq_none h1] at h; cases h

theorem contract (H : Type) (enc : TypeId × Value → H) (W : World) (base : Nat) (args : Array Value) (ds gs : List (DataW H)) (before : List MemPlace)
    (hval : ∀ (j : Nat) t v, Try.f3.params[j]? = some t → args[j]? = some v → Value.okWide Try.prog W .any base t v)
    (hW : DataW.Whole enc Try.prog Try.f3.params.toList Rows.fnCombinedSpec.vars false W args.toList ds gs before) (hk : Rows.uptoSmall H (ds ++ gs) = true) :
    Calls Try.prog 3 args W fun e W' => ∃ v, e = .returned v ∧ Rows.fnCombinedSpec.post enc Try.prog Try.f3 false true false false W args v W' := by
  have hW' := hW
  obtain ⟨p, q, hA0, hV, rfl, hfz, hnd⟩ := hW
  have hA : DataW.TrodAll enc Try.prog W 0 (fun _ => true) true Try.f3.params.toList args.toList ds p := hA0
  rw [Try.params3] at hA hval
  obtain ⟨v0, vs0, d0, ds0, p0, q0, hargs, rfl, rfl, h0, r0⟩ := trodAll_cons hA
  obtain ⟨rfl, rfl, rfl⟩ := trodAll_nil r0
  obtain rfl : args = #[v0] := by cases args; simp_all
  obtain ⟨rfl, rfl⟩ := trodVars_none hV
  obtain ⟨ad, n, c, rfl⟩ := okWide_slice Try.underlying22 (hval 0 22 v0 rfl rfl)
  have k0 := h0
  have lt0 : ∀ x ∈ p0, x.block < W.heap.size := by obtain ⟨m, hm⟩ := k0; exact DataW.trod_lt m _ _ _ hm
  have hb : Rows.uptoBulkAll ([d0] ++ []) ≤ 1048576 := of_decide_eq_true hk
  obtain ⟨A, L, C, lr, hp⟩ : ∃ A L C lr, Parts W ad n A L C lr := by
    obtain ⟨fuel, hf⟩ := h0
    rcases open_int_rows Try.underlying22 Try.underlying24 Try.underlying5 (by kernel_rfl) (by kernel_rfl) hf with ⟨hcs, _⟩ | ⟨a, len, cap, A, L, C, Z, hcs, _, hl, hm, hx, hr⟩
    · simp [Value.cells] at hcs
      obtain ⟨rfl, rfl, rfl⟩ := hcs
      exact ⟨fun _ => none, fun _ => 0, fun _ => 0, fun _ => [], fun r h => absurd h (by omega), fun r h => absurd h (by omega), by simp [cat], by omega⟩
    · simp [Value.cells] at hcs
      obtain ⟨rfl, rfl, rfl⟩ := hcs
      simp only [Prod.mk.injEq] at hx
      rw [hx.1] at hb
      simp only [List.append_nil, Rows.uptoBulkAll, Rows.uptoBulk] at hb
      refine ⟨A, L, C, fun r => (Z r).take (L r), fun r h => ⟨a, rfl, ?_, (hr r (by omega)).1⟩, fun r h => ?_, ?_, ?_⟩
      · have := cell_lt (hr r (by omega)).1
        rwa [block_of_add] at this
      · obtain ⟨_, h1, h2, h3, h4, h5, h6⟩ := hr r (by omega)
        have hlt : ((Z r).take (L r)).length = L r := by rw [List.length_take]; omega
        refine ⟨by rw [List.length_map, hlt, Nat.mul_one], fun h0 => ?_⟩
        cases hA : A r with
        | none => have := h5 hA; omega
        | some a' =>
          refine ⟨a', rfl, ?_, fun j u hj => ?_⟩
          · have := cell_lt ((h6 a' hA).2 0 (by omega))
            rwa [block_of_add] at this
          · have hj' : j < L r := by
              rcases Nat.lt_or_ge j (L r) with h1 | h1
              · exact h1
              · rw [List.getElem?_eq_none (by rw [List.length_map, hlt]; exact h1)] at hj; cases hj
            rw [(h6 a' hA).2 j (by omega)]
            rw [List.getElem?_map, List.getElem?_take, if_pos hj', List.getElem?_eq_getElem (by omega)] at hj
            rw [List.getD_eq_getElem?_getD, List.getElem?_eq_getElem (by omega)]
            simpa using hj
      · have := cat_le (H := H) A L C Z n (fun r h => ⟨(hr r (by omega)).2.2.2.2.2.1, (hr r (by omega)).2.1⟩)
        omega
      · have := length_le ((List.range n).map fun r => intRow (H := H) .u8 (A r) (L r) (Z r))
        simp only [List.length_map, List.length_range] at this
        omega
  clear hA0
  refine (fncombined_any ad n c A L C lr W hp).mono fun e W' ⟨he, bel⟩ => ?_
  subst he
  exact ⟨_, rfl, _, _, _, [], _, [], hW', trodAll_mk1 (shut_bool Try.underlying4 _), (trodAll_cons_mk (Below.trod laidOut (by kernel_rfl) (of_decide_eq_true (by kernel_rfl)) k0 bel lt0) trodAll_mk0), rfl, bel.frame _, fun h => by cases h⟩

set_option maxRecDepth 100000 in
theorem lifted (os : Os) (started : os.Started) (H : Type) (enc : TypeId × Value → H) (F : Stop.Interp) :
    ReturnsInHanded {} Try.checked os 3 .any ((Rows.OpenSpec.upto Rows.fnCombinedSpec).pre6 enc Try.prog Try.f3 Rows.fnCombinedUptoRow.domain false) (((Rows.OpenSpec.upto Rows.fnCombinedSpec).at F).post enc Try.prog Try.f3 false true false false) := by
  refine returnsInHanded_of_cond (C := Try.checked) (s := Rows.OpenSpec.upto Rows.fnCombinedSpec) (k := Rows.uptoSmall) rfl own started (by kernel_rfl) Try.func3
    (OpenSpec.witness (enc := enc) (C := Try.checked) (s := Rows.OpenSpec.upto Rows.fnCombinedSpec) (k := Rows.uptoSmall) rfl false ⟨#[], #[.slice none 0 0], []⟩ 8 (by kernel_rfl) (by kernel_rfl) (by kernel_rfl)
      (x := ([.nil], [], [])) (by kernel_rfl) rfl (by kernel_rfl)) ?_
  intro W base args ds gs before hval hW _ hk _
  exact contract H enc W base args ds gs before hval hW hk

/-- ████ THE STATEMENT ████ -/
theorem proved : Rows.FnCombinedUptoSaid :=
  OpenClaim.holds_of_cond 3 Try.f3 rfl rfl rfl rfl rfl rfl rfl ⟨rfl, rfl, rfl, rfl, rfl⟩ rfl rfl rfl rfl rfl (by kernel_rfl) Try.func3 (by kernel_rfl)
    (of_decide_eq_true (by kernel_rfl)) (by unfold Func.isWrapper; first | (rw [if_pos (by decide +kernel)]; kernel_rfl) | (rw [if_neg (by decide +kernel)]; exact ⟨rfl, rfl⟩))
    (fun os started H enc _ F => lifted os started H enc F)
end Go.Proofs.Ytmhjbkkbbhioeaa.fnCombined
namespace Go.Proofs.Ytmhjbkkbbhioeaa
theorem fnCombined_holds : Rows.FnCombinedUptoSaid := fnCombined.proved
#print axioms fnCombined_holds
end Go.Proofs.Ytmhjbkkbbhioeaa
