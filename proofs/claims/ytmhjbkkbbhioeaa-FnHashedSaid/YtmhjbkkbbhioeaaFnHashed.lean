/-
  FnHashed: a hash that is written in parts is that of all parts behind the last reset: for every input the law returns true, and its argument reads as before. Proved of Rows.FnHashedSaid, with no condition of its own.
-/
import Derived.Test.YtmhjbkkbbhioeaaRows
import Derived.Test.YtmhjbkkbbhioeaaHashed
import Derived.WalkKit
import Derived.ProofKit
import Derived.OpenShut
import Derived.ShutString
import Derived.ChangeOld
import Derived.Below
import Derived.Deep.SlicePairs
namespace Go.Proofs.Ytmhjbkkbbhioeaa.fnHashed
open Go.ChangeShapes Go.WideShapes Go.ChangeAt Go.RowKit Go.Deep
set_option linter.unusedVariables false

theorem own : ownKnob Try.prog.godebug = none := by kernel_rfl
theorem laidOut : laidOutB Try.prog = true := by kernel_rfl

theorem cell_lt {w : World} {a : Addr} {v : Value} (h : w.cell? a = some v) : a.block < w.heap.size := by
  rcases Nat.lt_or_ge a.block w.heap.size with h1 | h1
  · exact h1
  · unfold World.cell? at h; rw [Array.getElem?_eq_none h1] at h; cases h

/-- What a step's bytes are read as. -/
structure Part (w : World) (v : Value) (q : Option Addr × Nat × Nat × List Int) : Prop where
  val : v = .slice q.1 q.2.1 q.2.2.1
  reads : Reads w w.heap.size 1 q.1 q.2.1 (q.2.2.2.map (Value.int .u8))
  byte : ∀ x ∈ q.2.2.2, 0 ≤ x ∧ x ≤ 255
  len : q.2.1 ≤ maxLen

theorem open_part {H : Type} {enc : TypeId × Value → H} {W : World} {base n : Nat} {held : Bool} {v : Value} {x : DataW H × List MemPlace} (h : DataW.trod enc Try.prog W base (fun _ => true) held n 24 [v] = some x) : ∃ q, Part W v q := by
  rcases open_ints Try.underlying24 Try.underlying5 (by kernel_rfl) h with ⟨hcs, _⟩ | ⟨a, l, c, zs, hcs, _, hl, hm, hz, _, hcell, hwz⟩
  · exact ⟨(none, 0, 0, []), by simpa using hcs, Reads.none_, (fun x hx => by cases hx), Nat.zero_le _⟩
  · have hz' : zs.length = c := by simpa using hz
    have htl : (zs.take l).length = l := by rw [List.length_take]; omega
    refine ⟨(some a, l, c, zs.take l), by simpa using hcs, ⟨by rw [List.length_map, htl, Nat.mul_one], fun h0 => ⟨a, rfl, ?_, fun j u hj => ?_⟩⟩, fun y hy => bounds_u8 (hwz y (List.mem_of_mem_take hy)), by show l ≤ maxLen; omega⟩
    · have h := hcell 0 (by have : 0 < l := h0; omega)
      rw [show a.add 0 = a from rfl] at h
      exact cell_lt h
    · have hj' : j < l := by
        rcases Nat.lt_or_ge j l with h1 | h1
        · exact h1
        · rw [List.getElem?_eq_none (by rw [List.length_map, htl]; exact h1)] at hj; cases hj
      rw [hcell j (by omega)]
      rw [List.getElem?_map, List.getElem?_take, if_pos hj', List.getElem?_eq_getElem (by omega)] at hj
      rw [List.getD_eq_getElem?_getD, List.getElem?_eq_getElem (by omega)]
      simpa using hj

theorem steps_nil (w : World) : Steps w none 0 (fun _ => 0) (fun _ => none) (fun _ => 0) (fun _ => 0) (fun _ => []) :=
  ⟨fun r h => absurd h (by omega), fun r h => absurd h (by omega), fun r h => absurd h (by omega), fun r h => absurd h (by omega), by omega⟩

theorem contract {H : Type} {enc : TypeId × Value → H} {W : World} {fuel : Nat} {ad : Option Addr} {n c : Nat} {x : DataW H × List MemPlace} {held : Bool} (h : DataW.trod enc Try.prog W 0 (fun _ => true) held fuel 32 [.slice ad n c] = some x) :
    Calls Try.prog 6 #[.slice ad n c] W fun e w' => e = .returned (.bool true) ∧ Below W.heap.size W w' := by
  rcases open_slice_pairs Try.underlying32 Try.underlying35 (by kernel_rfl) rfl rfl (by kernel_rfl) (by kernel_rfl) h with ⟨hcs, _⟩ | ⟨a, len, cap, m, k, V0, V1, D0, D1, P0, P1, hcs, _, hl, hm, hmm, _, hx⟩
  · simp at hcs
    obtain ⟨rfl, rfl, rfl⟩ := hcs
    exact fnhashed_any _ _ _ _ _ _ _ _ W (steps_nil W)
  · simp at hcs
    obtain ⟨rfl, rfl, rfl⟩ := hcs
    have hmc : m = c := by simpa using hmm
    subst hmc
    have each : ∀ i, i < m → ∃ y : Int × Option Addr × Nat × Nat × List Int, V0 i = .int .i64 y.1 ∧ Part W (V1 i) y.2 := fun i hi => by
      obtain ⟨_, _, h3, h4⟩ := hx i hi
      obtain ⟨z, hz, _, _⟩ := DataW.trod_int Try.underlying3 h3
      obtain ⟨q, hq⟩ := open_part h4
      exact ⟨(z, q), by simpa using hz, hq⟩
    obtain ⟨f, hf⟩ := choose_lt each
    refine fnhashed_any (some a) n m (fun r => (f r).1) (fun r => (f r).2.1) (fun r => (f r).2.2.1) (fun r => (f r).2.2.2.1) (fun r => (f r).2.2.2.2) W ⟨fun r hr => ⟨a, rfl, ?_, ?_, ?_⟩, fun r hr => (hf r (by omega)).2.reads, fun r hr => (hf r (by omega)).2.byte, fun r hr => (hf r (by omega)).2.len, by omega⟩
    · have h := cell_lt (hx r (by omega)).1
      rwa [block_of_add] at h
    · rw [← (hf r (by omega)).1]; exact (hx r (by omega)).1
    · rw [← (hf r (by omega)).2.val]; exact (hx r (by omega)).2.1

set_option maxRecDepth 100000 in
theorem lifted (os : Os) (started : os.Started) (H : Type) (enc : TypeId × Value → H) :
    ReturnsInHanded {} Try.checked os 6 .any (Rows.fnHashedSpec.pre6 enc Try.prog Try.f6 Rows.fnHashedRow.domain false) (Rows.fnHashedSpec.post enc Try.prog Try.f6 false true false false) := by
  refine returnsInHanded_of_change (C := Try.checked) own started (by kernel_rfl) Try.func6
    (ChangeSpec.witness6 (enc := enc) (C := Try.checked) false ⟨#[], #[.slice none 0 0], []⟩ 8 (by kernel_rfl) (by kernel_rfl) (by kernel_rfl) (by kernel_rfl)) ?_
  intro W base args ds gs before hval0 hW hcnd _
  have hval : ∀ (j : Nat) t v, Try.f6.params[j]? = some t → args[j]? = some v → Value.okWide Try.prog W .any base t v := hval0
  have hW' := hW
  obtain ⟨p, q, hA0, hV, rfl, hfz, hnd⟩ := hW
  have hA : DataW.TrodAll enc Try.prog W 0 (fun _ => true) true Try.f6.params.toList args.toList ds p := hA0
  rw [Try.params6] at hA hval
  obtain ⟨v0, vs0, d0, ds0, p0, q0, hargs, rfl, rfl, h0, r0⟩ := trodAll_cons hA
  obtain ⟨rfl, rfl, rfl⟩ := trodAll_nil r0
  obtain rfl : args = #[v0] := by cases args; simp_all
  obtain ⟨rfl, rfl⟩ := trodVars_none hV
  obtain ⟨a0, len0, cap0, rfl⟩ := okWide_slice Try.underlying32 (hval 0 32 v0 rfl rfl)
  have k0 := h0
  have lt0 : ∀ x ∈ p0, x.block < W.heap.size := by obtain ⟨m, hm⟩ := k0; exact DataW.trod_lt m _ _ _ hm
  clear hA0 hval0
  have hcall : Calls Try.prog 6 #[.slice a0 len0 cap0] W fun e w' => e = .returned (.bool true) ∧ Below W.heap.size W w' := by
    obtain ⟨fuel, hf⟩ := h0
    exact contract hf
  refine hcall.mono fun e W' ⟨he, bel⟩ => ?_
  subst he
  exact ⟨_, rfl, _, _, _, [], _, [], hW', trodAll_mk1 (shut_bool Try.underlying4 _), (trodAll_cons_mk (Below.trod laidOut (by kernel_rfl) (of_decide_eq_true (by kernel_rfl)) k0 bel lt0) trodAll_mk0), rfl, bel.frame _, fun h => by cases h⟩

theorem over : Rows.fnHashedRow.holds Try.pinned (OpenSpec.ofChange Rows.fnHashedSpec) :=
  OpenClaim.holds_of_wide 6 Try.f6 rfl rfl rfl rfl rfl rfl rfl ⟨rfl, rfl, rfl, rfl, rfl⟩ rfl rfl rfl rfl rfl (by kernel_rfl) Try.func6 (by kernel_rfl)
    (of_decide_eq_true (by kernel_rfl)) (by unfold Func.isWrapper; first | (rw [if_pos (by decide +kernel)]; kernel_rfl) | (rw [if_neg (by decide +kernel)]; exact ⟨rfl, rfl⟩))
    (fun os started H enc _ => lifted os started H enc)

/-- The statement. -/
theorem proved : Rows.FnHashedSaid := over
end Go.Proofs.Ytmhjbkkbbhioeaa.fnHashed
namespace Go.Proofs.Ytmhjbkkbbhioeaa
theorem fnHashed_holds : Rows.FnHashedSaid := fnHashed.proved
#print axioms fnHashed_holds
end Go.Proofs.Ytmhjbkkbbhioeaa
