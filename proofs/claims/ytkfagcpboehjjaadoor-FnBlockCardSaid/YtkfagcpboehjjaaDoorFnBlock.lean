/-
  FnBlock: a block is encrypted and decrypted as the reference says, back and forth it is as it was, keys of other lengths are refused: for every input the law returns true, and its arguments read as before. Proved of Rows.FnBlockCardSaid, with no condition of its own.
-/
import Derived.Test.YtkfagcpboehjjaaDoorRowc
import Derived.Test.YtkfagcpboehjjaaDoorBlaw
import Derived.Test.YtkfagcpboehjjaaDoorCards
import Derived.SevenTiedAt
namespace Go.Proofs.YtkfagcpboehjjaaDoor.row.fnBlock
open Go.ChangeShapes Go.WideShapes Go.ChangeAt Go.RowKit
set_option linter.unusedVariables false

set_option maxRecDepth 100000 in
theorem lifted (os : Os) (started : os.Started) (H : Type) (enc : TypeId × Value → H) :
    ReturnsInHanded {} Tryd.checked os 3 .any (fun w args => (Rows.fnBlockSpec.pre enc Tryd.prog Tryd.f3 [] false w args ∧ laidMetH Tryd.prog L w) ∧ sizedMet enc Tryd.prog Tryd.f3 (OpenSpec.ofChange Rows.fnBlockSpec) false w args)
      (Rows.fnBlockSpec.post enc Tryd.prog Tryd.f3 false true false false) := by
  refine wrap (C := Tryd.checked) (X := fun w _ => laidMetH Tryd.prog L w) (fun _ _ _ hh h => h.of_heap hh) own started (by kernel_rfl) Tryd.func3
    (ChangeSpec.witness_shaped (enc := enc) (C := Tryd.checked) (os := os) (X := fun w _ => laidMetH Tryd.prog L w) false (World.laidAll Tryd.prog os L) #[.slice none 0 0, .slice none 0 0] 8 (World.laidAll_os _ _ _)
      (World.shaped_of_ZipB (by kernel_rfl) (by kernel_rfl)) (by kernel_rfl) (by kernel_rfl) (by kernel_rfl) (met os _)) ?_
  intro W base args ds gs before hval0 hW hsh hlaid
  have hval : ∀ (j : Nat) t v, Tryd.f3.params[j]? = some t → args[j]? = some v → Value.okWide Tryd.prog W .any base t v := hval0
  have hW' := hW
  obtain ⟨p, q, hA0, hV, rfl, hfz, hnd⟩ := hW
  have hA : DataW.TrodAll enc Tryd.prog W 0 (fun _ => true) true Tryd.f3.params.toList args.toList ds p := hA0
  rw [Tryd.params3] at hA hval
  obtain ⟨v0, vs0, d0, ds0, p0, q0, hargs, rfl, rfl, h0, r0⟩ := trodAll_cons hA
  obtain ⟨v1, vs1, d1, ds1, p1, q1, rfl, rfl, rfl, h1, r1⟩ := trodAll_cons r0
  obtain ⟨rfl, rfl, rfl⟩ := trodAll_nil r1
  obtain rfl : args = #[v0, v1] := by cases args; simp_all
  obtain ⟨a0, len0, cap0, rfl⟩ := okWide_slice Tryd.underlying22 (hval 0 22 v0 rfl rfl)
  obtain ⟨a1, len1, cap1, rfl⟩ := okWide_slice Tryd.underlying22 (hval 1 22 v1 rfl rfl)
  have lt0 : ∀ x ∈ p0, x.block < W.heap.size := by obtain ⟨m, hm⟩ := h0; exact DataW.trod_lt m _ _ _ hm
  have lt1 : ∀ x ∈ p1, x.block < W.heap.size := by obtain ⟨m, hm⟩ := h1; exact DataW.trod_lt m _ _ _ hm
  obtain ⟨l0, e0, b0, k0⟩ := came h0
  obtain ⟨l1, e1, b1, k1⟩ := came h1
  obtain ⟨ht, hs8⟩ := tabs_of_laid (by rw [← L_eq]; exact hlaid)
  obtain ⟨g1, g2, g3, g4, g5, g6, g7, rfl⟩ := seven (many hV)
  clear hA0 hval0
  refine (law_block a0 a1 len0 cap0 len1 cap1 l0 l1 W ⟨e0, b0, k0, Reads.none_, (fun x hx => by cases hx), Nat.le_refl _, e1, b1, ht, hs8⟩ k1 (pow_of_laid (by rw [← L_eq]; exact hlaid))).mono fun e W' ⟨he, bel⟩ => ?_
  subst he
  exact ⟨_, rfl, _, _, _, [], _, q, hW', trodAll_mk1 (shut_bool Tryd.underlying4 _),
    (trodAll_cons_mk (Below.trod laidOut (by kernel_rfl) (of_decide_eq_true (by kernel_rfl)) h0 bel lt0) (trodAll_cons_mk (Below.trod laidOut (by kernel_rfl) (of_decide_eq_true (by kernel_rfl)) h1 bel lt1) trodAll_mk0)),
    bel.trodVars laidOut (by kernel_rfl) hV, bel.frame _, fun h => by cases h⟩

theorem over : Rows.FnBlockSaid :=
  OpenClaim.holds_of_wide 3 Tryd.f3 rfl rfl rfl rfl rfl rfl rfl ⟨rfl, rfl, rfl, rfl, rfl⟩ rfl rfl rfl rfl rfl (by kernel_rfl) Tryd.func3 (by kernel_rfl)
    (of_decide_eq_true (by kernel_rfl)) (by unfold Func.isWrapper; first | (rw [if_pos (by decide +kernel)]; kernel_rfl) | (rw [if_neg (by decide +kernel)]; exact ⟨rfl, rfl⟩))
    (fun os started H enc _ => lifted os started H enc)

theorem row_tie : Rows.fnBlockRow.laidByTextAt .later Tryd.pinned [.data, .data, .data, .data, .data, .data, .data, .data, .data, .data] true := OpenClaim.laidByTextAt_later rfl rfl tie noOwnUnsafe

/-- The card. -/
theorem proved : Rows.FnBlockCardSaid :=
  Claim7.holds_tied_plain_at .later [] [.data, .data, .data, .data, .data, .data, .data, .data, .data, .data] true (true, "3ff78c28e30523c50e39783995caab53031e7aeccd006604f2b72b4560e2cd9a") false
    over (fun _ h => by cases h) (by kernel_rfl) (fun _ h => by cases h) row_tie rfl ⟨rfl, rfl⟩ (by kernel_rfl) rfl
    (fun f fn hf hfn => by
      obtain rfl : f = 3 := Option.some.inj ((show Tryd.prog.funcNamed "given.example/pub-waxwright/laws.FnBlock" = some 3 by kernel_rfl).symm.trans hf) |>.symm
      obtain rfl : fn = Tryd.f3 := (Option.some.inj (Tryd.func3.symm.trans hfn)).symm
      exact ⟨by kernel_rfl, fun j t ht => by
        rw [Tryd.params3] at ht
        have hm : t ∈ [22, 22] := by simpa using Array.mem_of_getElem? ht
        have hall : ([22, 22].all fun u => !Tryd.prog.wantsStandIn u) = true := by kernel_rfl
        exact (show Tryd.prog.wantsStandIn t = false by simpa using List.all_eq_true.1 hall t hm)⟩)
    (by kernel_rfl)
end Go.Proofs.YtkfagcpboehjjaaDoor.row.fnBlock
namespace Go.Proofs.YtkfagcpboehjjaaDoor
theorem fnBlock_holds : Rows.FnBlockCardSaid := row.fnBlock.proved
#print axioms fnBlock_holds
end Go.Proofs.YtkfagcpboehjjaaDoor
