/-
  FnSealed: whole blocks are encrypted by GCM as the reference says, with a tag of 16 bytes, and decrypted as they were, with the same tag: for every input the law returns true, and its arguments read as before. Proved of Rows.FnSealedCardSaid, with no condition of its own.
-/
import Derived.Test.YtkfagcpboehjjaaDoorRowc
import Derived.Test.YtkfagcpboehjjaaDoorGlw
import Derived.Test.YtkfagcpboehjjaaDoorLaid
import Derived.Test.YtkfagcpboehjjaaDoorCards
import Derived.SevenTiedAt
namespace Go.Proofs.YtkfagcpboehjjaaDoor.row.fnSealed
open Go.ChangeShapes Go.WideShapes Go.ChangeAt Go.RowKit
set_option linter.unusedVariables false

set_option maxRecDepth 100000 in
theorem lifted (os : Os) (started : os.Started) (H : Type) (enc : TypeId × Value → H) :
    ReturnsInHanded {} Tryd.checked os 7 .any (fun w args => (Rows.fnSealedSpec.pre enc Tryd.prog Tryd.f7 [] false w args ∧ laidMetH Tryd.prog L w) ∧ sizedMet enc Tryd.prog Tryd.f7 (OpenSpec.ofChange Rows.fnSealedSpec) false w args)
      (Rows.fnSealedSpec.post enc Tryd.prog Tryd.f7 false true false false) := by
  refine wrap (C := Tryd.checked) (X := fun w _ => laidMetH Tryd.prog L w) (fun _ _ _ hh h => h.of_heap hh) own started (by kernel_rfl) Tryd.func7
    (ChangeSpec.witness_shaped (enc := enc) (C := Tryd.checked) (os := os) (X := fun w _ => laidMetH Tryd.prog L w) false (World.laidAll Tryd.prog os L) #[.slice none 0 0, .slice none 0 0, .slice none 0 0, .slice none 0 0] 8 (World.laidAll_os _ _ _)
      (World.shaped_of_ZipB (by kernel_rfl) (by kernel_rfl)) (by kernel_rfl) (by kernel_rfl) (by kernel_rfl) (met os _)) ?_
  intro W base args ds gs before hval0 hW hsh hlaid
  have hval : ∀ (j : Nat) t v, Tryd.f7.params[j]? = some t → args[j]? = some v → Value.okWide Tryd.prog W .any base t v := hval0
  have hW' := hW
  obtain ⟨p, q, hA0, hV, rfl, hfz, hnd⟩ := hW
  have hA : DataW.TrodAll enc Tryd.prog W 0 (fun _ => true) true Tryd.f7.params.toList args.toList ds p := hA0
  rw [Tryd.params7] at hA hval
  obtain ⟨v0, vs0, d0, ds0, p0, q0, hargs, rfl, rfl, h0, r0⟩ := trodAll_cons hA
  obtain ⟨v1, vs1, d1, ds1, p1, q1, rfl, rfl, rfl, h1, r1⟩ := trodAll_cons r0
  obtain ⟨v2, vs2, d2, ds2, p2, q2, rfl, rfl, rfl, h2, r2⟩ := trodAll_cons r1
  obtain ⟨v3, vs3, d3, ds3, p3, q3, rfl, rfl, rfl, h3, r3⟩ := trodAll_cons r2
  obtain ⟨rfl, rfl, rfl⟩ := trodAll_nil r3
  obtain rfl : args = #[v0, v1, v2, v3] := by cases args; simp_all
  obtain ⟨a0, len0, cap0, rfl⟩ := okWide_slice Tryd.underlying22 (hval 0 22 v0 rfl rfl)
  obtain ⟨a1, len1, cap1, rfl⟩ := okWide_slice Tryd.underlying22 (hval 1 22 v1 rfl rfl)
  obtain ⟨a2, len2, cap2, rfl⟩ := okWide_slice Tryd.underlying22 (hval 2 22 v2 rfl rfl)
  obtain ⟨a3, len3, cap3, rfl⟩ := okWide_slice Tryd.underlying22 (hval 3 22 v3 rfl rfl)
  have lt0 : ∀ x ∈ p0, x.block < W.heap.size := by obtain ⟨m, hm⟩ := h0; exact DataW.trod_lt m _ _ _ hm
  have lt1 : ∀ x ∈ p1, x.block < W.heap.size := by obtain ⟨m, hm⟩ := h1; exact DataW.trod_lt m _ _ _ hm
  have lt2 : ∀ x ∈ p2, x.block < W.heap.size := by obtain ⟨m, hm⟩ := h2; exact DataW.trod_lt m _ _ _ hm
  have lt3 : ∀ x ∈ p3, x.block < W.heap.size := by obtain ⟨m, hm⟩ := h3; exact DataW.trod_lt m _ _ _ hm
  obtain ⟨l0, e0, b0, k0⟩ := came h0
  obtain ⟨l1, e1, b1, k1⟩ := came h1
  obtain ⟨l2, e2, b2, k2⟩ := came h2
  obtain ⟨l3, e3, b3, k3⟩ := came h3
  obtain ⟨ht, hs8⟩ := tabs_of_laid (by rw [← L_eq]; exact hlaid)
  obtain ⟨g1, g2, g3, g4, g5, g6, g7, rfl⟩ := seven (many hV)
  clear hA0 hval0
  refine (law_sealed a0 a1 a2 a3 len0 cap0 len1 cap1 len2 cap2 len3 cap3 l0 l1 l2 l3 W ⟨e0, b0, k0, e1, b1, k1, e2, b2, k2, e3, b3, k3, ht, hs8⟩).mono fun e W' ⟨he, bel⟩ => ?_
  subst he
  exact ⟨_, rfl, _, _, _, [], _, q, hW', trodAll_mk1 (shut_bool Tryd.underlying4 _),
    (trodAll_cons_mk (Below.trod laidOut (by kernel_rfl) (of_decide_eq_true (by kernel_rfl)) h0 bel lt0) (trodAll_cons_mk (Below.trod laidOut (by kernel_rfl) (of_decide_eq_true (by kernel_rfl)) h1 bel lt1) (trodAll_cons_mk (Below.trod laidOut (by kernel_rfl) (of_decide_eq_true (by kernel_rfl)) h2 bel lt2) (trodAll_cons_mk (Below.trod laidOut (by kernel_rfl) (of_decide_eq_true (by kernel_rfl)) h3 bel lt3) trodAll_mk0)))),
    bel.trodVars laidOut (by kernel_rfl) hV, bel.frame _, fun h => by cases h⟩

theorem over : Rows.FnSealedSaid :=
  OpenClaim.holds_of_wide 7 Tryd.f7 rfl rfl rfl rfl rfl rfl rfl ⟨rfl, rfl, rfl, rfl, rfl⟩ rfl rfl rfl rfl rfl (by kernel_rfl) Tryd.func7 (by kernel_rfl)
    (of_decide_eq_true (by kernel_rfl)) (by unfold Func.isWrapper; first | (rw [if_pos (by decide +kernel)]; kernel_rfl) | (rw [if_neg (by decide +kernel)]; exact ⟨rfl, rfl⟩))
    (fun os started H enc _ => lifted os started H enc)

theorem row_tie : Rows.fnSealedRow.laidByTextAt .later Tryd.pinned [.data, .data, .data, .data, .data, .data, .data, .data, .data, .data] true := OpenClaim.laidByTextAt_later rfl rfl tie noOwnUnsafe

/-- The card. -/
theorem proved : Rows.FnSealedCardSaid :=
  Claim7.holds_tied_plain_at .later [] [.data, .data, .data, .data, .data, .data, .data, .data, .data, .data] true (true, "3ff78c28e30523c50e39783995caab53031e7aeccd006604f2b72b4560e2cd9a") false
    over (fun _ h => by cases h) (by kernel_rfl) (fun _ h => by cases h) row_tie rfl ⟨rfl, rfl⟩ (by kernel_rfl) rfl
    (fun f fn hf hfn => by
      obtain rfl : f = 7 := Option.some.inj ((show Tryd.prog.funcNamed "given.example/pub-waxwright/laws.FnSealed" = some 7 by kernel_rfl).symm.trans hf) |>.symm
      obtain rfl : fn = Tryd.f7 := (Option.some.inj (Tryd.func7.symm.trans hfn)).symm
      exact ⟨by kernel_rfl, fun j t ht => by
        rw [Tryd.params7] at ht
        have hm : t ∈ [22, 22, 22, 22] := by simpa using Array.mem_of_getElem? ht
        have hall : ([22, 22, 22, 22].all fun u => !Tryd.prog.wantsStandIn u) = true := by kernel_rfl
        exact (show Tryd.prog.wantsStandIn t = false by simpa using List.all_eq_true.1 hall t hm)⟩)
    (by kernel_rfl)
end Go.Proofs.YtkfagcpboehjjaaDoor.row.fnSealed
namespace Go.Proofs.YtkfagcpboehjjaaDoor
theorem fnSealed_holds : Rows.FnSealedCardSaid := row.fnSealed.proved
#print axioms fnSealed_holds
end Go.Proofs.YtkfagcpboehjjaaDoor
