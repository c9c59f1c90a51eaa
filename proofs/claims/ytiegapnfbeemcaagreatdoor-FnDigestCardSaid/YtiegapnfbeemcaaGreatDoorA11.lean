/-
  The executor is sound: whole functions. No condition.
-/
import Derived.Test.YtiegapnfbeemcaaGreatDoorA10
import Derived.Defers
namespace Go.Proofs.YtiegapnfbeemcaaGreatDoor.X
set_option maxRecDepth 100000
open Go.RowKit

theorem least (p : Nat → Prop) : ∀ n, p n → ∃ m, p m ∧ ∀ k, p k → m ≤ k := fun n => by
  induction n using Nat.strongRecOn with
  | _ n ih =>
    intro hn
    by_cases h : ∃ k, k < n ∧ p k
    · obtain ⟨k, hk, hp⟩ := h
      exact ih k hk hp
    · refine ⟨n, hn, fun k hk => ?_⟩
      rcases Nat.lt_or_ge k n with h1 | h1
      · exact absurd ⟨k, h1, hk⟩ h
      · exact h1
open Classical in
theorem wp_loop_n {c : Code} {Q : Exit → Act → World → Prop} (J : Nat → Act → World → Prop) (round : ∀ n a w, J n a w → c.wp Tryz.prog (Exit.then (fun a' w' => ∃ m, m < n ∧ J m a' w') Q) a w) {n : Nat} {a : Act} {w : World} (h : J n a w) : (Code.loop c).wp Tryz.prog Q a w := by
  let μ : Act → World → Nat := fun a w => if h : ∃ m, J m a w ∧ ∀ k, J k a w → m ≤ k then h.choose else 0
  have hμ : ∀ a w n, J n a w → J (μ a w) a w ∧ ∀ k, J k a w → μ a w ≤ k := fun a w n h => by
    have hh := least (fun n => J n a w) n h
    show J (if h : ∃ m, J m a w ∧ ∀ k, J k a w → m ≤ k then h.choose else 0) a w ∧ ∀ k, J k a w → (if h : ∃ m, J m a w ∧ ∀ k, J k a w → m ≤ k then h.choose else 0) ≤ k
    rw [dif_pos hh]
    exact hh.choose_spec
  refine wp_loop (fun a w => ∃ n, J n a w) μ ⟨n, h⟩ fun a w ⟨n, hn⟩ => ?_
  obtain ⟨h1, _⟩ := hμ a w n hn
  refine wp_mono (round _ a w h1) fun e a' w' he => ?_
  cases e with
  | normal =>
    obtain ⟨m, hm, hj⟩ := he
    exact ⟨⟨m, hj⟩, Nat.lt_of_le_of_lt ((hμ a' w' m hj).2 m hj) hm⟩
  | _ => exact he
def exitOf : Ex → Exit
  | .nor => .normal
  | .ret => .ret
  | .out id => .exit id

section
variable {call : CallX} {N : Nat}
theorem code_sound (hc : CallOk call) : ∀ (n : Nat) (c : Code) (s : St) (e : Ex) (s' : St), codeX call N n c s = some (e, s') → ∀ (φ : Env) (a : Act) (w : World) (Q : Exit → Act → World → Prop), SR N φ s.T s.H s.D a w →
    (∀ ψ a' w', EX φ ψ w → FR φ w w' → SR N ψ s'.T s'.H s'.D a' w' → Q (exitOf e) a' w') → c.wp Tryz.prog Q a w := fun n => by
  induction n using Nat.strongRecOn with
  | _ n ih =>
  intro c s e s' h φ a w Q hS hQ
  cases n with
  | zero => cases h
  | succ n =>
    cases c <;> simp only [codeX] at h
    case skip =>
      obtain ⟨rfl, rfl⟩ := Prod.mk.inj (Option.some.inj h)
      exact wp_skip (hQ φ a w (EX.refl _ _) (FR.refl _ _) hS)
    case ret =>
      obtain ⟨rfl, rfl⟩ := Prod.mk.inj (Option.some.inj h)
      exact wp_ret (hQ φ a w (EX.refl _ _) (FR.refl _ _) hS)
    case exit id =>
      obtain ⟨rfl, rfl⟩ := Prod.mk.inj (Option.some.inj h)
      exact wp_exit (hQ φ a w (EX.refl _ _) (FR.refl _ _) hS)
    case seq x y =>
      refine wp_seq ?_
      split at h
      · rename_i s1 h1
        refine ih n (Nat.lt_succ_self _) x s .nor s1 h1 φ a w _ hS fun ψ a' w' hX hF hS' => ?_
        exact ih n (Nat.lt_succ_self _) y s1 e s' h ψ a' w' Q hS' fun χ a2 w2 h2 h3 h4 => hQ χ a2 w2 (hX.trans h2 hF.size) (hF.trans hX h3) h4
      · rename_i hr
        refine ih n (Nat.lt_succ_self _) x s e s' h φ a w _ hS fun ψ a' w' hX hF hS' => ?_
        have := hQ ψ a' w' hX hF hS'
        cases e with
        | nor => exact absurd h (hr s')
        | ret => exact this
        | out id => exact this
    case cond b x y =>
      split at h
      · rename_i hb
        have e1 := mv_bool (ev_sound hS.tmps hS.mem hb)
        exact wp_cond_true e1 (ih n (Nat.lt_succ_self _) x s e s' h φ a w Q hS hQ)
      · rename_i hb
        have e1 := mv_bool (ev_sound hS.tmps hS.mem hb)
        exact wp_cond_false e1 (ih n (Nat.lt_succ_self _) y s e s' h φ a w Q hS hQ)
      · cases h
    case block id c =>
      refine wp_block ?_
      split at h
      · rename_i i s1 h1
        split at h
        · rename_i hi
          have hi := Nat.eq_of_beq_eq_true hi
          subst hi
          obtain ⟨rfl, rfl⟩ := Prod.mk.inj (Option.some.inj h)
          refine ih n (Nat.lt_succ_self _) c s (.out i) s1 h1 φ a w _ hS fun ψ a' w' hX hF hS' => ?_
          have := hQ ψ a' w' hX hF hS'
          simpa [exitOf, Exit.inBlock] using this
        · rename_i hi
          obtain ⟨rfl, rfl⟩ := Prod.mk.inj (Option.some.inj h)
          refine ih n (Nat.lt_succ_self _) c s (.out i) s1 h1 φ a w _ hS fun ψ a' w' hX hF hS' => ?_
          have := hQ ψ a' w' hX hF hS'
          have hne : i ≠ id := fun e => by subst e; rw [Nat.beq_refl] at hi; cases hi
          simpa [exitOf, Exit.inBlock, hne] using this
      · rename_i hr
        refine ih n (Nat.lt_succ_self _) c s e s' h φ a w _ hS fun ψ a' w' hX hF hS' => ?_
        have := hQ ψ a' w' hX hF hS'
        cases e with
        | nor => simpa [exitOf, Exit.inBlock] using this
        | ret => simpa [exitOf, Exit.inBlock] using this
        | out i => exact absurd h (hr i s')
    case loop c =>
      have hstart : codeX call N (n + 1) (.loop c) s = some (e, s') := by simp only [codeX]; exact h
      refine wp_loop_n (fun m a1 w1 => m ≤ n + 1 ∧ ∃ s1 φ1, codeX call N m (.loop c) s1 = some (e, s') ∧ SR N φ1 s1.T s1.H s1.D a1 w1 ∧ EX φ φ1 w ∧ FR φ w w1) ?_ (n := n + 1) ⟨Nat.le_refl _, s, φ, hstart, hS, EX.refl _ _, FR.refl _ _⟩
      rintro m a1 w1 ⟨hm, s1, φ1, h1, hS1, hX1, hF1⟩
      cases m with
      | zero => cases h1
      | succ m =>
        simp only [codeX] at h1
        split at h1
        · rename_i s2 h2
          refine ih m (by omega) c s1 .nor s2 h2 φ1 a1 w1 _ hS1 fun ψ a' w' hX hF hS' => ?_
          exact ⟨m, Nat.lt_succ_self _, by omega, s2, ψ, h1, hS', hX1.trans hX hF1.size, hF1.trans hX1 hF⟩
        · rename_i hr
          refine ih m (by omega) c s1 e s' h1 φ1 a1 w1 _ hS1 fun ψ a' w' hX hF hS' => ?_
          have := hQ ψ a' w' (hX1.trans hX hF1.size) (hF1.trans hX1 hF) hS'
          cases e with
          | nor => exact absurd h1 (hr s')
          | ret => exact this
          | out id => exact this
    case region id ops b =>
      cases b with
      | false =>
        simp only at h
        split at h
        · rename_i s1 h1
          obtain ⟨rfl, rfl⟩ := Prod.mk.inj (Option.some.inj h)
          exact wp_region_list (reg_seq hc ops.toList φ s.T s.H s.D a w s1 h1 hS hQ)
        · cases h
      | true =>
        simp only at h
        split at h
        · rename_i hd
          split at h
          · rename_i s1 h1
            obtain ⟨rfl, rfl⟩ := Prod.mk.inj (Option.some.inj h)
            have hS' : SR N φ s.T s.H s.D a { w with drawn := w.drawn + 1 } := ⟨hS.size, hS.small, hS.tmps, hS.mem.drew, hS.dfr⟩
            have := reg_any hc hd h1 hS' (Q := Q) fun ψ a' w' hX hF hS2 => hQ ψ a' w' hX ((FR.drew w).trans (EX.refl _ _) hF) hS2
            rw [Array.toArray_toList] at this
            refine wp_region_any (by kernel_rfl) ?_
            rw [← Array.length_toList]
            exact this
          · cases h
        · split at h
          · rename_i hd
            split at h
            · rename_i s1 L Hs h1
              split at h
              · rename_i hb
                obtain ⟨rfl, rfl⟩ := Prod.mk.inj (Option.some.inj h)
                have hS' : SR N φ s.T s.H s.D a { w with drawn := w.drawn + 1 } := ⟨hS.size, hS.small, hS.tmps, hS.mem.drew, hS.dfr⟩
                have := reg_stab hc hd h1 hb hS' (Q := Q) fun ψ a' w' hX hF hS2 => hQ ψ a' w' hX ((FR.drew w).trans (EX.refl _ _) hF) hS2
                rw [Array.toArray_toList] at this
                refine wp_region_any (by kernel_rfl) ?_
                rw [← Array.length_toList]
                exact this
              · cases h
            · cases h
          · cases h
    all_goals cases h
end
end Go.Proofs.YtiegapnfbeemcaaGreatDoor.X

namespace Go.Proofs.YtiegapnfbeemcaaGreatDoor.X
set_option maxRecDepth 100000
open Go.RowKit

section
variable {N : Nat} {φ : Env} {T : Tr} {H : Heap} {a : Act} {w : World}
/-- The arguments are laid. -/
theorem args_ok {β : Type} : ∀ (vs : List Value) (i : Nat) (T : Tr) (k : Tr → β), ∃ T', argsX vs i T k = k T' ∧ (i + vs.length ≤ 512 → ∀ t u, T'.get DEP t = some u → (∃ j, vs[j]? = some u ∧ t = i + j) ∨ T.get DEP t = some u)
  | [], i, T, k => ⟨T, rfl, fun _ t u h => .inr h⟩
  | v :: vs, i, T, k => by
    unfold argsX
    rw [setK_eq]
    obtain ⟨T', h1, h2⟩ := args_ok vs (i + 1) (T.set DEP i v) k
    refine ⟨T', h1, fun hl t u hu => ?_⟩
    simp only [List.length_cons] at hl
    rcases h2 (by omega) t u hu with ⟨j, hj, e⟩ | h3
    · exact .inl ⟨j + 1, by simpa using hj, by omega⟩
    · rw [get_set _ _ _ _ _ (Nat.lt_of_lt_of_le (show i < 512 by omega) (show 512 ≤ 2 ^ DEP from Nat.le_refl _))] at h3
      by_cases e : t = i
      · rw [if_pos e] at h3
        exact .inl ⟨0, h3, by omega⟩
      · rw [if_neg e] at h3; exact .inr h3
theorem res_ok (hT : TR φ T a) : ∀ {l : List ResultVar} {vs : List Value}, resX T l = some vs → ∃ us : List Value, (l.mapM (m := Sem) fun
    | .tmp t => pure (a.tmps.getD t undef)
    | .cell b t => do loadVar t (← asAddr (a.tmps.getD b undef))).run Tryz.prog w = .ok us w ∧ us.length = vs.length ∧ ∀ (i : Nat) (v : Value), vs[i]? = some v → ∃ u, us[i]? = some u ∧ mv φ v = some u
  | [], vs, h => by
    have h := Option.some.inj h
    subst h
    exact ⟨[], rfl, rfl, fun i v hv => by simp at hv⟩
  | .tmp t :: l, vs, h => by
    unfold resX at h
    split at h
    · rename_i v vs' hv hvs
      have h := Option.some.inj h
      subst h
      obtain ⟨us, h1, h2, h3⟩ := res_ok hT hvs
      refine ⟨a.tmps.getD t undef :: us, ?_, by simp [h2], fun i x hx => ?_⟩
      · rw [List.mapM_cons]
        simp only [Sem.run_bind, Sem.run_pure, Result.andThen_ok, h1]
      · cases i with
        | zero => rw [List.getElem?_cons_zero] at hx ⊢; rw [← Option.some.inj hx]; exact ⟨_, rfl, hT t v hv⟩
        | succ i => rw [List.getElem?_cons_succ] at hx ⊢; exact h3 i x hx
    · cases h
  | .cell _ _ :: l, vs, h => by cases h
theorem mvs_of : ∀ {us vs : List Value}, us.length = vs.length → (∀ (i : Nat) (v : Value), vs[i]? = some v → ∃ u, us[i]? = some u ∧ mv1 φ v = some u) → mvs φ vs = some us
  | [], [], _, _ => rfl
  | u :: us, v :: vs, hl, h => by
    obtain ⟨x, hx, hm⟩ := h 0 v rfl
    rw [List.getElem?_cons_zero] at hx
    rw [← Option.some.inj hx] at hm
    unfold mvs
    rw [hm, mvs_of (us := us) (vs := vs) (by simpa using hl) fun i y hy => by
      have := h (i + 1) y (by rw [List.getElem?_cons_succ]; exact hy)
      rwa [List.getElem?_cons_succ] at this]
  | [], _ :: _, hl, _ => by cases hl
  | _ :: _, [], hl, _ => by cases hl
theorem ret_ok (hT : TR φ T a) {fn : Func} {v : Value} (h : retX T fn.results.toList = some v) : ∃ v', (results fn a.tmps).run Tryz.prog w = .ok v' w ∧ mv φ v = some v' := by
  unfold retX at h
  split at h
  · rename_i x hx
    have h := Option.some.inj h
    subst h
    obtain ⟨us, h1, h2, h3⟩ := res_ok (w := w) hT hx
    obtain ⟨u, hu, hm⟩ := h3 0 x rfl
    have hus : us = [u] := by
      match us, h2, hu with
      | [y], _, hu => rw [List.getElem?_cons_zero] at hu; rw [Option.some.inj hu]
    subst hus
    refine ⟨u, ?_, hm⟩
    unfold results
    rw [Sem.run_bind, Array.mapM_eq_mapM_toList]
    rw [Sem.run_map]
    erw [h1]
    rfl
  · rename_i vs hne hvs
    split at h
    · rename_i h1
      have h := Option.some.inj h
      subst h
      obtain ⟨us, e1, e2, e3⟩ := res_ok (w := w) hT hvs
      have hm : mvs φ vs = some us := mvs_of e2 fun i x hx => by
        obtain ⟨u, hu, hm⟩ := e3 i x hx
        rw [mv_one (List.all_eq_true.1 h1 x (List.mem_of_getElem? hx))] at hm
        exact ⟨u, hu, hm⟩
      have hl : us.length ≠ 1 := fun e => by
        match vs, e2, hne with
        | [], e2, _ => rw [e] at e2; cases e2
        | [x], _, hne => exact hne x rfl
        | _ :: _ :: _, e2, _ => rw [e] at e2; simp at e2
      refine ⟨.tuple ⟨us⟩, ?_, ?_⟩
      · unfold results
        rw [Sem.run_bind, Array.mapM_eq_mapM_toList]
        rw [Sem.run_map]
        erw [e1]
        have : ¬ (us.toArray.size = 1) := by simpa using hl
        show (pure (if h : us.toArray.size = 1 then us.toArray[0] else .tuple us.toArray) : Sem Value).run Tryz.prog w = _
        rw [dif_neg this]; rfl
      · show (match mvs φ vs with | some l => some (Value.tuple ⟨l⟩) | none => none) = _
        rw [hm]
    · cases h
  · cases h
end
end Go.Proofs.YtiegapnfbeemcaaGreatDoor.X

namespace Go.Proofs.YtiegapnfbeemcaaGreatDoor.X
set_option maxRecDepth 100000
open Go.RowKit

/-- What the executor's deferred calls are worth. -/
def DefOk (call : CallX) : Prop := ∀ f vs H v H', call f vs H = some (v, H') → (∀ args w, (callFunc f args).run Tryz.prog w = .ok (.enter f args) w) ∧ ∀ φ w us u, WR φ H w → mvs φ vs = some us → CallsD Tryz.prog f ⟨us⟩ u w fun e u' w' => u' = u ∧ OutX φ v H' w e w'
def FindOk (find : Nat → Option Func) : Prop := ∀ f fn, find f = some fn → Tryz.prog.funcs[f]? = some fn ∧ ∀ args w, (callFunc f args).run Tryz.prog w = .ok (.enter f args) w
section
variable {φ : Env} {H : Heap} {w : World}
theorem leaves_ok {cd : CallX} (hcd : DefOk cd) {fn : Func} {tmps : Array Value} {R : Ending → World → Prop} : ∀ (D : Dfr) (ds : List Deferred) (φ : Env) (H H' : Heap) (w : World), defX cd D H = some H' → DR φ D ds → WR φ H w →
    (∀ ψ w', EX φ ψ w → FR φ w w' → WR ψ H' w' → ∃ v, (results fn tmps).run Tryz.prog w' = .ok v w' ∧ R (.returned v) w') → Leaves Tryz.prog fn tmps R ds .returning w
  | [], [], φ, H, H', w, h, _, hW, hR => by
    have h := Option.some.inj h
    subst h
    exact hR φ w (EX.refl _ _) (FR.refl _ _) hW
  | (f, vs) :: D, d :: ds, φ, H, H', w, h, ⟨⟨us, hm, hd⟩, hD⟩, hW, hR => by
    unfold defX at h
    split at h
    · rename_i v H1 hcall
      obtain ⟨c1, c2⟩ := hcd f vs H v H1 hcall
      subst hd
      refine leaves_cons (by intro e; cases e) (f := f) (args := ⟨us⟩) ?_ ((c2 φ w us .returning hW hm).mono ?_)
      · show (callFunc f ((⟨us⟩ : Array Value) ++ #[])).run Tryz.prog w = _
        rw [Array.append_empty]; exact c1 _ w
      · rintro e u' w' ⟨rfl, ψ, v', rfl, e1, e2, e3, e4⟩
        exact leaves_ok hcd D ds ψ H1 H' w' h (hD.mono e2.1) e3 fun χ w2 h1 h2 h3 => hR χ w2 (e2.trans h1 e4.size) (e4.trans e2 h2) h3
    · cases h
  | [], _ :: _, _, _, _, _, _, h, _, _ => h.elim
  | _ :: _, [], _, _, _, _, _, h, _, _ => h.elim
/-- The body of a function. -/
theorem body_ok {call : CallX} (hc : CallOk call) {fn : Func} {c : Code} (hb : fn.body = some c) {fin : St → Option (Value × Heap)} {vs us : List Value} {v : Value} {H' : Heap} (h : bodyX call fn fin vs H = some (v, H')) (hW : WR φ H w) (hm : mvs φ vs = some us) {Q : Exit → Act → World → Prop}
    (hQ : ∀ s ψ a' w', fin s = some (v, H') → EX φ ψ w → FR φ w w' → SR fn.ntmps ψ s.T s.H s.D a' w' → Q .normal a' w' ∧ Q .ret a' w') :
    c.wp Tryz.prog Q { tmps := (⟨us⟩ : Array Value) ++ Array.replicate (fn.ntmps - (⟨us⟩ : Array Value).size) undef, defers := [] } w := by
  unfold bodyX at h
  rw [hb] at h
  simp only at h
  split at h
  case isFalse => cases h
  rename_i hn
  rw [Bool.and_eq_true, Bool.and_eq_true] at hn
  have n1 := Nat.le_of_ble_eq_true hn.1.1
  have n2 := Nat.le_of_ble_eq_true hn.1.2
  have hul := mvs_len hm
  obtain ⟨T', e1, e2⟩ := args_ok vs 0 .nil (fun T => match codeX call fn.ntmps FUEL c ⟨T, H, []⟩ with
    | some (.nor, s) => fin s
    | some (.ret, s) => fin s
    | _ => none)
  replace h := e1.symm.trans h
  have hS : SR fn.ntmps φ T' H [] { tmps := (⟨us⟩ : Array Value) ++ Array.replicate (fn.ntmps - (⟨us⟩ : Array Value).size) undef, defers := [] } w := by
    refine ⟨?_, n1, fun t u hu => ?_, hW, trivial⟩
    · show ((⟨us⟩ : Array Value) ++ Array.replicate (fn.ntmps - us.length) undef).size = fn.ntmps
      rw [Array.size_append, Array.size_replicate]
      show us.length + (fn.ntmps - us.length) = fn.ntmps
      omega
    · rcases e2 (by omega) t u hu with ⟨j, hj, e⟩ | h3
      · obtain ⟨x, hx, hm1⟩ := mvs_at hm hj
        have h1 : one u = true := List.all_eq_true.1 hn.2 u (List.mem_of_getElem? hj)
        rw [mv_one h1, hm1]
        congr 1
        rw [Nat.zero_add] at e
        subst e
        show x = ((⟨us⟩ : Array Value) ++ Array.replicate (fn.ntmps - us.length) undef).getD t undef
        have hlt : t < us.length := (List.getElem?_eq_some_iff.1 hx).1
        rw [Array.getD_eq_getD_getElem?, Array.getElem?_append_left (show t < us.toArray.size by simpa using hlt)]
        show x = (us.toArray[t]?).getD undef
        rw [List.getElem?_toArray, hx]; rfl
      · rw [get_nil] at h3; cases h3
  split at h
  · rename_i s hs
    exact code_sound hc FUEL c _ .nor s hs φ _ w Q hS fun ψ a' w' hX hF hS' => (hQ s ψ a' w' h hX hF hS').1
  · rename_i s hs
    exact code_sound hc FUEL c _ .ret s hs φ _ w Q hS fun ψ a' w' hX hF hS' => (hQ s ψ a' w' h hX hF hS').2
  · cases h
theorem def_ok {find : Nat → Option Func} (hf : FindOk find) {call : CallX} (hc : CallOk call) : DefOk (callT0 find call) := fun f vs H v H' h => by
  unfold callT0 at h
  split at h
  case h_2 => cases h
  rename_i fn hfn
  obtain ⟨hp, hrun⟩ := hf f fn hfn
  refine ⟨hrun, fun φ w us u hW hm => ?_⟩
  cases hb : fn.body with
  | none => unfold bodyX at h; rw [hb] at h; cases h
  | some c =>
    refine callsD_of_wp hp hb (body_ok hc hb h hW hm fun s ψ a' w' hs hX hF hS => ?_)
    have : bodyPost Tryz.prog fn (OutX φ v H' w) .ret a' w' := by
      unfold end0 at hs
      split at hs
      · rename_i v0 hD hv
        have hs := Option.some.inj hs
        injection hs with e1 e2
        subst e1; subst e2
        obtain ⟨v', r1, r2⟩ := ret_ok (w := w') hS.tmps hv
        have hdd : a'.defers = [] := by
          have := hS.dfr
          rw [hD] at this
          cases hq : a'.defers with
          | nil => rfl
          | cons d ds => rw [hq] at this; exact this.elim
        exact ⟨hdd, v', r1, ψ, v', rfl, r2, hX, hS.mem, hF⟩
      · cases hs
    exact ⟨this, this⟩
theorem call_ok {find : Nat → Option Func} (hf : FindOk find) : ∀ n, CallOk (callT find n)
  | 0 => fun _ _ _ _ _ h => by cases h
  | n + 1 => fun f vs H v H' h => by
    have hc := call_ok hf n
    have hcd := def_ok hf hc
    unfold callT at h
    split at h
    case h_2 => cases h
    rename_i fn hfn
    obtain ⟨hp, hrun⟩ := hf f fn hfn
    refine ⟨hrun, fun φ w us hW hm => ?_⟩
    cases hb : fn.body with
    | none => unfold bodyX at h; rw [hb] at h; cases h
    | some c =>
      refine calls_of_wp_defers hp hb (body_ok hc hb h hW hm fun s ψ a' w' hs hX hF hS => ?_)
      have : bodyPostD Tryz.prog fn (OutX φ v H' w) .ret a' w' := by
        unfold endX at hs
        split at hs
        · rename_i v0 H0 hv hdx
          have hs := Option.some.inj hs
          injection hs with e1 e2
          subst e1; subst e2
          refine leaves_ok hcd s.D a'.defers ψ s.H H0 w' hdx hS.dfr hS.mem fun χ w2 h1 h2 h3 => ?_
          obtain ⟨v', r1, r2⟩ := ret_ok (w := w2) (hS.tmps.mono h1.1) hv
          exact ⟨v', r1, χ, v', rfl, r2, hX.trans h1 hF.size, h3, hF.trans hX h2⟩
        · cases hs
      exact ⟨this, this⟩
end
/-- WHAT THE EXECUTOR SAYS, THE MODEL DOES. -/
theorem run_sound {find : Nat → Option Func} (hf : FindOk find) {n f : Nat} {vs us : List Value} {H H' : Heap} {v : Value} (h : callT find n f vs H = some (v, H')) {φ : Env} {w : World} (hW : WR φ H w) (hm : mvs φ vs = some us) : Calls Tryz.prog f ⟨us⟩ w (OutX φ v H' w) := (call_ok hf n f vs H v H' h).2 φ w us hW hm
end Go.Proofs.YtiegapnfbeemcaaGreatDoor.X

namespace Go.Proofs.YtiegapnfbeemcaaGreatDoor.X
set_option maxRecDepth 100000
open Go.RowKit

theorem e120 (args : Array Value) (w : World) : (callFunc 120 args).run Tryz.prog w = .ok (.enter 120 args) w := by kernel_rfl
theorem e147 (args : Array Value) (w : World) : (callFunc 147 args).run Tryz.prog w = .ok (.enter 147 args) w := by kernel_rfl
theorem e175 (args : Array Value) (w : World) : (callFunc 175 args).run Tryz.prog w = .ok (.enter 175 args) w := by kernel_rfl
theorem e164 (args : Array Value) (w : World) : (callFunc 164 args).run Tryz.prog w = .ok (.enter 164 args) w := by kernel_rfl
theorem e210 (args : Array Value) (w : World) : (callFunc 210 args).run Tryz.prog w = .ok (.enter 210 args) w := by kernel_rfl
theorem e104 (args : Array Value) (w : World) : (callFunc 104 args).run Tryz.prog w = .ok (.enter 104 args) w := by kernel_rfl
theorem e106 (args : Array Value) (w : World) : (callFunc 106 args).run Tryz.prog w = .ok (.enter 106 args) w := by kernel_rfl
theorem e102 (args : Array Value) (w : World) : (callFunc 102 args).run Tryz.prog w = .ok (.enter 102 args) w := by kernel_rfl
theorem e93 (args : Array Value) (w : World) : (callFunc 93 args).run Tryz.prog w = .ok (.enter 93 args) w := by kernel_rfl
theorem e38 (args : Array Value) (w : World) : (callFunc 38 args).run Tryz.prog w = .ok (.enter 38 args) w := by kernel_rfl
theorem e40 (args : Array Value) (w : World) : (callFunc 40 args).run Tryz.prog w = .ok (.enter 40 args) w := by kernel_rfl
theorem e41 (args : Array Value) (w : World) : (callFunc 41 args).run Tryz.prog w = .ok (.enter 41 args) w := by kernel_rfl
theorem e42 (args : Array Value) (w : World) : (callFunc 42 args).run Tryz.prog w = .ok (.enter 42 args) w := by kernel_rfl
theorem e43 (args : Array Value) (w : World) : (callFunc 43 args).run Tryz.prog w = .ok (.enter 43 args) w := by kernel_rfl
theorem e44 (args : Array Value) (w : World) : (callFunc 44 args).run Tryz.prog w = .ok (.enter 44 args) w := by kernel_rfl
theorem e45 (args : Array Value) (w : World) : (callFunc 45 args).run Tryz.prog w = .ok (.enter 45 args) w := by kernel_rfl
theorem e48 (args : Array Value) (w : World) : (callFunc 48 args).run Tryz.prog w = .ok (.enter 48 args) w := by kernel_rfl
theorem e64 (args : Array Value) (w : World) : (callFunc 64 args).run Tryz.prog w = .ok (.enter 64 args) w := by kernel_rfl
theorem e65 (args : Array Value) (w : World) : (callFunc 65 args).run Tryz.prog w = .ok (.enter 65 args) w := by kernel_rfl
theorem e66 (args : Array Value) (w : World) : (callFunc 66 args).run Tryz.prog w = .ok (.enter 66 args) w := by kernel_rfl
theorem e67 (args : Array Value) (w : World) : (callFunc 67 args).run Tryz.prog w = .ok (.enter 67 args) w := by kernel_rfl
theorem e68 (args : Array Value) (w : World) : (callFunc 68 args).run Tryz.prog w = .ok (.enter 68 args) w := by kernel_rfl
theorem e69 (args : Array Value) (w : World) : (callFunc 69 args).run Tryz.prog w = .ok (.enter 69 args) w := by kernel_rfl
theorem e70 (args : Array Value) (w : World) : (callFunc 70 args).run Tryz.prog w = .ok (.enter 70 args) w := by kernel_rfl
theorem e71 (args : Array Value) (w : World) : (callFunc 71 args).run Tryz.prog w = .ok (.enter 71 args) w := by kernel_rfl
theorem e72 (args : Array Value) (w : World) : (callFunc 72 args).run Tryz.prog w = .ok (.enter 72 args) w := by kernel_rfl
theorem e77 (args : Array Value) (w : World) : (callFunc 77 args).run Tryz.prog w = .ok (.enter 77 args) w := by kernel_rfl
theorem e87 (args : Array Value) (w : World) : (callFunc 87 args).run Tryz.prog w = .ok (.enter 87 args) w := by kernel_rfl
theorem e88 (args : Array Value) (w : World) : (callFunc 88 args).run Tryz.prog w = .ok (.enter 88 args) w := by kernel_rfl
theorem e89 (args : Array Value) (w : World) : (callFunc 89 args).run Tryz.prog w = .ok (.enter 89 args) w := by kernel_rfl
theorem e90 (args : Array Value) (w : World) : (callFunc 90 args).run Tryz.prog w = .ok (.enter 90 args) w := by kernel_rfl
theorem e91 (args : Array Value) (w : World) : (callFunc 91 args).run Tryz.prog w = .ok (.enter 91 args) w := by kernel_rfl
theorem e92 (args : Array Value) (w : World) : (callFunc 92 args).run Tryz.prog w = .ok (.enter 92 args) w := by kernel_rfl
theorem e94 (args : Array Value) (w : World) : (callFunc 94 args).run Tryz.prog w = .ok (.enter 94 args) w := by kernel_rfl
theorem e95 (args : Array Value) (w : World) : (callFunc 95 args).run Tryz.prog w = .ok (.enter 95 args) w := by kernel_rfl
theorem e96 (args : Array Value) (w : World) : (callFunc 96 args).run Tryz.prog w = .ok (.enter 96 args) w := by kernel_rfl
theorem e97 (args : Array Value) (w : World) : (callFunc 97 args).run Tryz.prog w = .ok (.enter 97 args) w := by kernel_rfl
theorem e98 (args : Array Value) (w : World) : (callFunc 98 args).run Tryz.prog w = .ok (.enter 98 args) w := by kernel_rfl
theorem e99 (args : Array Value) (w : World) : (callFunc 99 args).run Tryz.prog w = .ok (.enter 99 args) w := by kernel_rfl
theorem e101 (args : Array Value) (w : World) : (callFunc 101 args).run Tryz.prog w = .ok (.enter 101 args) w := by kernel_rfl
theorem e103 (args : Array Value) (w : World) : (callFunc 103 args).run Tryz.prog w = .ok (.enter 103 args) w := by kernel_rfl
theorem e105 (args : Array Value) (w : World) : (callFunc 105 args).run Tryz.prog w = .ok (.enter 105 args) w := by kernel_rfl
theorem e107 (args : Array Value) (w : World) : (callFunc 107 args).run Tryz.prog w = .ok (.enter 107 args) w := by kernel_rfl
theorem e108 (args : Array Value) (w : World) : (callFunc 108 args).run Tryz.prog w = .ok (.enter 108 args) w := by kernel_rfl
theorem e109 (args : Array Value) (w : World) : (callFunc 109 args).run Tryz.prog w = .ok (.enter 109 args) w := by kernel_rfl
theorem e110 (args : Array Value) (w : World) : (callFunc 110 args).run Tryz.prog w = .ok (.enter 110 args) w := by kernel_rfl
theorem e111 (args : Array Value) (w : World) : (callFunc 111 args).run Tryz.prog w = .ok (.enter 111 args) w := by kernel_rfl
theorem e112 (args : Array Value) (w : World) : (callFunc 112 args).run Tryz.prog w = .ok (.enter 112 args) w := by kernel_rfl
theorem e113 (args : Array Value) (w : World) : (callFunc 113 args).run Tryz.prog w = .ok (.enter 113 args) w := by kernel_rfl
theorem e114 (args : Array Value) (w : World) : (callFunc 114 args).run Tryz.prog w = .ok (.enter 114 args) w := by kernel_rfl
theorem e115 (args : Array Value) (w : World) : (callFunc 115 args).run Tryz.prog w = .ok (.enter 115 args) w := by kernel_rfl
theorem e116 (args : Array Value) (w : World) : (callFunc 116 args).run Tryz.prog w = .ok (.enter 116 args) w := by kernel_rfl
theorem e118 (args : Array Value) (w : World) : (callFunc 118 args).run Tryz.prog w = .ok (.enter 118 args) w := by kernel_rfl
theorem e119 (args : Array Value) (w : World) : (callFunc 119 args).run Tryz.prog w = .ok (.enter 119 args) w := by kernel_rfl
theorem e121 (args : Array Value) (w : World) : (callFunc 121 args).run Tryz.prog w = .ok (.enter 121 args) w := by kernel_rfl
theorem e122 (args : Array Value) (w : World) : (callFunc 122 args).run Tryz.prog w = .ok (.enter 122 args) w := by kernel_rfl
theorem e123 (args : Array Value) (w : World) : (callFunc 123 args).run Tryz.prog w = .ok (.enter 123 args) w := by kernel_rfl
theorem e124 (args : Array Value) (w : World) : (callFunc 124 args).run Tryz.prog w = .ok (.enter 124 args) w := by kernel_rfl
theorem e125 (args : Array Value) (w : World) : (callFunc 125 args).run Tryz.prog w = .ok (.enter 125 args) w := by kernel_rfl
theorem e126 (args : Array Value) (w : World) : (callFunc 126 args).run Tryz.prog w = .ok (.enter 126 args) w := by kernel_rfl
theorem e127 (args : Array Value) (w : World) : (callFunc 127 args).run Tryz.prog w = .ok (.enter 127 args) w := by kernel_rfl
theorem e129 (args : Array Value) (w : World) : (callFunc 129 args).run Tryz.prog w = .ok (.enter 129 args) w := by kernel_rfl
theorem e131 (args : Array Value) (w : World) : (callFunc 131 args).run Tryz.prog w = .ok (.enter 131 args) w := by kernel_rfl
theorem e132 (args : Array Value) (w : World) : (callFunc 132 args).run Tryz.prog w = .ok (.enter 132 args) w := by kernel_rfl
theorem e133 (args : Array Value) (w : World) : (callFunc 133 args).run Tryz.prog w = .ok (.enter 133 args) w := by kernel_rfl
theorem e134 (args : Array Value) (w : World) : (callFunc 134 args).run Tryz.prog w = .ok (.enter 134 args) w := by kernel_rfl
theorem e135 (args : Array Value) (w : World) : (callFunc 135 args).run Tryz.prog w = .ok (.enter 135 args) w := by kernel_rfl
theorem e136 (args : Array Value) (w : World) : (callFunc 136 args).run Tryz.prog w = .ok (.enter 136 args) w := by kernel_rfl
theorem e137 (args : Array Value) (w : World) : (callFunc 137 args).run Tryz.prog w = .ok (.enter 137 args) w := by kernel_rfl
theorem e138 (args : Array Value) (w : World) : (callFunc 138 args).run Tryz.prog w = .ok (.enter 138 args) w := by kernel_rfl
theorem e139 (args : Array Value) (w : World) : (callFunc 139 args).run Tryz.prog w = .ok (.enter 139 args) w := by kernel_rfl
theorem e140 (args : Array Value) (w : World) : (callFunc 140 args).run Tryz.prog w = .ok (.enter 140 args) w := by kernel_rfl
theorem e143 (args : Array Value) (w : World) : (callFunc 143 args).run Tryz.prog w = .ok (.enter 143 args) w := by kernel_rfl
theorem e145 (args : Array Value) (w : World) : (callFunc 145 args).run Tryz.prog w = .ok (.enter 145 args) w := by kernel_rfl
theorem e148 (args : Array Value) (w : World) : (callFunc 148 args).run Tryz.prog w = .ok (.enter 148 args) w := by kernel_rfl
theorem e149 (args : Array Value) (w : World) : (callFunc 149 args).run Tryz.prog w = .ok (.enter 149 args) w := by kernel_rfl
theorem e150 (args : Array Value) (w : World) : (callFunc 150 args).run Tryz.prog w = .ok (.enter 150 args) w := by kernel_rfl
theorem e151 (args : Array Value) (w : World) : (callFunc 151 args).run Tryz.prog w = .ok (.enter 151 args) w := by kernel_rfl
theorem e152 (args : Array Value) (w : World) : (callFunc 152 args).run Tryz.prog w = .ok (.enter 152 args) w := by kernel_rfl
theorem e153 (args : Array Value) (w : World) : (callFunc 153 args).run Tryz.prog w = .ok (.enter 153 args) w := by kernel_rfl
theorem e154 (args : Array Value) (w : World) : (callFunc 154 args).run Tryz.prog w = .ok (.enter 154 args) w := by kernel_rfl
theorem e155 (args : Array Value) (w : World) : (callFunc 155 args).run Tryz.prog w = .ok (.enter 155 args) w := by kernel_rfl
theorem e156 (args : Array Value) (w : World) : (callFunc 156 args).run Tryz.prog w = .ok (.enter 156 args) w := by kernel_rfl
theorem e157 (args : Array Value) (w : World) : (callFunc 157 args).run Tryz.prog w = .ok (.enter 157 args) w := by kernel_rfl
theorem e158 (args : Array Value) (w : World) : (callFunc 158 args).run Tryz.prog w = .ok (.enter 158 args) w := by kernel_rfl
theorem e159 (args : Array Value) (w : World) : (callFunc 159 args).run Tryz.prog w = .ok (.enter 159 args) w := by kernel_rfl
theorem e160 (args : Array Value) (w : World) : (callFunc 160 args).run Tryz.prog w = .ok (.enter 160 args) w := by kernel_rfl
theorem e161 (args : Array Value) (w : World) : (callFunc 161 args).run Tryz.prog w = .ok (.enter 161 args) w := by kernel_rfl
theorem e162 (args : Array Value) (w : World) : (callFunc 162 args).run Tryz.prog w = .ok (.enter 162 args) w := by kernel_rfl
theorem e163 (args : Array Value) (w : World) : (callFunc 163 args).run Tryz.prog w = .ok (.enter 163 args) w := by kernel_rfl
theorem e165 (args : Array Value) (w : World) : (callFunc 165 args).run Tryz.prog w = .ok (.enter 165 args) w := by kernel_rfl
theorem e166 (args : Array Value) (w : World) : (callFunc 166 args).run Tryz.prog w = .ok (.enter 166 args) w := by kernel_rfl
theorem e167 (args : Array Value) (w : World) : (callFunc 167 args).run Tryz.prog w = .ok (.enter 167 args) w := by kernel_rfl
theorem e168 (args : Array Value) (w : World) : (callFunc 168 args).run Tryz.prog w = .ok (.enter 168 args) w := by kernel_rfl
theorem e169 (args : Array Value) (w : World) : (callFunc 169 args).run Tryz.prog w = .ok (.enter 169 args) w := by kernel_rfl
theorem e170 (args : Array Value) (w : World) : (callFunc 170 args).run Tryz.prog w = .ok (.enter 170 args) w := by kernel_rfl
theorem e171 (args : Array Value) (w : World) : (callFunc 171 args).run Tryz.prog w = .ok (.enter 171 args) w := by kernel_rfl
theorem e172 (args : Array Value) (w : World) : (callFunc 172 args).run Tryz.prog w = .ok (.enter 172 args) w := by kernel_rfl
theorem e173 (args : Array Value) (w : World) : (callFunc 173 args).run Tryz.prog w = .ok (.enter 173 args) w := by kernel_rfl
theorem e174 (args : Array Value) (w : World) : (callFunc 174 args).run Tryz.prog w = .ok (.enter 174 args) w := by kernel_rfl
theorem e176 (args : Array Value) (w : World) : (callFunc 176 args).run Tryz.prog w = .ok (.enter 176 args) w := by kernel_rfl
theorem e177 (args : Array Value) (w : World) : (callFunc 177 args).run Tryz.prog w = .ok (.enter 177 args) w := by kernel_rfl
theorem e178 (args : Array Value) (w : World) : (callFunc 178 args).run Tryz.prog w = .ok (.enter 178 args) w := by kernel_rfl
theorem e179 (args : Array Value) (w : World) : (callFunc 179 args).run Tryz.prog w = .ok (.enter 179 args) w := by kernel_rfl
theorem e180 (args : Array Value) (w : World) : (callFunc 180 args).run Tryz.prog w = .ok (.enter 180 args) w := by kernel_rfl
theorem e211 (args : Array Value) (w : World) : (callFunc 211 args).run Tryz.prog w = .ok (.enter 211 args) w := by kernel_rfl
theorem find_mem : ∀ {l : List (Nat × Func)} {f : Nat} {fn : Func}, findX l f = some fn → (f, fn) ∈ l
  | [], _, _, h => by cases h
  | (g, gn) :: l, f, fn, h => by
    unfold findX at h
    split at h
    · rename_i hg
      have hg := Nat.eq_of_beq_eq_true hg
      have h := Option.some.inj h
      subst hg; subst h
      exact List.mem_cons_self
    · exact List.mem_cons_of_mem _ (find_mem h)
def RowOk (x : Nat × Func) : Prop := Tryz.prog.funcs[x.1]? = some x.2 ∧ ∀ args w, (callFunc x.1 args).run Tryz.prog w = .ok (.enter x.1 args) w
inductive AllR : List (Nat × Func) → Prop
  | nil : AllR []
  | cons {x : Nat × Func} {l : List (Nat × Func)} (h : RowOk x) (t : AllR l) : AllR (x :: l)
theorem AllR.mem : ∀ {l : List (Nat × Func)}, AllR l → ∀ x ∈ l, RowOk x
  | _, .nil, x, hx => by cases hx
  | _, .cons h t, x, hx => by
    rcases List.mem_cons.1 hx with rfl | hx
    · exact h
    · exact t.mem x hx
theorem tab_all : AllR tabX := .cons ⟨Tryz.func120, e120⟩ (.cons ⟨Tryz.func147, e147⟩ (.cons ⟨Tryz.func175, e175⟩ (.cons ⟨Tryz.func164, e164⟩ (.cons ⟨Tryz.func210, e210⟩ (.cons ⟨Tryz.func104, e104⟩ (.cons ⟨Tryz.func106, e106⟩ (.cons ⟨Tryz.func102, e102⟩ (.cons ⟨Tryz.func93, e93⟩ (.cons ⟨Tryz.func38, e38⟩ (.cons ⟨Tryz.func40, e40⟩ (.cons ⟨Tryz.func41, e41⟩ (.cons ⟨Tryz.func42, e42⟩ (.cons ⟨Tryz.func43, e43⟩ (.cons ⟨Tryz.func44, e44⟩ (.cons ⟨Tryz.func45, e45⟩ (.cons ⟨Tryz.func48, e48⟩ (.cons ⟨Tryz.func64, e64⟩ (.cons ⟨Tryz.func65, e65⟩ (.cons ⟨Tryz.func66, e66⟩ (.cons ⟨Tryz.func67, e67⟩ (.cons ⟨Tryz.func68, e68⟩ (.cons ⟨Tryz.func69, e69⟩ (.cons ⟨Tryz.func70, e70⟩ (.cons ⟨Tryz.func71, e71⟩ (.cons ⟨Tryz.func72, e72⟩ (.cons ⟨Tryz.func77, e77⟩ (.cons ⟨Tryz.func87, e87⟩ (.cons ⟨Tryz.func88, e88⟩ (.cons ⟨Tryz.func89, e89⟩ (.cons ⟨Tryz.func90, e90⟩ (.cons ⟨Tryz.func91, e91⟩ (.cons ⟨Tryz.func92, e92⟩ (.cons ⟨Tryz.func94, e94⟩ (.cons ⟨Tryz.func95, e95⟩ (.cons ⟨Tryz.func96, e96⟩ (.cons ⟨Tryz.func97, e97⟩ (.cons ⟨Tryz.func98, e98⟩ (.cons ⟨Tryz.func99, e99⟩ (.cons ⟨Tryz.func101, e101⟩ (.cons ⟨Tryz.func103, e103⟩ (.cons ⟨Tryz.func105, e105⟩ (.cons ⟨Tryz.func107, e107⟩ (.cons ⟨Tryz.func108, e108⟩ (.cons ⟨Tryz.func109, e109⟩ (.cons ⟨Tryz.func110, e110⟩ (.cons ⟨Tryz.func111, e111⟩ (.cons ⟨Tryz.func112, e112⟩ (.cons ⟨Tryz.func113, e113⟩ (.cons ⟨Tryz.func114, e114⟩ (.cons ⟨Tryz.func115, e115⟩ (.cons ⟨Tryz.func116, e116⟩ (.cons ⟨Tryz.func118, e118⟩ (.cons ⟨Tryz.func119, e119⟩ (.cons ⟨Tryz.func121, e121⟩ (.cons ⟨Tryz.func122, e122⟩ (.cons ⟨Tryz.func123, e123⟩ (.cons ⟨Tryz.func124, e124⟩ (.cons ⟨Tryz.func125, e125⟩ (.cons ⟨Tryz.func126, e126⟩ (.cons ⟨Tryz.func127, e127⟩ (.cons ⟨Tryz.func129, e129⟩ (.cons ⟨Tryz.func131, e131⟩ (.cons ⟨Tryz.func132, e132⟩ (.cons ⟨Tryz.func133, e133⟩ (.cons ⟨Tryz.func134, e134⟩ (.cons ⟨Tryz.func135, e135⟩ (.cons ⟨Tryz.func136, e136⟩ (.cons ⟨Tryz.func137, e137⟩ (.cons ⟨Tryz.func138, e138⟩ (.cons ⟨Tryz.func139, e139⟩ (.cons ⟨Tryz.func140, e140⟩ (.cons ⟨Tryz.func143, e143⟩ (.cons ⟨Tryz.func145, e145⟩ (.cons ⟨Tryz.func148, e148⟩ (.cons ⟨Tryz.func149, e149⟩ (.cons ⟨Tryz.func150, e150⟩ (.cons ⟨Tryz.func151, e151⟩ (.cons ⟨Tryz.func152, e152⟩ (.cons ⟨Tryz.func153, e153⟩ (.cons ⟨Tryz.func154, e154⟩ (.cons ⟨Tryz.func155, e155⟩ (.cons ⟨Tryz.func156, e156⟩ (.cons ⟨Tryz.func157, e157⟩ (.cons ⟨Tryz.func158, e158⟩ (.cons ⟨Tryz.func159, e159⟩ (.cons ⟨Tryz.func160, e160⟩ (.cons ⟨Tryz.func161, e161⟩ (.cons ⟨Tryz.func162, e162⟩ (.cons ⟨Tryz.func163, e163⟩ (.cons ⟨Tryz.func165, e165⟩ (.cons ⟨Tryz.func166, e166⟩ (.cons ⟨Tryz.func167, e167⟩ (.cons ⟨Tryz.func168, e168⟩ (.cons ⟨Tryz.func169, e169⟩ (.cons ⟨Tryz.func170, e170⟩ (.cons ⟨Tryz.func171, e171⟩ (.cons ⟨Tryz.func172, e172⟩ (.cons ⟨Tryz.func173, e173⟩ (.cons ⟨Tryz.func174, e174⟩ (.cons ⟨Tryz.func176, e176⟩ (.cons ⟨Tryz.func177, e177⟩ (.cons ⟨Tryz.func178, e178⟩ (.cons ⟨Tryz.func179, e179⟩ (.cons ⟨Tryz.func180, e180⟩ (.cons ⟨Tryz.func211, e211⟩ .nil)))))))))))))))))))))))))))))))))))))))))))))))))))))))))))))))))))))))))))))))))))))))))))))))))))))))))
theorem find_ok : FindOk (findX tabX) := fun f fn h => tab_all.mem (f, fn) (find_mem h)
end Go.Proofs.YtiegapnfbeemcaaGreatDoor.X
