/-
  Points: doubled, added, multiplied. No condition.
-/
import Derived.Test.YtiegapnfbeemcaaGreatDoorA05
import Derived.Test.YtiegapnfbeemcaaGreatDoorA65
import Derived.Test.YtiegapnfbeemcaaGreatDoorA63
import Derived.Deep.RegionHeld3
namespace Go.Proofs.YtiegapnfbeemcaaGreatDoor
set_option maxRecDepth 100000
open Go.RowKit

def codeK (tab : Tab) (N : Nat) (res : Nat × Kd) : Code → List (Nat × Kd) → Option (List (Nat × Kd))
  | .skip, E => some E
  | .ret, E => if E.lookup res.1 = some res.2 then some E else none
  | .seq x y, E => match codeK tab N res x E with
    | some E1 => codeK tab N res y E1
    | none => none
  | .region _ ops _, E => match regK tab N E ops.toList [] with
    | some ks => some (E ++ ks.filterMap id)
    | none => none
  | .cond (.tmp t) x y, E => if E.lookup t = some (3, 0) then (match codeK tab N res x E, codeK tab N res y E with
    | some _, some _ => some E
    | _, _ => none) else none
  | _, _ => none

structure EV (B N : Nat) (df : List Deferred) (w0 : World) (E : List (Nat × Kd)) (a : Act) (w : World) : Prop where
  size : a.tmps.size = N
  defers : a.defers = df
  big : B ≤ w.heap.size
  step : RR B w0 w
  old : ∀ t k, E.lookup t = some k → VV B k (a.tmps.getD t undef) w
structure RV (B : Nat) (df : List Deferred) (w0 : World) (res : Nat × Kd) (a : Act) (w : World) : Prop where
  defers : a.defers = df
  step : RR B w0 w
  out : VV B res.2 (a.tmps.getD res.1 undef) w

section
variable {B N : Nat} {df : List Deferred} {w0 : World} {tab : Tab} {res : Nat × Kd}
theorem grows : ∀ (c : Code) (E E' : List (Nat × Kd)), codeK tab N res c E = some E' → ∃ E2, E' = E ++ E2 := by
  intro c
  induction c with
  | skip => intro E E' h; injection h with h; exact ⟨[], by simp [h]⟩
  | ret => intro E E' h; unfold codeK at h; split at h <;> cases h; exact ⟨[], by simp⟩
  | seq x y ihx ihy =>
    intro E E' h
    unfold codeK at h
    split at h
    · rename_i E1 h1
      obtain ⟨E2, rfl⟩ := ihx _ _ h1
      obtain ⟨E3, rfl⟩ := ihy _ _ h
      exact ⟨E2 ++ E3, by simp⟩
    · cases h
  | region n ops b =>
    intro E E' h
    unfold codeK at h
    split at h
    · injection h with h; exact ⟨_, h.symm⟩
    · cases h
  | cond c x y _ _ =>
    intro E E' h
    cases c <;> unfold codeK at h
    case tmp t =>
      split at h
      · split at h <;> cases h
        exact ⟨[], by simp⟩
      · cases h
    all_goals cases h
  | _ => intro E E' h; cases h

theorem code_sound (hT : ∀ x ∈ tab, FnOk x) : ∀ (c : Code) (E E' : List (Nat × Kd)), codeK tab N res c E = some E' → ∀ (Q : Exit → Act → World → Prop) (a : Act) (w : World), EV B N df w0 E a w →
    (∀ a w, EV B N df w0 E' a w → Q .normal a w) → (∀ a w, RV B df w0 res a w → Q .ret a w) → c.wp Tryz.prog Q a w := by
  intro c
  induction c with
  | skip => intro E E' h Q a w hI hn _; injection h with h; subst h; exact wp_skip (hn a w hI)
  | ret =>
    intro E E' h Q a w hI _ hr
    unfold codeK at h
    split at h
    case isFalse => cases h
    rename_i hl
    exact wp_ret (hr a w ⟨hI.defers, hI.step, hI.old _ _ hl⟩)
  | seq x y ihx ihy =>
    intro E E' h Q a w hI hn hr
    unfold codeK at h
    split at h
    case h_2 => cases h
    rename_i E1 h1
    exact wp_seq (ihx E E1 h1 _ a w hI (fun a' w' h' => ihy E1 E' h Q a' w' h' hn hr) (fun a' w' h' => hr a' w' h'))
  | region n ops b =>
    intro E E' h Q a w hI hn _
    unfold codeK at h
    split at h
    case h_2 => cases h
    rename_i ks hks
    injection h with h
    subst h
    have hlen := (regK_spec _ _ hks).1
    have hQ : ∀ a w, IV B N df w0 E ks (fun _ => True) a w → Q .normal a w := fun a w h => hn a w ⟨h.size, h.defers, h.big, h.step, fun t k ht => by
      rw [List.lookup_append] at ht
      cases hl : E.lookup t with
      | some k' =>
        rw [hl] at ht
        have : k' = k := by simpa using ht
        subst this
        exact h.old t k' hl
      | none =>
        rw [hl] at ht
        have hm := lookup_mem (by simpa using ht : (ks.filterMap id).lookup t = some k)
        obtain ⟨x, hx, hxx⟩ := List.mem_filterMap.1 hm
        simp only [id] at hxx
        subst hxx
        obtain ⟨i, hi⟩ := List.getElem?_of_mem hx
        exact h.new i t k trivial hi⟩
    cases b with
    | false =>
      exact wp_region_list (seq_sound hT hks hQ ops.toList 0 rfl a w ⟨hI.size, hI.defers, hI.big, hI.step, hI.old, fun i d k hi => absurd hi (Nat.not_lt_zero i)⟩)
    | true =>
      have hd := rr_draw B w
      have := any_sound hT hks hQ ops.size (Array.replicate ops.size false) a { w with drawn := w.drawn + 1 } (by simp) (by simp) ⟨hI.size, hI.defers, hI.big, hI.step.trans hd, fun t k ht => (hI.old t k ht).mono hd, fun i d k hi => by
        rw [Array.getD_eq_getD_getElem?, Array.getElem?_replicate] at hi
        split at hi <;> cases hi⟩
      rw [Array.toArray_toList] at this
      exact wp_region_any (by kernel_rfl) this
  | cond c x y ihx ihy =>
    intro E E' h Q a w hI hn hr
    cases c <;> unfold codeK at h
    case tmp t =>
      split at h
      case isFalse => cases h
      rename_i ht
      split at h
      case h_2 => cases h
      rename_i E1 E2 h1 h2
      injection h with h
      subst h
      obtain ⟨b, hb⟩ := (hI.old _ _ ht).b
      have hcut : ∀ E3, (∃ E4, E3 = E ++ E4) → ∀ a w, EV B N df w0 E3 a w → EV B N df w0 E a w := fun E3 ⟨E4, he⟩ a w h => ⟨h.size, h.defers, h.big, h.step, fun t k ht => h.old t k (by rw [he, List.lookup_append, ht]; rfl)⟩
      refine wp_cond_split (t := b) hb (fun _ => ?_) (fun _ => ?_)
      · exact ihx E E1 h1 Q a w hI (fun a' w' h' => hn a' w' (hcut _ (grows _ _ _ h1) a' w' h')) hr
      · exact ihy E E2 h2 Q a w hI (fun a' w' h' => hn a' w' (hcut _ (grows _ _ _ h2) a' w' h')) hr
    all_goals cases h
  | _ => intro E E' h; cases h

theorem VV.val {B B' : Nat} {k : Kd} {v : Value} {w w' : World} (hk : k.1 < 4) (h : VV B k v w) : VV B' k v w' := by
  rcases h with h | h | h | h | ⟨ht, _⟩
  · exact .inl h
  · exact .inr (.inl h)
  · exact .inr (.inr (.inl h))
  · exact .inr (.inr (.inr (.inl h)))
  · omega
theorem Args.val {B B' : Nat} {w w' : World} : ∀ {ks : List Kd} {vs : List Value}, ks.all (fun k => decide (k.1 < 4)) = true → Args B w ks vs → Args B' w' ks vs
  | [], [], _, _ => trivial
  | k :: ks, v :: vs, hk, h => by
    rw [List.all_cons, Bool.and_eq_true] at hk
    exact ⟨h.1.val (of_decide_eq_true hk.1), Args.val hk.2 h.2⟩
  | [], _ :: _, _, h => h.elim
  | _ :: _, [], _, h => h.elim
/-- Where the arguments lie. -/
def argE : Nat → List Kd → List (Nat × Kd)
  | _, [] => []
  | i, k :: ks => (i, k) :: argE (i + 1) ks
theorem argE_at {B : Nat} {w : World} : ∀ (ks : List Kd) (vs : List Value) (i : Nat), Args B w ks vs → ∀ t k, (argE i ks).lookup t = some k → ∃ v, i ≤ t ∧ vs[t - i]? = some v ∧ VV B k v w
  | [], _, _, _, t, k, h => by cases h
  | _ :: _, [], _, h, _, _, _ => h.elim
  | k0 :: ks, v0 :: vs, i, hA, t, k, h => by
    unfold argE List.lookup at h
    split at h
    · rename_i hb
      have := eq_of_beq hb
      subst this
      injection h with h
      subst h
      exact ⟨v0, Nat.le_refl _, by simp, hA.1⟩
    · obtain ⟨v, h1, h2, h3⟩ := argE_at ks vs (i + 1) hA.2 t k h
      refine ⟨v, by omega, ?_, h3⟩
      rw [show t - i = (t - (i + 1)) + 1 by omega, List.getElem?_cons_succ]
      exact h2

/-- What comes out of the cell of the result. -/
theorem res_of {B : Nat} {fn : Func} {r t : Nat} {k : Kd} (h : fn.results = #[.cell r t]) (hk : (t, k) = (26, (0, 0)) ∨ (t, k) = (41, (1, 0)) ∨ (t, k) = (28, (2, 0))) {tmps : Array Value} {w : World} (hv : VV B (t, 0) (tmps.getD r undef) w) :
    ∃ v, (results fn tmps).run Tryz.prog w = .ok v w ∧ VV B k v w := by
  rcases hk with hk | hk | hk <;> (injection hk with h1 h2; subst h1; subst h2; obtain ⟨g, _, hp, ht⟩ := hv.at (by decide))
  · obtain ⟨f, hf, hb⟩ := ht.n
    exact ⟨_, results_cell_row h tmps w g 26 _ (0, 0) _ hp hb Tryz.underlying26 rfl (size26.trans rfl), .of_n hf⟩
  · obtain ⟨x, y, z, h1, h2, h3, hb⟩ := ht.j
    exact ⟨_, res41 h tmps w g x y z hp hb, .of_j h1 h2 h3⟩
  · obtain ⟨x, y, b, h1, h2, hb⟩ := ht.p
    exact ⟨_, res28 h tmps w g x y b hp hb, .of_p h1 h2⟩

theorem hk4 {t : Nat} {k : Kd} (hk : (t, k) = (26, (0, 0)) ∨ (t, k) = (41, (1, 0)) ∨ (t, k) = (28, (2, 0))) : k.1 < 4 := by
  rcases hk with hk | hk | hk <;> (injection hk with h1 h2; subst h2; decide)
def fnK (tab : Tab) (fn : Func) (c : Code) (ks : List Kd) (r : Nat) (t : Nat) : Bool :=
  decide (ks.length ≤ fn.ntmps) && ks.all (fun k => decide (k.1 < 4)) && match codeK tab fn.ntmps (r, (t, 0)) c (argE 0 ks) with
  | some E => E.lookup r == some (t, 0)
  | none => false
theorem fn_sound {tab : Tab} (hT : ∀ x ∈ tab, FnOk x) {f : FuncId} {fn : Func} {c : Code} (hf : Tryz.prog.funcs[f]? = some fn) (hb : fn.body = some c) {ks : List Kd} {r t : Nat} {k : Kd} (hres : fn.results = #[.cell r t])
    (hk : (t, k) = (26, (0, 0)) ∨ (t, k) = (41, (1, 0)) ∨ (t, k) = (28, (2, 0))) (hc : fnK tab fn c ks r t = true) (hrun : ∀ args w, (callFunc f args).run Tryz.prog w = .ok (.enter f args) w) : FnOk (f, ks, k) := by
  refine ⟨hrun, fun B args w hB hA => ?_⟩
  unfold fnK at hc
  rw [Bool.and_eq_true, Bool.and_eq_true] at hc
  obtain ⟨⟨hn, hv⟩, hc⟩ := hc
  have hn := of_decide_eq_true hn
  replace hA : Args w.heap.size w ks args := hA.val hv
  split at hc
  case h_2 => cases hc
  rename_i E' hE'
  have hl := eq_of_beq hc
  have hlen : ∀ (ks : List Kd) (vs : List Value), Args w.heap.size w ks vs → vs.length = ks.length := by
    intro ks
    induction ks with
    | nil => intro vs h; cases vs with
      | nil => rfl
      | cons => exact h.elim
    | cons k ks ih => intro vs h; cases vs with
      | nil => exact h.elim
      | cons v vs => simp [ih vs h.2]
  have hal := hlen _ _ hA
  refine calls_of_wp hf hb (code_sound (B := w.heap.size) (N := fn.ntmps) (df := []) (w0 := w) hT c _ _ hE' _ _ _ ⟨?_, rfl, Nat.le_refl _, RR.refl _ _, fun t' k' ht' => ?_⟩ (fun a w' h => ?_) (fun a w' h => ?_))
  · simp [hal]; omega
  · obtain ⟨v, _, hv, hvv⟩ := argE_at ks args 0 hA t' k' ht'
    have hlt : t' < args.length := by
      have := (List.getElem?_eq_some_iff.1 hv).1; omega
    rw [Array.getD_eq_getD_getElem?, Array.getElem?_append_left (by simpa using hlt)]
    have : args.toArray[t']? = some v := by simpa using hv
    rw [this]; exact hvv
  · obtain ⟨v, h1, h2⟩ := res_of (B := w.heap.size) hres hk (h.old _ _ hl)
    exact ⟨h.defers, v, h1, v, rfl, h2.val (hk4 hk), h.step.1⟩
  · obtain ⟨v, h1, h2⟩ := res_of (B := w.heap.size) hres hk h.out
    exact ⟨h.defers, v, h1, v, rfl, h2.val (hk4 hk), h.step.1⟩

/-- A function whose code is walked by hand in part. -/
theorem fn_of_code {f : FuncId} {fn : Func} {c : Code} (hf : Tryz.prog.funcs[f]? = some fn) (hb : fn.body = some c) {ks : List Kd} {r t : Nat} {k : Kd} (hres : fn.results = #[.cell r t])
    (hk : (t, k) = (26, (0, 0)) ∨ (t, k) = (41, (1, 0)) ∨ (t, k) = (28, (2, 0))) (hn : ks.length ≤ fn.ntmps) (hv : ks.all (fun k => decide (k.1 < 4)) = true) (hrun : ∀ args w, (callFunc f args).run Tryz.prog w = .ok (.enter f args) w)
    (hc : ∀ (a : Act) (w : World) (Q : Exit → Act → World → Prop), EV w.heap.size fn.ntmps [] w (argE 0 ks) a w → (∀ a' w', RV w.heap.size [] w (r, (t, 0)) a' w' → Q .normal a' w' ∧ Q .ret a' w') → c.wp Tryz.prog Q a w) : FnOk (f, ks, k) := by
  refine ⟨hrun, fun B args w hB hA => ?_⟩
  replace hA : Args w.heap.size w ks args := hA.val hv
  have hlen : ∀ (ks : List Kd) (vs : List Value), Args w.heap.size w ks vs → vs.length = ks.length := by
    intro ks
    induction ks with
    | nil => intro vs h; cases vs with
      | nil => rfl
      | cons => exact h.elim
    | cons k ks ih => intro vs h; cases vs with
      | nil => exact h.elim
      | cons v vs => simp [ih vs h.2]
  have hal := hlen _ _ hA
  have hend : ∀ a' w', RV w.heap.size [] w (r, (t, 0)) a' w' → bodyPost Tryz.prog fn (fun e w' => ∃ v, e = .returned v ∧ VV B k v w' ∧ Below w.heap.size w w') .normal a' w' := fun a' w' h => by
    obtain ⟨v, h1, h2⟩ := res_of (B := w.heap.size) hres hk h.out
    exact ⟨h.defers, v, h1, v, rfl, h2.val (hk4 hk), h.step.1⟩
  refine calls_of_wp hf hb (hc _ _ _ ⟨?_, rfl, Nat.le_refl _, RR.refl _ _, fun t' k' ht' => ?_⟩ fun a' w' h => ⟨hend a' w' h, hend a' w' h⟩)
  · simp [hal]; omega
  · obtain ⟨v, _, hv, hvv⟩ := argE_at ks args 0 hA t' k' ht'
    have hlt : t' < args.length := by
      have := (List.getElem?_eq_some_iff.1 hv).1; omega
    rw [Array.getD_eq_getD_getElem?, Array.getElem?_append_left (by simpa using hlt)]
    have : args.toArray[t']? = some v := by simpa using hv
    rw [this]; exact hvv

theorem getD_put (a : Act) (d t : Nat) (v : Value) (h : d < a.tmps.size) : (a.put (some d) v).tmps.getD t undef = if t = d then v else a.tmps.getD t undef := by
  show (a.tmps.setIfInBounds d v).getD t undef = _
  rw [Array.getD_eq_getD_getElem?, Array.getD_eq_getD_getElem?, Array.getElem?_setIfInBounds]
  by_cases htd : d = t
  · subst htd
    rw [if_pos rfl, if_pos rfl, if_pos h]; rfl
  · rw [if_neg htd, if_neg (fun h => htd h.symm)]
theorem EV.put {E : List (Nat × Kd)} {a : Act} {w : World} (h : EV B N df w0 E a w) {d : Nat} (hd : E.lookup d = none) (hN : d < N) (v : Value) : EV B N df w0 E (a.put (some d) v) w :=
  ⟨by show (a.tmps.setIfInBounds d v).size = N; rw [Array.size_setIfInBounds]; exact h.size, h.defers, h.big, h.step, fun t k ht => by
    rw [getD_put a d t v (by rw [h.size]; exact hN), if_neg (fun e => by rw [e, hd] at ht; cases ht)]
    exact h.old t k ht⟩
theorem EV.add {E : List (Nat × Kd)} {a : Act} {w w' : World} (h : EV B N df w0 E a w) {d : Nat} (hd : E.lookup d = none) (hN : d < N) {v : Value} {k : Kd} (hr : RR B w w') (hv : VV B k v w') : EV B N df w0 (E ++ [(d, k)]) (a.put (some d) v) w' :=
  ⟨by show (a.tmps.setIfInBounds d v).size = N; rw [Array.size_setIfInBounds]; exact h.size, h.defers, Nat.le_trans h.big hr.1.size, h.step.trans hr, fun t k' ht => by
    rw [getD_put a d t v (by rw [h.size]; exact hN)]
    rw [List.lookup_append] at ht
    by_cases htd : t = d
    · subst htd
      rw [hd] at ht
      have : k = k' := by simpa [List.lookup] using ht
      rw [if_pos rfl, ← this]; exact hv
    · rw [if_neg htd]
      cases hl : E.lookup t with
      | some k2 => rw [hl] at ht; have : k2 = k' := by simpa using ht
                   rw [← this]; exact (h.old t k2 hl).mono hr
      | none =>
        rw [hl] at ht
        have hm := lookup_mem (by simpa using ht : [(d, k)].lookup t = some k')
        have := List.mem_singleton.1 hm
        injection this with h1 h2
        exact absurd h1 htd⟩
/-- One operation at the list of a plain region. -/
theorem ev_op (hT : ∀ x ∈ tab, FnOk x) {E : List (Nat × Kd)} {ops : Array Oper} {rest : List Oper} {o : Oper} {a : Act} {w : World} {Q : Exit → Act → World → Prop} (hw : Region.wanted o (yielded ops a.tmps) = true) (d : Nat) (k : Kd)
    (hk : opK tab (fun t => E.lookup t) o.op = some (some k)) (hd : o.dst = some d) (hE : E.lookup d = none) (hN : d < N) (hI : EV B N df w0 E a w)
    (h : ∀ a' w' v, a' = a.put (some d) v → EV B N df w0 (E ++ [(d, k)]) a' w' → wpList Tryz.prog ops Q rest a' w') : wpList Tryz.prog ops Q (o :: rest) a w :=
  wpList_step fun K hK => by
    rw [if_pos hw]
    refine op_sound (B := B) hT hk (fun t k ht => hI.old t k ht) hI.big (fun v w' hv hR => hK _ _ ?_)
    rw [hd]
    exact h _ w' v rfl (hI.add hE hN hR (hv k rfl))
theorem EV.mid {E L : List (Nat × Kd)} {d : Nat} {k : Kd} {a : Act} {w : World} (h : EV B N df w0 (E ++ L ++ [(d, k)]) a w) (hL : L.lookup d = none) : EV B N df w0 (E ++ [(d, k)]) a w :=
  ⟨h.size, h.defers, h.big, h.step, fun t k' ht => h.old t k' (by
    rw [List.lookup_append] at ht ⊢
    rw [List.lookup_append]
    cases hl : E.lookup t with
    | some k2 => rw [hl] at ht; exact ht
    | none =>
      rw [hl] at ht
      have ht : [(d, k)].lookup t = some k' := by simpa using ht
      have := List.mem_singleton.1 (lookup_mem ht)
      injection this with h1 h2
      subst h1
      rw [hL, ht]; rfl)⟩
theorem code_some (hT : ∀ x ∈ tab, FnOk x) (res : Nat × Kd) (c : Code) (E : List (Nat × Kd)) (h : (codeK tab N res c E).isSome = true) (Q : Exit → Act → World → Prop) (a : Act) (w : World) (hI : EV B N df w0 E a w)
    (hn : ∀ a w, EV B N df w0 ((codeK tab N res c E).getD []) a w → Q .normal a w) (hr : ∀ a w, RV B df w0 res a w → Q .ret a w) : c.wp Tryz.prog Q a w := by
  obtain ⟨E', hE⟩ := Option.isSome_iff_exists.1 h
  exact code_sound hT c E E' hE Q a w hI (fun a w hh => hn a w (by rw [hE]; exact hh)) hr
theorem wl_move {ops : Array Oper} {rest : List Oper} {o : Oper} {a : Act} {w : World} {Q : Exit → Act → World → Prop} (hg : o.guard = none) (x : Operand) (ho : o.op = .move x) (h : wpList Tryz.prog ops Q rest (a.put o.dst (a.eval x)) w) : wpList Tryz.prog ops Q (o :: rest) a w :=
  wpList_plain hg fun K hK => by
    have := hK _ _ h
    unfold Oper.wp execOp
    simp only [ho]
    exact this
theorem wl_pick {ops : Array Oper} {rest : List Oper} {o : Oper} {a : Act} {w : World} {Q : Exit → Act → World → Prop} (hg : o.guard = none) (c x y : Operand) (ho : o.op = .pick c x y) (b : Bool) (hc : a.eval c = .bool b)
    (h : wpList Tryz.prog ops Q rest (a.put o.dst (if b then a.eval x else a.eval y)) w) : wpList Tryz.prog ops Q (o :: rest) a w :=
  wpList_plain hg fun K hK => by
    have := hK _ _ h
    unfold Oper.wp execOp
    simp only [ho, hc]
    exact this
theorem wanted_at {o : Oper} {ops : Array Oper} {a : Act} {j t : Nat} {want b : Bool} (hg : o.guard = some (j, want)) (hj : (ops[j]?).bind (·.dst) = some t) (h : a.tmps[t]? = some (.bool b)) : Region.wanted o (yielded ops a.tmps) = (some b == some want) := by
  unfold Region.wanted yielded
  rw [hg]
  simp only [hj, Option.bind_some, h]
theorem put_keeps (a : Act) {d t : Nat} (v : Value) (h : d ≠ t) : (a.put (some d) v).tmps[t]? = a.tmps[t]? := by
  show (a.tmps.setIfInBounds d v)[t]? = _
  rw [Array.getElem?_setIfInBounds, if_neg h]
theorem put_here (a : Act) {d : Nat} (v : Value) (h : d < a.tmps.size) : (a.put (some d) v).tmps[d]? = some v := by
  show (a.tmps.setIfInBounds d v)[d]? = _
  rw [Array.getElem?_setIfInBounds, if_pos rfl, if_pos h]
end
end Go.Proofs.YtiegapnfbeemcaaGreatDoor

namespace Go.Proofs.YtiegapnfbeemcaaGreatDoor
set_option maxRecDepth 100000
open Go.RowKit

theorem ok30 : FnOk (30, [], (0, 0)) := ⟨fun args w => by kernel_rfl, fun B args w hB hA => by
  cases args with
  | nil => exact (prime_any w).mono fun e w' ⟨he, hb⟩ => ⟨_, he, .of_n primeF_uu, hb⟩
  | cons => exact hA.elim⟩
theorem args1 {B : Nat} {w : World} {k : Kd} {l : List Value} (h : Args B w [k] l) : ∃ v, l = [v] ∧ VV B k v w := by
  cases l with
  | nil => exact h.elim
  | cons v l => cases l with
    | nil => exact ⟨v, rfl, h.1⟩
    | cons => exact h.2.elim
theorem args2 {B : Nat} {w : World} {k k' : Kd} {l : List Value} (h : Args B w [k, k'] l) : ∃ v v', l = [v, v'] ∧ VV B k v w ∧ VV B k' v' w := by
  cases l with
  | nil => exact h.elim
  | cons v l =>
    obtain ⟨v', rfl, h'⟩ := args1 h.2
    exact ⟨v, v', rfl, h.1, h'⟩
theorem args3 {B : Nat} {w : World} {k k' k'' : Kd} {l : List Value} (h : Args B w [k, k', k''] l) : ∃ v v' v'', l = [v, v', v''] ∧ VV B k v w ∧ VV B k' v' w ∧ VV B k'' v'' w := by
  cases l with
  | nil => exact h.elim
  | cons v l =>
    obtain ⟨v', v'', rfl, h', h''⟩ := args2 h.2
    exact ⟨v, v', v'', rfl, h.1, h', h''⟩
theorem ok31 : FnOk (31, [(0, 0)], (3, 0)) := ⟨fun args w => by kernel_rfl, fun B args w hB hA => by
  obtain ⟨v, rfl, hv⟩ := args1 hA
  obtain ⟨f, hf, rfl⟩ := hv.n
  exact (zero_any f w).mono fun e w' ⟨he, hb⟩ => ⟨_, he, .of_b, hb⟩⟩
theorem ok32 : FnOk (32, [(0, 0), (0, 0)], (0, 0)) := ⟨fun args w => by kernel_rfl, fun B args w hB hA => by
  obtain ⟨v, v', rfl, hv, hv'⟩ := args2 hA
  obtain ⟨f, hf, rfl⟩ := hv.n
  obtain ⟨g, hg, rfl⟩ := hv'.n
  exact (mulp_any f g w hf hg).mono fun e w' ⟨he, hb⟩ => ⟨_, he, .of_n (mulF_uu _ _), hb⟩⟩
theorem ok33 : FnOk (33, [(0, 0), (0, 0), (0, 0)], (0, 0)) := ⟨fun args w => by kernel_rfl, fun B args w hB hA => by
  obtain ⟨v, v', v'', rfl, hv, hv', hv''⟩ := args3 hA
  obtain ⟨f, hf, rfl⟩ := hv.n
  obtain ⟨g, hg, rfl⟩ := hv'.n
  obtain ⟨h, hh, rfl⟩ := hv''.n
  exact (submod_any f g h w hf hg hh).mono fun e w' ⟨he, hb⟩ => ⟨_, he, .of_n (subF_uu _ _ _), hb⟩⟩
theorem ok34 : FnOk (34, [(0, 0), (0, 0), (0, 0)], (0, 0)) := ⟨fun args w => by kernel_rfl, fun B args w hB hA => by
  obtain ⟨v, v', v'', rfl, hv, hv', hv''⟩ := args3 hA
  obtain ⟨f, hf, rfl⟩ := hv.n
  obtain ⟨g, hg, rfl⟩ := hv'.n
  obtain ⟨h, hh, rfl⟩ := hv''.n
  exact (addmod_any f g h w hf hg hh).mono fun e w' ⟨he, hb⟩ => ⟨_, he, .of_n (addF_uu _ _ _), hb⟩⟩

def tab0 : Tab := [(30, [], (0, 0)), (31, [(0, 0)], (3, 0)), (32, [(0, 0), (0, 0)], (0, 0)), (33, [(0, 0), (0, 0), (0, 0)], (0, 0)), (34, [(0, 0), (0, 0), (0, 0)], (0, 0))]
theorem tab0_ok : ∀ x ∈ tab0, FnOk x := fun x hx => by
  simp only [tab0, List.mem_cons, List.not_mem_nil, or_false] at hx
  rcases hx with rfl | rfl | rfl | rfl | rfl
  · exact ok30
  · exact ok31
  · exact ok32
  · exact ok33
  · exact ok34
theorem ok14 : FnOk (14, [(2, 0)], (1, 0)) := fn_sound tab0_ok Tryz.func14 rfl (r := 2) (t := 41) rfl (.inr (.inl rfl)) (by kernel_rfl) (fun args w => by kernel_rfl)

set_option maxHeartbeats 1000000 in
theorem ok16 : FnOk (16, [(1, 0)], (1, 0)) := fn_of_code Tryz.func16 rfl (r := 2) (t := 41) rfl (.inr (.inl rfl)) (by decide) (by decide) (fun args w => by kernel_rfl) (fun a w Q hI hQ => by
  refine wp_seq (code_some tab0_ok (2, (41, 0)) _ _ (by kernel_rfl) _ _ _ hI (fun a w hI => ?_) (fun a' w' h => (hQ a' w' h).2))
  refine wp_seq (code_some tab0_ok (2, (41, 0)) _ _ (by kernel_rfl) _ _ _ hI (fun a w hI => ?_) (fun a' w' h => (hQ a' w' h).2))
  refine wp_seq (wp_seq (wp_region_list ?_))
  refine ev_op tab0_ok rfl 13 (41, 16) (by kernel_rfl) rfl (by kernel_rfl) (by decide) hI (fun a w _ _ hI => ?_)
  refine ev_op tab0_ok rfl 14 (0, 0) (by kernel_rfl) rfl (by kernel_rfl) (by decide) hI (fun a w _ _ hI => ?_)
  refine ev_op tab0_ok rfl 15 (3, 0) (by kernel_rfl) rfl (by kernel_rfl) (by decide) hI (fun a w _ _ hI => ?_)
  obtain ⟨b, hb⟩ := (hI.old 15 (3, 0) (by kernel_rfl)).b
  refine wl_move rfl (.tmp 15) rfl ?_
  have e15 : a.eval (.tmp 15) = .bool b := hb
  rw [e15]
  have hs := hI.size
  have h16 : (a.put (some 16) (.bool b)).tmps[16]? = some (.bool b) := put_here a _ (by rw [hs]; decide)
  replace hI := hI.put (d := 16) (by kernel_rfl) (by decide) (.bool b)
  show wpList Tryz.prog _ _ _ (a.put (some 16) (.bool b)) _
  revert hI h16
  generalize a.put (some 16) (.bool b) = a1
  intro h16 hI
  cases b with
  | true =>
    refine wpList_skip (wanted_at (t := 16) (b := true) (j := 3) (want := false) rfl rfl h16) ?_
    have h17 := (put_keeps a1 (d := 17) (t := 16) undef (by decide)).trans h16
    replace hI := hI.put (d := 17) (by kernel_rfl) (by decide) undef
    show wpList Tryz.prog _ _ _ (a1.put (some 17) undef) _
    revert hI h17
    generalize a1.put (some 17) undef = a2
    intro h17 hI
    refine wpList_skip (wanted_at (t := 16) (b := true) (j := 3) (want := false) rfl rfl h17) ?_
    have h18 := (put_keeps a2 (d := 18) (t := 16) undef (by decide)).trans h17
    replace hI := hI.put (d := 18) (by kernel_rfl) (by decide) undef
    show wpList Tryz.prog _ _ _ (a2.put (some 18) undef) _
    revert hI h18
    generalize a2.put (some 18) undef = a3
    intro h18 hI
    refine wpList_skip (wanted_at (t := 16) (b := true) (j := 3) (want := false) rfl rfl h18) ?_
    have h19 := (put_keeps a3 (d := 19) (t := 16) undef (by decide)).trans h18
    replace hI := hI.put (d := 19) (by kernel_rfl) (by decide) undef
    show wpList Tryz.prog _ _ _ (a3.put (some 19) undef) _
    revert hI h19
    generalize a3.put (some 19) undef = a4
    intro h19 hI
    refine wl_pick rfl (.tmp 16) _ _ rfl true (by show a4.tmps.getD 16 undef = _; rw [Array.getD_eq_getD_getElem?, h19]; rfl) ?_
    replace hI := hI.add (d := 20) (by kernel_rfl) (by decide) (RR.refl _ _) (VV.of_b (b := true))
    show wpList Tryz.prog _ _ _ (a4.put (some 20) (.bool true)) _
    revert hI
    generalize a4.put (some 20) (.bool true) = a5
    intro hI
    refine code_some tab0_ok (2, (41, 0)) _ _ (by kernel_rfl) _ _ _ hI (fun a w hI => ?_) (fun a' w' h => (hQ a' w' h).2)
    exact code_some tab0_ok (2, (41, 0)) _ _ (by kernel_rfl) _ _ _ hI (fun a w hI => (hQ a w ⟨hI.defers, hI.step, hI.old 2 (41, 0) (by kernel_rfl)⟩).1) (fun a' w' h => (hQ a' w' h).2)
  | false =>
    refine ev_op tab0_ok (wanted_at (t := 16) (b := false) (j := 3) (want := false) rfl rfl h16) 17 (41, 8) (by kernel_rfl) rfl (by kernel_rfl) (by decide) hI (fun a2 w2 v2 e2 hI => ?_)
    have h17 : a2.tmps[16]? = some (.bool false) := by rw [e2, put_keeps a1 v2 (by decide)]; exact h16
    clear e2
    refine ev_op tab0_ok (wanted_at (t := 16) (b := false) (j := 3) (want := false) rfl rfl h17) 18 (0, 0) (by kernel_rfl) rfl (by kernel_rfl) (by decide) hI (fun a3 w3 v3 e3 hI => ?_)
    have h18 : a3.tmps[16]? = some (.bool false) := by rw [e3, put_keeps a2 v3 (by decide)]; exact h17
    clear e3
    refine ev_op tab0_ok (wanted_at (t := 16) (b := false) (j := 3) (want := false) rfl rfl h18) 19 (3, 0) (by kernel_rfl) rfl (by kernel_rfl) (by decide) hI (fun a4 w4 v4 e4 hI => ?_)
    have h19 : a4.tmps[16]? = some (.bool false) := by rw [e4, put_keeps a3 v4 (by decide)]; exact h18
    clear e4
    obtain ⟨b', hb'⟩ := (hI.old 19 (3, 0) (by kernel_rfl)).b
    refine wl_pick rfl (.tmp 16) _ (.tmp 19) rfl false (by show a4.tmps.getD 16 undef = _; rw [Array.getD_eq_getD_getElem?, h19]; rfl) ?_
    have e19 : a4.eval (.tmp 19) = .bool b' := hb'
    rw [if_neg (by decide), e19]
    replace hI := hI.add (d := 20) (by kernel_rfl) (by decide) (RR.refl _ _) (VV.of_b (b := b'))
    show wpList Tryz.prog _ _ _ (a4.put (some 20) (.bool b')) _
    revert hI
    generalize a4.put (some 20) (.bool b') = a5
    intro hI
    refine code_some tab0_ok (2, (41, 0)) _ _ (by kernel_rfl) _ _ _ hI (fun a w hI => ?_) (fun a' w' h => (hQ a' w' h).2)
    exact code_some tab0_ok (2, (41, 0)) _ _ (by kernel_rfl) _ _ _ hI (fun a w hI => (hQ a w ⟨hI.defers, hI.step, hI.old 2 (41, 0) (by kernel_rfl)⟩).1) (fun a' w' h => (hQ a' w' h).2))

def tab1 : Tab := (16, [(1, 0)], (1, 0)) :: tab0
theorem tab1_ok : ∀ x ∈ tab1, FnOk x := fun x hx => by
  rcases List.mem_cons.1 hx with rfl | hx
  · exact ok16
  · exact tab0_ok x hx
theorem ok15 : FnOk (15, [(1, 0), (1, 0)], (1, 0)) := fn_sound tab1_ok Tryz.func15 rfl (r := 4) (t := 41) rfl (.inr (.inl rfl)) (by kernel_rfl) (fun args w => by kernel_rfl)
end Go.Proofs.YtiegapnfbeemcaaGreatDoor

namespace Go.Proofs.YtiegapnfbeemcaaGreatDoor
set_option maxRecDepth 100000
open Go.RowKit

/-- Four numbers of a call's own: its two arguments, its result's place, the number that it works on. -/
structure PowM (w wr : World) (a e x : Nat → Int) : Prop where
  below : Below w.heap.size w wr
  size : w.heap.size + 1 + 1 + 1 + 1 ≤ wr.heap.size
  one : Blk wr w.heap.size 26 (c8 a)
  two : ArrU wr (w.heap.size + 1) 26 8 e
  res : Blk wr (w.heap.size + 1 + 1) 26 (c8 fun _ => 0)
  arr : Blk wr (w.heap.size + 1 + 1 + 1) 26 (c8 x)
theorem PowM.put {w wr w1 : World} {a e x : Nat → Int} (h : PowM w wr a e x) (hB : Below wr.heap.size wr w1) (y : Nat → Int) : PowM w (w1.setRow (w.heap.size + 1 + 1 + 1) (c8 y)) a e y := by
  have hs := h.size
  have h1 := hB.size
  have hz : (w1.setRow (w.heap.size + 1 + 1 + 1) (c8 y)).heap.size = w1.heap.size := setRow_size _ _ _
  refine ⟨(h.below.trans (hB.mono h.below.size)).trans (setRow_below _ _ _ (by omega)), by rw [hz]; omega, (h.one.down hB).setRow_far (by omega) _, ?_, (h.res.down hB).setRow_far (by omega) _, (h.arr.down hB).setRow _⟩
  obtain ⟨cs, h2, h3⟩ := h.two
  exact ⟨cs, (h2.down hB).setRow_far (by omega) _, h3⟩
theorem PowM.start (w : World) (a e x : Nat → Int) : PowM w ((((w.alloc (.cells (c8 a) 26)).alloc (.cells (c8 e) 26)).alloc (.cells (c8 fun _ => 0) 26)).alloc (.cells (c8 x) 26)) a e x := by
  refine ⟨((((Below.refl _ _).alloc (Nat.le_refl _) _).alloc (by simp) _).alloc (by simp; omega) _).alloc (by simp; omega) _, by simp, (((Blk.new w 26 _).alloc _).alloc _).alloc _, ?_, ?_, ?_⟩
  · have := ((ArrU.new8 (w.alloc (.cells (c8 a) 26)) 26 e).alloc (.cells (c8 fun _ => 0) 26)).alloc (.cells (c8 x) 26)
    simpa using this
  · have := (Blk.new ((w.alloc (.cells (c8 a) 26)).alloc (.cells (c8 e) 26)) 26 (c8 fun _ => 0)).alloc (.cells (c8 x) 26)
    simpa using this
  · have := Blk.new (((w.alloc (.cells (c8 a) 26)).alloc (.cells (c8 e) 26)).alloc (.cells (c8 fun _ => 0) 26)) 26 (c8 x)
    simpa using this
set_option maxHeartbeats 1000000 in
theorem pow_any (a e : Nat → Int) (w : World) (ha : UU a) :
    Calls Tryz.prog 60 #[N8 a, N8 e] w fun r w' => ∃ x, r = .returned (N8 x) ∧ UU x ∧ Below w.heap.size w w' := by
  go_enter Tryz.func60, Tryz.ntmps60
  go_wp2_with (first
    | (refine bld26one rfl _ rfl rfl ?_)
    | (refine st26 rfl (.tmp 5) (.tmp 7) rfl (w.heap.size + 1 + 1 + 1) oneF rfl rfl _ (Blk.new _ 26 (c8 fun _ => 0)) rfl ?_))
  go_loopw [6] (fun i wr => ∃ k : Nat, k ≤ 256 ∧ i = .int .i64 (255 - (k : Int)) ∧ ∃ x, UU x ∧ PowM w wr a e x) (fun i _ => (intOf i + 1).toNat)
  case atStart => exact ⟨0, by omega, by simp, oneF, oneF_uu, PowM.start w a e oneF⟩
  case round =>
    obtain ⟨k, hk, rfl, x, hx, hm⟩ := hrel
    by_cases hlt : k < 256
    · obtain ⟨m, hmk⟩ : ∃ m, m + k = 255 := ⟨255 - k, by omega⟩
      have hmi : (255 : Int) - (k : Int) = (m : Int) := by omega
      rw [hmi]
      have HMI := Lib.hid hmi
      clear hmi
      obtain ⟨q, e1, hq⟩ : ∃ q : Nat, IntKind.i64.wrap ((m : Int) / 32) = (q : Int) ∧ q < 8 := ⟨m / 32, by rw [IntWalk.i64_in _ (by omega)]; omega, by omega⟩
      obtain ⟨r, e2, hr⟩ : ∃ r : Nat, (m : Int).tmod 32 = (r : Int) ∧ r < 32 := ⟨m % 32, by rw [Int.tmod_eq_emod_of_nonneg (by omega)]; omega, by omega⟩
      have e4 : (r : Int).toNat = r := by omega
      have l1 : (q : Int) < 8 := by omega
      have l3 : ¬ ((r : Int) < 0) := by omega
      go_wp2_with (first
        | (have h7 := hm2; refine st26 rfl (.tmp 5) (.tmp 26) rfl (w.heap.size + 1 + 1 + 1) (mulF (mulF x x) a) rfl rfl _ (hm1.arr.down hB2) rfl ?_)
        | (refine st26 rfl (.tmp 5) (.tmp 14) rfl (w.heap.size + 1 + 1 + 1) (mulF x x) rfl rfl _ (hm.arr.down hB1) rfl ?_; have hm1 := hm.put hB1 (mulF x x); have ha1 := hm1.two.cell hq)
        | (have h7 := hm1; refine ld26 rfl (.tmp 5) rfl (w.heap.size + 1 + 1 + 1) 0 (mulF x x) rfl (range26 hm1.arr) ?_)
        | (have h7 := hm1; refine ld26 rfl (.tmp 2) rfl w.heap.size 0 a rfl (range26 hm1.one) ?_)
        | (refine ld26 rfl (.tmp 5) rfl (w.heap.size + 1 + 1 + 1) 0 x rfl (range26 hm.arr) ?_)
        | (have h7 := hm1; go_at_call 32; refine (mulp_any (mulF x x) a _ (mulF_uu x x) ha).mono ?_; rintro r w2 ⟨rfl, hB2⟩; have hm2 := hm1.put hB2 (mulF (mulF x x) a))
        | (go_at_call 32; refine (mulp_any x x wr hx hx).mono ?_; rintro r w1 ⟨rfl, hB1⟩))
      all_goals go_roundw
      all_goals first
        | (case rel => first
            | exact ⟨k + 1, by omega, by rw [← HMI.out]; go_num, _, mulF_uu _ _, hm2⟩
            | exact ⟨k + 1, by omega, by rw [← HMI.out]; go_num, _, mulF_uu _ _, hm1⟩)
        | (simp [intOf])
    · obtain rfl : k = 256 := by omega
      go_wp2_with (first
        | (refine ld26 rfl (.tmp 5) rfl (w.heap.size + 1 + 1 + 1) 0 x rfl (range26 hm.arr) ?_)
        | (refine st26 rfl (.tmp 4) (.tmp 27) rfl (w.heap.size + 1 + 1) x rfl rfl _ hm.res rfl ?_))
      refine bodyPost_ret (v := N8 x) (res26 rfl _ _ _ _ rfl (hm.res.setRow _)) rfl ⟨x, rfl, hx, hm.below.trans (setRow_below _ _ _ (by omega))⟩

def twoF (j : Nat) : Int := if j = 0 then 2 else 0
theorem twoF_uu : UU twoF := fun j _ => by unfold twoF U32; split <;> omega
theorem inv_any (a : Nat → Int) (w : World) (ha : UU a) : Calls Tryz.prog 35 #[N8 a] w fun r w' => ∃ x, r = .returned (N8 x) ∧ UU x ∧ Below w.heap.size w w' := by
  have g1 : Blk ((w.alloc (.cells (c8 a) 26)).alloc (.cells (c8 fun _ => 0) 26)) w.heap.size 26 (c8 a) := (Blk.new w 26 _).alloc _
  have g2 : Blk ((w.alloc (.cells (c8 a) 26)).alloc (.cells (c8 fun _ => 0) 26)) (w.heap.size + 1) 26 (c8 fun _ => 0) := by
    have := Blk.new (w.alloc (.cells (c8 a) 26)) 26 (c8 fun _ => 0)
    simpa using this
  have hB0 : Below w.heap.size w ((w.alloc (.cells (c8 a) 26)).alloc (.cells (c8 fun _ => 0) 26)) := ((Below.refl _ _).alloc (Nat.le_refl _) _).alloc (by simp) _
  go_enter Tryz.func35, Tryz.ntmps35
  go_wp2_with (first
    | (go_at_call 30; refine (prime_any _).mono ?_; rintro r w1 ⟨rfl, hB1⟩)
    | (go_at_call 57; refine (minus_any primeF twoF w1 primeF_uu twoF_uu).mono ?_; rintro r w2 ⟨rfl, hB2⟩
       have g3 := (Blk.new w2 26 (c8 (minusF primeF twoF)))
       have q1 := ((g1.down hB1).down hB2).alloc (.cells (c8 (minusF primeF twoF)) 26)
       have q2 := ((g2.down hB1).down hB2).alloc (.cells (c8 (minusF primeF twoF)) 26)
       have hB3 := ((hB0.trans (hB1.mono hB0.size)).trans (hB2.mono (Nat.le_trans hB0.size hB1.size))).alloc (Nat.le_trans hB0.size (Nat.le_trans hB1.size hB2.size)) (.cells (c8 (minusF primeF twoF)) 26))
    | (refine ld26 rfl (.tmp 1) rfl w.heap.size 0 a rfl (range26 q1) ?_)
    | (refine ld26 rfl (.tmp 3) rfl w2.heap.size 0 (minusF primeF twoF) rfl (range26 g3) ?_)
    | (go_at_call 60; refine (pow_any a (minusF primeF twoF) _ ha).mono ?_; rintro r w3 ⟨x, rfl, hx, hB4⟩; have q4 := q2.down hB4)
    | (refine st26 rfl (.tmp 2) (.tmp 13) rfl (w.heap.size + 1) x rfl rfl _ q4 rfl ?_))
  refine bodyPost_ret (v := N8 x) (res26 rfl _ _ _ _ rfl (q4.setRow _)) rfl ⟨x, rfl, hx, (hB3.trans (hB4.mono hB3.size)).trans (setRow_below _ _ _ (by omega))⟩
theorem ok35 : FnOk (35, [(0, 0)], (0, 0)) := ⟨fun args w => by kernel_rfl, fun B args w _ hA => by
  match args, hA with
  | [u], ⟨hu, _⟩ =>
    obtain ⟨f, hf, rfl⟩ := hu.n
    exact (inv_any f w hf).mono fun e w' ⟨x, he, hx, hb⟩ => ⟨_, he, .of_n hx, hb⟩⟩
def tab2 : Tab := (35, [(0, 0)], (0, 0)) :: tab0
theorem tab2_ok : ∀ x ∈ tab2, FnOk x := fun x hx => by
  rcases List.mem_cons.1 hx with rfl | hx
  · exact ok35
  · exact tab0_ok x hx
theorem ok17 : FnOk (17, [(1, 0)], (2, 0)) := fn_sound tab2_ok Tryz.func17 rfl (r := 2) (t := 28) rfl (.inr (.inr rfl)) (by kernel_rfl) (fun args w => by kernel_rfl)
end Go.Proofs.YtiegapnfbeemcaaGreatDoor

namespace Go.Proofs.YtiegapnfbeemcaaGreatDoor
set_option maxRecDepth 100000
open Go.RowKit

theorem jof_ex (x y : Nat → Int) (b : Bool) (w : World) (hx : UU x) (hy : UU y) : Calls Tryz.prog 14 #[Pt x y b] w fun r w' => ∃ x' y' z', r = .returned (J x' y' z') ∧ UU x' ∧ UU y' ∧ UU z' ∧ Below w.heap.size w w' :=
  (ok14.2 w.heap.size [Pt x y b] w (Nat.le_refl _) ⟨.of_p hx hy, trivial⟩).mono fun r w' ⟨v, he, hv, hb⟩ => by
    obtain ⟨x', y', z', h1, h2, h3, rfl⟩ := hv.j
    exact ⟨x', y', z', he, h1, h2, h3, hb⟩
theorem dbl_ex (x y z : Nat → Int) (w : World) (hx : UU x) (hy : UU y) (hz : UU z) : Calls Tryz.prog 16 #[J x y z] w fun r w' => ∃ x' y' z', r = .returned (J x' y' z') ∧ UU x' ∧ UU y' ∧ UU z' ∧ Below w.heap.size w w' :=
  (ok16.2 w.heap.size [J x y z] w (Nat.le_refl _) ⟨.of_j hx hy hz, trivial⟩).mono fun r w' ⟨v, he, hv, hb⟩ => by
    obtain ⟨x', y', z', h1, h2, h3, rfl⟩ := hv.j
    exact ⟨x', y', z', he, h1, h2, h3, hb⟩
theorem sum_ex (x y z u v t : Nat → Int) (w : World) (hx : UU x) (hy : UU y) (hz : UU z) (hu : UU u) (hv : UU v) (ht : UU t) : Calls Tryz.prog 15 #[J x y z, J u v t] w fun r w' => ∃ x' y' z', r = .returned (J x' y' z') ∧ UU x' ∧ UU y' ∧ UU z' ∧ Below w.heap.size w w' :=
  (ok15.2 w.heap.size [J x y z, J u v t] w (Nat.le_refl _) ⟨.of_j hx hy hz, .of_j hu hv ht, trivial⟩).mono fun r w' ⟨v, he, hv, hb⟩ => by
    obtain ⟨x', y', z', h1, h2, h3, rfl⟩ := hv.j
    exact ⟨x', y', z', he, h1, h2, h3, hb⟩
theorem plain_ex (x y z : Nat → Int) (w : World) (hx : UU x) (hy : UU y) (hz : UU z) : Calls Tryz.prog 17 #[J x y z] w fun r w' => ∃ x' y' b, r = .returned (Pt x' y' b) ∧ UU x' ∧ UU y' ∧ Below w.heap.size w w' :=
  (ok17.2 w.heap.size [J x y z] w (Nat.le_refl _) ⟨.of_j hx hy hz, trivial⟩).mono fun r w' ⟨v, he, hv, hb⟩ => by
    obtain ⟨x', y', b, h1, h2, rfl⟩ := hv.p
    exact ⟨x', y', b, he, h1, h2, hb⟩

/-- Sixteen points, whatever they be. -/
def Few (w : World) (g : Nat) : Prop := ∃ cs, Blk w g 42 cs ∧ cs.size = 384 ∧ ∀ j, j < 384 → ∃ n, U32 n ∧ cs[j]? = some (.int .u32 n)
def intv : Value → Int
  | .int _ n => n
  | _ => 0
theorem Few.get {w : World} {g : Nat} (h : Few w g) (i : Nat) (hi : i < 16) : ∃ x y z, UU x ∧ UU y ∧ UU z ∧ w.rangeAt g (24 * i) (c24 x y z).toList := by
  obtain ⟨cs, hb, hs, hc⟩ := h
  have key : ∀ p, p < 384 → U32 (((cs[p]?).map intv).getD 0) ∧ cs[p]? = some (.int .u32 (((cs[p]?).map intv).getD 0)) := fun p hp => by
    obtain ⟨n, hn, e⟩ := hc p hp
    rw [e]; exact ⟨hn, rfl⟩
  refine ⟨fun j => ((cs[24 * i + j]?).map intv).getD 0, fun j => ((cs[24 * i + (8 + j)]?).map intv).getD 0, fun j => ((cs[24 * i + (16 + j)]?).map intv).getD 0, fun j hj => (key _ (by omega)).1, fun j hj => (key _ (by omega)).1, fun j hj => (key _ (by omega)).1, range_of hb fun j v hv => ?_⟩
  have hj : j < 24 := by
    rcases Nat.lt_or_ge j 24 with h1 | h1
    · exact h1
    · rw [List.getElem?_eq_none (by simpa [c24] using h1)] at hv; cases hv
  rw [(key (24 * i + j) (by omega)).2]
  rw [← hv]
  have hj : j = 0 ∨ j = 1 ∨ j = 2 ∨ j = 3 ∨ j = 4 ∨ j = 5 ∨ j = 6 ∨ j = 7 ∨ j = 8 ∨ j = 9 ∨ j = 10 ∨ j = 11 ∨ j = 12 ∨ j = 13 ∨ j = 14 ∨ j = 15 ∨ j = 16 ∨ j = 17 ∨ j = 18 ∨ j = 19 ∨ j = 20 ∨ j = 21 ∨ j = 22 ∨ j = 23 := by omega
  rcases hj with rfl | rfl | rfl | rfl | rfl | rfl | rfl | rfl | rfl | rfl | rfl | rfl | rfl | rfl | rfl | rfl | rfl | rfl | rfl | rfl | rfl | rfl | rfl | rfl <;> rfl
theorem Few.there {w : World} {g : Nat} (h : Few w g) (i : Nat) (hi : i < 16) : w.there g (24 * i) 24 := fun j hj => by
  obtain ⟨cs, hb, hs, hc⟩ := h
  obtain ⟨n, _, e⟩ := hc (24 * i + j) (by omega)
  exact ⟨by rw [hb.cell, e]; rfl, hb.frozen _⟩
theorem Few.put {w : World} {g : Nat} (h : Few w g) (i : Nat) (hi : i < 16) {x y z : Nat → Int} (hx : UU x) (hy : UU y) (hz : UU z) : Few (w.setCells g (24 * i) (c24 x y z).toList) g := by
  obtain ⟨cs, hb, hs, hc⟩ := h
  obtain ⟨cs', h1, h2, h3, h4⟩ := setCells_blk g 42 (c24 x y z).toList (24 * i) w cs hb (by simp [c24]; omega)
  refine ⟨cs', h1, by omega, fun j hj => ?_⟩
  have hlen : (c24 x y z).toList.length = 24 := rfl
  rw [hlen] at h3 h4
  by_cases hin : 24 * i ≤ j ∧ j < 24 * i + 24
  · obtain ⟨d, rfl⟩ : ∃ d, j = 24 * i + d := ⟨j - 24 * i, by omega⟩
    rw [h3 d (by omega)]
    have hd : d = 0 ∨ d = 1 ∨ d = 2 ∨ d = 3 ∨ d = 4 ∨ d = 5 ∨ d = 6 ∨ d = 7 ∨ d = 8 ∨ d = 9 ∨ d = 10 ∨ d = 11 ∨ d = 12 ∨ d = 13 ∨ d = 14 ∨ d = 15 ∨ d = 16 ∨ d = 17 ∨ d = 18 ∨ d = 19 ∨ d = 20 ∨ d = 21 ∨ d = 22 ∨ d = 23 := by omega
    rcases hd with rfl | rfl | rfl | rfl | rfl | rfl | rfl | rfl | rfl | rfl | rfl | rfl | rfl | rfl | rfl | rfl | rfl | rfl | rfl | rfl | rfl | rfl | rfl | rfl
    · exact ⟨_, hx 0 (by omega), rfl⟩
    · exact ⟨_, hx 1 (by omega), rfl⟩
    · exact ⟨_, hx 2 (by omega), rfl⟩
    · exact ⟨_, hx 3 (by omega), rfl⟩
    · exact ⟨_, hx 4 (by omega), rfl⟩
    · exact ⟨_, hx 5 (by omega), rfl⟩
    · exact ⟨_, hx 6 (by omega), rfl⟩
    · exact ⟨_, hx 7 (by omega), rfl⟩
    · exact ⟨_, hy 0 (by omega), rfl⟩
    · exact ⟨_, hy 1 (by omega), rfl⟩
    · exact ⟨_, hy 2 (by omega), rfl⟩
    · exact ⟨_, hy 3 (by omega), rfl⟩
    · exact ⟨_, hy 4 (by omega), rfl⟩
    · exact ⟨_, hy 5 (by omega), rfl⟩
    · exact ⟨_, hy 6 (by omega), rfl⟩
    · exact ⟨_, hy 7 (by omega), rfl⟩
    · exact ⟨_, hz 0 (by omega), rfl⟩
    · exact ⟨_, hz 1 (by omega), rfl⟩
    · exact ⟨_, hz 2 (by omega), rfl⟩
    · exact ⟨_, hz 3 (by omega), rfl⟩
    · exact ⟨_, hz 4 (by omega), rfl⟩
    · exact ⟨_, hz 5 (by omega), rfl⟩
    · exact ⟨_, hz 6 (by omega), rfl⟩
    · exact ⟨_, hz 7 (by omega), rfl⟩
  · rw [h4 j (by omega)]; exact hc j hj
theorem Few.down {w w' : World} {g : Nat} (h : Few w g) (hb : Below w.heap.size w w') : Few w' g := let ⟨cs, h1, h2⟩ := h; ⟨cs, h1.down hb, h2⟩
theorem Few.lt {w : World} {g : Nat} (h : Few w g) : g < w.heap.size := let ⟨_, h1, _⟩ := h; h1.lt
def Z384 : Array Value := Array.replicate 384 (.int .u32 0)
theorem Few.new (w : World) : Few (w.alloc (.cells Z384 42)) w.heap.size := ⟨Z384, Blk.new w 42 _, by simp [Z384], fun j hj => ⟨0, ⟨by omega, by omega⟩, by simp [Z384, hj]⟩⟩
theorem zero42 (w : World) : (zeroValue 42).run Tryz.prog w = .ok (.agg Z384) w := by kernel_rfl
end Go.Proofs.YtiegapnfbeemcaaGreatDoor

namespace Go.Proofs.YtiegapnfbeemcaaGreatDoor
set_option maxRecDepth 100000
open Go.RowKit

/-- The memory of such a call. -/
structure TiM (w wr : World) (k : Nat → Int) : Prop where
  below : Below w.heap.size w wr
  size : w.heap.size + 1 + 1 + 1 + 1 ≤ wr.heap.size
  num : ArrU wr w.heap.size 26 8 k
  res : Blk wr (w.heap.size + 1 + 1) 28 (c17 zF zF false)
  few : Few wr (w.heap.size + 1 + 1 + 1)
theorem TiM.down {w wr w1 : World} {k : Nat → Int} (h : TiM w wr k) (hB : Below wr.heap.size wr w1) : TiM w w1 k :=
  ⟨h.below.trans (hB.mono h.below.size), Nat.le_trans h.size hB.size, let ⟨cs, h1, h2⟩ := h.num; ⟨cs, h1.down hB, h2⟩, h.res.down hB, h.few.down hB⟩
theorem TiM.put {w wr : World} {k : Nat → Int} (h : TiM w wr k) (i : Nat) (hi : i < 16) {x y z : Nat → Int} (hx : UU x) (hy : UU y) (hz : UU z) : TiM w (wr.setCells (w.heap.size + 1 + 1 + 1) (24 * i) (c24 x y z).toList) k := by
  have hb := setCells_below_ (B := w.heap.size + 1 + 1 + 1) (Nat.le_refl _) (c24 x y z).toList (24 * i) wr wr (Below.refl _ _)
  refine ⟨h.below.trans (hb.mono (by omega)), Nat.le_trans h.size hb.size, ?_, h.res.below hb (by omega), h.few.put i hi hx hy hz⟩
  obtain ⟨cs, h1, h2⟩ := h.num
  exact ⟨cs, h1.below hb (by omega), h2⟩
theorem and15 (x : Int) : ∃ s : Nat, bits .and .u32 x 15 = (s : Int) ∧ s < 16 := by
  refine ⟨(BitVec.ofInt 32 x &&& BitVec.ofInt 32 15).toNat, ?_, ?_⟩
  · show IntKind.u32.wrap ((BitVec.ofInt 32 x &&& BitVec.ofInt 32 15).toNat : Int) = _
    have h := (BitVec.ofInt 32 x &&& BitVec.ofInt 32 15).isLt
    generalize (BitVec.ofInt 32 x &&& BitVec.ofInt 32 15).toNat = n at h ⊢
    simp [IntKind.wrap, IntKind.bits, IntKind.signed]
    omega
  · rw [BitVec.toNat_and]
    exact Nat.and_lt_two_pow _ (n := 4) (by decide)
theorem q_ldm {ops : Array Oper} {rest : List Oper} {o : Oper} {a : Act} {W : World} {Q : Act → Prop} (hgd : o.guard = none) (ty : TypeId) (x : Operand) (ho : o.op = .load ty x) (g off : Nat) (cs : List Value) (d : TypeDesc) (hx : a.eval x = .pointer (some ⟨g, off, none⟩)) (hc : W.rangeAt g off cs)
    (hu : Tryz.prog.underlying ty = some d) (hd : d.isRow = true) (hi : (Tryz.prog.info? ty).map (·.size) = some cs.length)
    (h : wpQuiet Tryz.prog ops (fun w' => ∃ n, w' = W.drewN n) Q rest (a.put o.dst (.agg cs.toArray))) : wpQuiet Tryz.prog ops (fun w' => ∃ n, w' = W.drewN n) Q (o :: rest) a := by
  refine wpQuiet_step fun K hK => ?_
  have hw : Region.wanted o (yielded ops a.tmps) = true := by unfold Region.wanted; rw [hgd]
  rw [if_pos hw]
  refine ⟨.agg cs.toArray, fun w ⟨n, hn⟩ => ?_, hK _ h⟩
  subst hn
  unfold Oper.quietAt execOp
  simp only [ho, hx, Instr.loadAt, Instr.sureAddr, Sem.run_bind, Sem.run_pure, Result.andThen_ok, run_loadVar_mid (W.drewN n) g off ty cs d hc hu hd hi]
  first | exact ⟨rfl, ⟨n, rfl⟩⟩ | exact ⟨rfl, rfl⟩
set_option maxHeartbeats 2000000 in
theorem times_any (k x y : Nat → Int) (b : Bool) (w : World) (hx : UU x) (hy : UU y) :
    Calls Tryz.prog 5 #[N8 k, Pt x y b] w fun r w' => ∃ x' y' b', r = .returned (Pt x' y' b') ∧ UU x' ∧ UU y' ∧ Below w.heap.size w w' := by
  have hz42 := zero42
  go_enter Tryz.func5, Tryz.ntmps5
  have h0 : TiM w ((((w.alloc (.cells (c8 k) 26)).alloc (.cells (c17 x y b) 28)).alloc (.cells (c17 zF zF false) 28)).alloc (.cells Z384 42)) k := by
    refine ⟨((((Below.refl _ _).alloc (Nat.le_refl _) _).alloc (by simp) _).alloc (by simp; omega) _).alloc (by simp; omega) _, by simp, ?_, ?_, ?_⟩
    · exact (((ArrU.new8 w 26 k).alloc _).alloc _).alloc _
    · have := (Blk.new ((w.alloc (.cells (c8 k) 26)).alloc (.cells (c17 x y b) 28)) 28 (c17 zF zF false)).alloc (.cells Z384 42)
      simpa using this
    · have := Few.new (((w.alloc (.cells (c8 k) 26)).alloc (.cells (c17 x y b) 28)).alloc (.cells (c17 zF zF false) 28))
      simpa using this
  have hq : Blk ((((w.alloc (.cells (c8 k) 26)).alloc (.cells (c17 x y b) 28)).alloc (.cells (c17 zF zF false) 28)).alloc (.cells Z384 42)) (w.heap.size + 1) 28 (c17 x y b) := by
    have := ((Blk.new (w.alloc (.cells (c8 k) 26)) 28 (c17 x y b)).alloc (.cells (c17 zF zF false) 28)).alloc (.cells Z384 42)
    simpa using this
  go_wp2_with (first
    | (refine wpList_plain rfl fun _ hK => wp_new hz42 rfl (hK _ _ ?_))
    | (refine wpList_load_row rfl 28 (.tmp 3) rfl (w.heap.size + 1) rfl 28 _ (0, 0) _ hq Tryz.underlying28 rfl (size28.trans rfl) ?_)
    | (go_at_call 14; refine (jof_ex x y b _ hx hy).mono ?_; rintro r w1 ⟨u, v, t, rfl, hu, hv, ht, hB1⟩; have h1 := h0.down hB1)
    | (refine wpList_store_mid rfl 41 (.tmp 11) (.tmp 10) rfl (w.heap.size + 1 + 1 + 1) 24 (c24 u v t) rfl rfl (h1.few.there 1 (by omega)) (size41.trans rfl) (c24_one u v t) ?_))
  have h2 := h1.put 1 (by omega) hu hv ht
  clear h0 h1 hq hB1
  go_loopw [6] (fun i wr => ∃ j : Nat, 2 ≤ j ∧ j ≤ 16 ∧ i = .int .i64 (j : Int) ∧ TiM w wr k) (fun i _ => 16 - (intOf i).toNat)
  case atStart => exact ⟨2, by omega, by omega, rfl, h2⟩
  case round =>
    obtain ⟨j, hj2, hj, rfl, hm⟩ := hrel
    by_cases hlt : j < 16
    · obtain ⟨m, hmj⟩ : ∃ m, m + 1 = j := ⟨j - 1, by omega⟩
      have hmi : (j : Int) - 1 = (m : Int) := by omega
      have HMI := Lib.hid hmi
      clear hmi
      have l1 : (m : Int) < 16 := by omega
      have l2 : (j : Int) < 16 := by omega
      have l3 : (0 : Int) ≤ (j : Int) - 1 := by omega
      have l4 : ((j : Int) - 1).toNat = m := by omega
      have l5 : (j : Int) - 1 < 16 := by omega
      have l6 : IntKind.i64.wrap ((j : Int) - 1) = (j : Int) - 1 := IntWalk.i64_in _ (by omega)
      obtain ⟨x1, y1, z1, hx1, hy1, hz1, hr1⟩ := hm.few.get m (by omega)
      obtain ⟨x2, y2, z2, hx2, hy2, hz2, hr2⟩ := hm.few.get 1 (by omega)
      have lm : IntKind.i64.wrap (m : Int) = (m : Int) := IntWalk.i64_in _ (by omega)
      go_wp2_with fail
      have hS : (fun W : World => W.rangeAt (w.heap.size + 1 + 1 + 1) (24 * m) (c24 x1 y1 z1).toList ∧ W.rangeAt (w.heap.size + 1 + 1 + 1) 24 (c24 x2 y2 z2).toList) wr.drew := ⟨hr1, hr2⟩
      refine Code.wp_mono NoPanic.imp ?_
      refine wp_region_held (S := fun W : World => W.rangeAt (w.heap.size + 1 + 1 + 1) (24 * m) (c24 x1 y1 z1).toList ∧ W.rangeAt (w.heap.size + 1 + 1 + 1) 24 (c24 x2 y2 z2).toList) (by kernel_rfl) ?_
      refine wpAnyH_take (i := 0) (v := .int .i64 j) rfl (by kernel_rfl) (by kernel_rfl) (by kernel_rfl) (fun _ _ _ h => h) (.inl ⟨rfl, fun W _ => rfl⟩) hS ?_
      refine wpAnyH_take (i := 1) (v := .int .i64 j) rfl (by kernel_rfl) (by kernel_rfl) (by kernel_rfl) (fun _ _ _ h => h) (.inl ⟨rfl, fun W _ => rfl⟩) hS ?_
      refine wpAnyH_take (i := 2) (v := .int .i64 m) rfl (by kernel_rfl) (by kernel_rfl) (by kernel_rfl) (fun _ _ _ h => h) (.inl ⟨rfl, fun W _ => ?_⟩) hS ?_
      · simp [execOp, Act.eval, Act.put, go_sem, HMI.out, lm]
      refine wpAnyH_take (i := 3) (v := .pointer (some ⟨w.heap.size + 1 + 1 + 1, 24 * m, none⟩)) rfl (by kernel_rfl) (by kernel_rfl) (by kernel_rfl) (fun _ _ _ h => h) (.inl ⟨rfl, fun W _ => ?_⟩) hS ?_
      · simp [execOp, Act.eval, Act.put, go_sem, l1]
      refine wpAnyH_take (i := 4) (v := J x1 y1 z1) rfl (by kernel_rfl) (by kernel_rfl) (by kernel_rfl) (fun _ _ _ h => h) (yieldsIf_load_mid rfl 41 (.tmp 19) rfl (w.heap.size + 1 + 1 + 1) (24 * m) rfl (c24 x1 y1 z1).toList _ (fun W h => h.1) Tryz.underlying41 rfl (size41.trans rfl)) hS ?_
      refine wpAnyH_take (i := 5) (v := .pointer (some ⟨w.heap.size + 1 + 1 + 1, 24, none⟩)) rfl (by kernel_rfl) (by kernel_rfl) (by kernel_rfl) (fun _ _ _ h => h) (.inl ⟨rfl, fun W _ => ?_⟩) hS ?_
      · simp [execOp, Act.eval, Act.put, go_sem]
      refine wpAnyH_take (i := 6) (v := J x2 y2 z2) rfl (by kernel_rfl) (by kernel_rfl) (by kernel_rfl) (fun _ _ _ h => h) (yieldsIf_load_mid rfl 41 (.tmp 21) rfl (w.heap.size + 1 + 1 + 1) 24 rfl (c24 x2 y2 z2).toList _ (fun W h => h.2) Tryz.underlying41 rfl (size41.trans rfl)) hS ?_
      refine wpAnyH_ready (rs := [7]) (by kernel_rfl) (by simp) (AllReadyH.cons rfl (fun K hK => ?_) AllReadyH.nil)
      rw [if_pos (by rfl)]
      go_wp2_with (go_at_call 15; refine (sum_ex x1 y1 z1 x2 y2 z2 _ hx1 hy1 hz1 hx2 hy2 hz2).mono ?_; rintro r w1 ⟨u', v', t', rfl, hu', hv', ht', hB1⟩)
      have hm0 : TiM w wr.drew k := ⟨⟨hm.below.os, hm.below.tape, hm.below.output, hm.below.size, hm.below.block⟩, hm.size, hm.num, hm.res, hm.few⟩
      have hm1 := hm0.down hB1
      have hg := hm0.few.lt
      have hS1 : (fun W : World => W.rangeAt (w.heap.size + 1 + 1 + 1) (24 * m) (c24 x1 y1 z1).toList ∧ W.rangeAt (w.heap.size + 1 + 1 + 1) 24 (c24 x2 y2 z2).toList) w1 :=
        ⟨fun i v hv => (hB1.cell (p := ⟨_, _, none⟩) hg).trans (hr1 i v hv), fun i v hv => (hB1.cell (p := ⟨_, _, none⟩) hg).trans (hr2 i v hv)⟩
      refine hK.out _ _ hS1 (fun _ => ?_)
      refine wpAnyH_take (i := 8) (v := .pointer (some ⟨w.heap.size + 1 + 1 + 1, 24 * j, none⟩)) rfl (by kernel_rfl) (by kernel_rfl) (by kernel_rfl) (fun _ _ _ h => h) (.inl ⟨rfl, fun W _ => ?_⟩) hS1 ?_
      · simp [execOp, Act.eval, go_sem, l2]
      refine wpAnyH_ready (rs := [9]) (by kernel_rfl) (by simp) (AllReadyH.cons rfl (fun K2 hK2 => ?_) AllReadyH.nil)
      rw [if_pos (by rfl)]
      refine wp_store_mid 41 (.tmp 24) (.tmp 23) rfl (w.heap.size + 1 + 1 + 1) (24 * j) (c24 u' v' t') rfl rfl (hm1.few.there j hlt) (size41.trans rfl) (c24_one u' v' t') ?_
      refine hK2.out _ _ ⟨World.rangeAt_setCells_apart hS1.1 _ _ _ (.inr (.inl ?_)), World.rangeAt_setCells_apart hS1.2 _ _ _ (.inr (.inl ?_))⟩ (fun _ => ?_)
      · show 24 * m + 24 ≤ 24 * j
        omega
      · show 24 + 24 ≤ 24 * j
        omega
      refine wpAnyH_done (by kernel_rfl) ?_ _
      have hm2 := hm1.put j hlt hu' hv' ht'
      refine NoPanic.normal ?_
      clear l1 l3 l4 l5 l6 lm HMI hmj
      go_wp2_with fail
      clear l2
      go_roundw
      case rel => exact ⟨j + 1, by omega, by omega, by go_num, hm2⟩
      case measure => simp [intOf]; omega
    · obtain rfl : j = 16 := by omega
      have ha0 : Blk (wr.alloc (.cells (c24 zF zF zF) 41)) wr.heap.size 41 (c24 zF zF zF) := Blk.new wr 41 _
      have hn0 : TiM w ((wr.alloc (.cells (c24 zF zF zF) 41)).setRow wr.heap.size (c24 zF zF zF)) k := hm.down (((Below.refl _ _).alloc (Nat.le_refl _) _).trans (setRow_below _ _ _ (Nat.le_refl _)))
      have ho0 := ha0.setRow (c24 zF zF zF)
      go_wp2_with (first
        | (refine bld41z rfl _ rfl rfl ?_)
        | (refine wpList_plain rfl fun _ hK => wp_new zero41 rfl (hK _ _ ?_))
        | (refine st41 rfl (.tmp 7) (.tmp 25) rfl wr.heap.size zF zF zF rfl rfl _ ha0 rfl ?_))
      obtain ⟨G, hG⟩ : ∃ G, G = wr.heap.size := ⟨_, rfl⟩
      have hGs : w.heap.size + 1 + 1 + 1 + 1 ≤ G := by rw [hG]; exact hm.size
      rw [← hG] at ho0 hn0 ⊢
      go_loopw [8] (fun i wr => ∃ j : Nat, j ≤ 64 ∧ i = .int .i64 (63 - (j : Int)) ∧ TiM w wr k ∧ ∃ x y z, UU x ∧ UU y ∧ UU z ∧ Blk wr G 41 (c24 x y z)) (fun i _ => (intOf i + 1).toNat)
      case atStart => exact ⟨0, by omega, by simp, hn0, zF, zF, zF, zF_uu, zF_uu, zF_uu, ho0⟩
      case round =>
        clear hn0 ho0 hG hm h2 hu hv ht hx hy
        obtain ⟨j, hj, rfl, hm, x1, y1, z1, hx1, hy1, hz1, hb⟩ := hrel
        by_cases hlt : j < 64
        · obtain ⟨m, hmj⟩ : ∃ m, m + j = 63 := ⟨63 - j, by omega⟩
          have hmi : (63 : Int) - (j : Int) = (m : Int) := by omega
          rw [hmi]
          have HMI := Lib.hid hmi
          clear hmi
          obtain ⟨q, e1, hq⟩ : ∃ q : Nat, IntKind.i64.wrap ((m : Int) / 8) = (q : Int) ∧ q < 8 := ⟨m / 8, by rw [IntWalk.i64_in _ (by omega)]; omega, by omega⟩
          obtain ⟨r, e2, hr⟩ : ∃ r : Nat, (m : Int).tmod 8 = (r : Int) ∧ r < 8 := ⟨m % 8, by rw [Int.tmod_eq_emod_of_nonneg (by omega)]; omega, by omega⟩
          have e3 : IntKind.i64.wrap (4 * (r : Int)) = 4 * (r : Int) := IntWalk.i64_in _ (by omega)
          have e4 : (4 * (r : Int)).toNat = 4 * r := by omega
          have l1 : (q : Int) < 8 := by omega
          have l2 : (0 : Int) ≤ 4 * (r : Int) := by omega
          have l3 : ¬ (4 * (r : Int) < 0) := by omega
          go_wp2_with (first
            | (refine ld41 rfl (.tmp 7) rfl G x1 y1 z1 rfl hb ?_)
            | (have h7 := hB3; go_at_call 16; refine (dbl_ex x4 y4 z4 w3 hx4 hy4 hz4).mono ?_; rintro r w4 ⟨x5, y5, z5, rfl, hx5, hy5, hz5, hB4⟩)
            | (have h7 := hB2; go_at_call 16; refine (dbl_ex x3 y3 z3 w2 hx3 hy3 hz3).mono ?_; rintro r w3 ⟨x4, y4, z4, rfl, hx4, hy4, hz4, hB3⟩)
            | (have h7 := hB1; go_at_call 16; refine (dbl_ex x2 y2 z2 w1 hx2 hy2 hz2).mono ?_; rintro r w2 ⟨x3, y3, z3, rfl, hx3, hy3, hz3, hB2⟩)
            | (go_at_call 16; refine (dbl_ex x1 y1 z1 wr hx1 hy1 hz1).mono ?_; rintro r w1 ⟨x2, y2, z2, rfl, hx2, hy2, hz2, hB1⟩)
            | (refine st41 rfl (.tmp 7) (.tmp 34) rfl G x5 y5 z5 rfl rfl _ ((((hb.down hB1).down hB2).down hB3).down hB4) rfl ?_))
          have hB0 := (((hB1.trans (hB2.mono hB1.size)).trans (hB3.mono (Nat.le_trans hB1.size hB2.size))).trans (hB4.mono (Nat.le_trans hB1.size (Nat.le_trans hB2.size hB3.size))))
          have hm4 := hm.down hB0
          have hb4 := hb.down hB0
          have hG4 := hb4.lt
          have hm5 : TiM w (w4.setRow G (c24 x5 y5 z5)) k := by
            have hbb := setRow_below (n := G) w4 G (c24 x5 y5 z5) (Nat.le_refl _)
            obtain ⟨cs, h1, h2⟩ := hm4.num
            obtain ⟨ds, h3, h4⟩ := hm4.few
            exact ⟨hm4.below.trans (hbb.mono (by omega)), Nat.le_trans hm4.size hbb.size, ⟨cs, h1.below hbb (by omega), h2⟩, hm4.res.below hbb (by omega), ⟨ds, h3.below hbb (by omega), h4⟩⟩
          have hb5 : Blk (w4.setRow G (c24 x5 y5 z5)) G 41 (c24 x5 y5 z5) := hb4.setRow _
          clear hm4 hb4 hB0 hB1 hB2 hB3 hB4 hm hb
          generalize w4.setRow G (c24 x5 y5 z5) = w5 at hm5 hb5 ⊢
          have ha := hm5.num.cell (j := q) hq
          obtain ⟨s, hs, hs16⟩ : ∃ s : Nat, bits .and .u32 (k q / 2 ^ (4 * r)) 15 = (s : Int) ∧ s < 16 := and15 _
          have l7 : (s : Int) < 16 := by omega
          obtain ⟨x6, y6, z6, hx6, hy6, hz6, hr6⟩ := hm5.few.get s hs16
          refine region_quiet_tail 12 (by kernel_rfl) (by kernel_rfl) ?_
          simp only [List.take_succ_cons, List.take_zero, List.drop_succ_cons, List.drop_zero]
          refine q_ldm rfl 41 (.tmp 7) rfl G 0 (c24 x5 y5 z5).toList _ rfl (range_of hb5 fun j v hv => by rw [Nat.zero_add, ← Array.getElem?_toList]; exact hv) Tryz.underlying41 rfl (size41.trans rfl) ?_
          repeat (quiet_step (fail))
          refine q_ldm rfl 41 (.tmp 45) rfl (w.heap.size + 1 + 1 + 1) (24 * s) (c24 x6 y6 z6).toList _ (by simp only [Act.eval]; simp [Nat.mul_comm]; done) hr6 Tryz.underlying41 rfl (size41.trans rfl) ?_
          refine wpQuiet_nil ?_
          intro _ hw'
          obtain ⟨nq, rfl⟩ := hw'
          have hm6 : TiM w (w5.drewN nq) k := ⟨⟨hm5.below.os, hm5.below.tape, hm5.below.output, hm5.below.size, hm5.below.block⟩, hm5.size, hm5.num, hm5.res, hm5.few⟩
          have hb6 : Blk (w5.drewN nq) G 41 (c24 x5 y5 z5) := hb5
          clear e1 e2 e3 e4 l1 l2 l3 l7 hs ha hr6
          go_wp2_with (first
            | (go_at_call 15; refine (sum_ex x5 y5 z5 x6 y6 z6 _ hx5 hy5 hz5 hx6 hy6 hz6).mono ?_; rintro r w6 ⟨x7, y7, z7, rfl, hx7, hy7, hz7, hB6⟩; have hm7 := hm6.down hB6; have hb7 := hb6.down hB6)
            | (refine st41 rfl (.tmp 7) (.tmp 47) rfl G x7 y7 z7 rfl rfl _ hb7 rfl ?_))
          go_roundw
          case rel =>
            have hm8 : TiM w (w6.setRow G (c24 x7 y7 z7)) k := by
              have hbb := setRow_below (n := G) w6 G (c24 x7 y7 z7) (Nat.le_refl _)
              obtain ⟨cs, h1, h2⟩ := hm7.num
              obtain ⟨ds, h3, h4⟩ := hm7.few
              exact ⟨hm7.below.trans (hbb.mono (by omega)), Nat.le_trans hm7.size hbb.size, ⟨cs, h1.below hbb (by omega), h2⟩, hm7.res.below hbb (by omega), ⟨ds, h3.below hbb (by omega), h4⟩⟩
            exact ⟨j + 1, by omega, by rw [← HMI.out]; go_num, hm8, x7, y7, z7, hx7, hy7, hz7, hb7.setRow _⟩
          case measure => simp [intOf]
        · obtain rfl : j = 64 := by omega
          go_wp2_with (first
            | (refine ld41 rfl (.tmp 7) rfl G x1 y1 z1 rfl hb ?_)
            | (go_at_call 17; refine (plain_ex x1 y1 z1 wr hx1 hy1 hz1).mono ?_; rintro r w1 ⟨u, v, b, rfl, hu, hv, hB1⟩; have hm1 := hm.down hB1)
            | (refine st28 rfl (.tmp 4) (.tmp 49) rfl (w.heap.size + 1 + 1) u v b rfl rfl _ hm1.res rfl ?_))
          refine bodyPost_ret (v := Pt u v b) (res28 rfl _ _ _ _ _ _ rfl (hm1.res.setRow _)) rfl ⟨u, v, b, rfl, hu, hv, hm1.below.trans (setRow_below _ _ _ (by omega))⟩
end Go.Proofs.YtiegapnfbeemcaaGreatDoor
