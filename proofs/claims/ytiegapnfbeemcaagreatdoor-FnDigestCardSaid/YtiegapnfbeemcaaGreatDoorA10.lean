/-
  The executor is sound: terminators and blocks. No condition.
-/
import Derived.Test.YtiegapnfbeemcaaGreatDoorA09
import Derived.Orders
namespace Go.Proofs.YtiegapnfbeemcaaGreatDoor.X
set_option maxRecDepth 100000
open Go.RowKit

def Tr.set (n : Nat) (T : Tr) (d : Nat) (v : Value) : Tr := T.setK n d v id
theorem setK_eq {β : Type} : ∀ (n : Nat) (T : Tr) (d : Nat) (v : Value) (k : Tr → β), T.setK n d v k = k (T.set n d v)
  | 0, _, _, _, _ => rfl
  | n + 1, .node l r, d, v, k => by
    unfold Tr.set Tr.setK
    split
    · rw [setK_eq n l, setK_eq n l]; rfl
    · rw [setK_eq n r, setK_eq n r]; rfl
  | n + 1, .nil, d, v, k => by
    unfold Tr.set Tr.setK
    split
    · rw [setK_eq n .nil, setK_eq n .nil]; rfl
    · rw [setK_eq n .nil, setK_eq n .nil]; rfl
  | n + 1, .leaf _, d, v, k => by
    unfold Tr.set Tr.setK
    split
    · rw [setK_eq n .nil, setK_eq n .nil]; rfl
    · rw [setK_eq n .nil, setK_eq n .nil]; rfl
theorem get_nil : ∀ (n t : Nat), Tr.nil.get n t = none
  | 0, _ => rfl
  | _ + 1, _ => rfl
theorem get_set : ∀ (n : Nat) (T : Tr) (d : Nat) (v : Value) (t : Nat), d < 2 ^ n → (T.set n d v).get n t = if t = d then some v else T.get n t
  | 0, T, d, v, t, hd => by
    have : d = 0 := by omega
    subst this
    show (if Nat.beq t 0 = true then some v else none) = _
    by_cases ht : t = 0
    · subst ht; rfl
    · have hb : ¬ Nat.beq t 0 = true := fun e => ht (Nat.eq_of_beq_eq_true e)
      rw [if_neg hb, if_neg ht]
      cases T with
      | leaf u => show _ = (if Nat.beq t 0 = true then some u else none); rw [if_neg hb]
      | nil => rfl
      | node l r => rfl
  | n + 1, T, d, v, t, hd => by
    have hd2 : d / 2 < 2 ^ n := by rw [Nat.pow_succ] at hd; omega
    have key : ∀ l r : Tr, (match Nat.beq (d % 2) 0 with | true => Tr.node (l.set n (d / 2) v) r | false => Tr.node l (r.set n (d / 2) v)).get (n + 1) t = if t = d then some v else (Tr.node l r).get (n + 1) t := fun l r => by
      by_cases h0 : d % 2 = 0
      · rw [show Nat.beq (d % 2) 0 = true by rw [h0]; rfl]
        show (match Nat.beq (t % 2) 0 with | true => (l.set n (d / 2) v).get n (t / 2) | false => r.get n (t / 2)) = if t = d then some v else (match Nat.beq (t % 2) 0 with | true => l.get n (t / 2) | false => r.get n (t / 2))
        by_cases ht : t % 2 = 0
        · rw [show Nat.beq (t % 2) 0 = true by rw [ht]; rfl]
          simp only
          rw [get_set n l (d / 2) v (t / 2) hd2]
          by_cases e : t = d
          · rw [if_pos e, if_pos (by omega)]
          · rw [if_neg e, if_neg (by omega)]
        · have : Nat.beq (t % 2) 0 = false := by
            have : t % 2 = 1 := by omega
            rw [this]; rfl
          rw [this, if_neg (by intro e; subst e; omega)]
      · have h1 : d % 2 = 1 := by omega
        rw [show Nat.beq (d % 2) 0 = false by rw [h1]; rfl]
        show (match Nat.beq (t % 2) 0 with | true => l.get n (t / 2) | false => (r.set n (d / 2) v).get n (t / 2)) = if t = d then some v else (match Nat.beq (t % 2) 0 with | true => l.get n (t / 2) | false => r.get n (t / 2))
        by_cases ht : t % 2 = 0
        · rw [show Nat.beq (t % 2) 0 = true by rw [ht]; rfl, if_neg (by intro e; subst e; omega)]
        · have : Nat.beq (t % 2) 0 = false := by
            have : t % 2 = 1 := by omega
            rw [this]; rfl
          rw [this]
          simp only
          rw [get_set n r (d / 2) v (t / 2) hd2]
          by_cases e : t = d
          · rw [if_pos e, if_pos (by omega)]
          · rw [if_neg e, if_neg (by omega)]
    have hset : ∀ l r : Tr, (Tr.node l r).set (n + 1) d v = (match Nat.beq (d % 2) 0 with | true => Tr.node (l.set n (d / 2) v) r | false => Tr.node l (r.set n (d / 2) v)) := fun l r => by
      show (match Nat.beq (d % 2) 0 with | true => l.setK n (d / 2) v fun l' => id (Tr.node l' r) | false => r.setK n (d / 2) v fun r' => id (Tr.node l r')) = _
      cases Nat.beq (d % 2) 0
      · simp only; rw [setK_eq]; rfl
      · simp only; rw [setK_eq]; rfl
    have hnn : ∀ t, (Tr.node .nil .nil).get (n + 1) t = none := fun t => by
      show (match Nat.beq (t % 2) 0 with | true => Tr.nil.get n (t / 2) | false => Tr.nil.get n (t / 2)) = none
      cases Nat.beq (t % 2) 0 <;> exact get_nil n _
    cases T with
    | node l r => rw [hset]; exact key l r
    | nil =>
      have e : Tr.nil.set (n + 1) d v = (Tr.node .nil .nil).set (n + 1) d v := rfl
      rw [e, hset, key, hnn, get_nil]
    | leaf u =>
      have e : (Tr.leaf u).set (n + 1) d v = (Tr.node .nil .nil).set (n + 1) d v := rfl
      have e2 : (Tr.leaf u).get (n + 1) t = none := rfl
      rw [e, hset, key, hnn, e2]

/-- The temporaries, the memory, what is deferred. -/
structure SR (N : Nat) (φ : Env) (T : Tr) (H : Heap) (D : Dfr) (a : Act) (w : World) : Prop where
  size : a.tmps.size = N
  small : N ≤ 512
  tmps : TR φ T a
  mem : WR φ H w
  dfr : DR φ D a.defers

section
variable {N : Nat} {φ : Env} {T : Tr} {H : Heap} {D : Dfr} {a : Act} {w : World}
theorem opOk_of (hT : TR φ T a) (hW : WR φ H w) (o : Op) : OpOk φ T a o := fun _ _ _ hv => ev_sound hT hW hv
theorem TR.put (hT : TR φ T a) {d : Nat} (hd : d < a.tmps.size) (hs : a.tmps.size ≤ 512) {v v' : Value} (hm : mv φ v = some v') : TR φ (T.set DEP d v) (a.put (some d) v') := fun t u hu => by
  rw [get_set _ _ _ _ _ (show d < 2 ^ DEP by unfold DEP; omega)] at hu
  show mv φ u = some ((a.tmps.setIfInBounds d v').getD t undef)
  rw [Array.getD_eq_getD_getElem?, Array.getElem?_setIfInBounds]
  by_cases e : t = d
  · subst e
    rw [if_pos rfl] at hu
    rw [if_pos rfl, if_pos hd]
    rw [← Option.some.inj hu, hm]; rfl
  · rw [if_neg e] at hu
    rw [if_neg (fun h => e h.symm), ← Array.getD_eq_getD_getElem?]
    exact hT t u hu
theorem SR.put_ {β : Type} (h : SR N φ T H D a w) {d : Option Nat} {v v' : Value} (hm : mv φ v = some v') {k : Tr → Option β} {r : β} (hk : putK N T d v k = some r) : ∃ T', k T' = some r ∧ SR N φ T' H D (a.put d v') w := by
  unfold putK at hk
  split at hk
  · rename_i d
    split at hk
    · rename_i hd
      have hd := blt_of hd
      rw [setK_eq] at hk
      have hd' : d < a.tmps.size := by rw [h.size]; exact hd
      exact ⟨_, hk, ⟨by show (a.tmps.setIfInBounds d v').size = N; rw [Array.size_setIfInBounds, h.size], h.small, h.tmps.put hd' (by rw [h.size]; exact h.small) hm, h.mem, h.dfr⟩⟩
    · cases hk
  · exact ⟨T, hk, h⟩
theorem dst_eq (ops : Array Oper) (j : Nat) : dstX ops.toList j = (ops[j]?).bind (·.dst) := by
  unfold dstX
  rw [getL_eq, Array.getElem?_toList]
  cases ops[j]? <;> rfl
theorem want_ok' {ops : Array Oper} {o : Oper} {b : Bool} (hT : ∀ j want d v, o.guard = some (j, want) → (ops[j]?).bind (·.dst) = some d → T.get DEP d = some v → mv φ v = some (a.tmps.getD d undef)) (h : wantX ops.toList T o.guard = some b) : Region.wanted o (yielded ops a.tmps) = b := by
  unfold Region.wanted
  unfold wantX at h
  cases hg : o.guard with
  | none => rw [hg] at h; exact Option.some.inj h
  | some p =>
    obtain ⟨j, want⟩ := p
    rw [hg] at h
    simp only at h
    rw [dst_eq] at h
    split at h
    · rename_i d hd
      have key : ∀ v v', T.get DEP d = some v → mv φ v = some v' → a.tmps.getD d undef = v' := fun v v' h1 h2 => by
        have := hT j want d v hg hd h1
        rw [h2] at this
        exact (Option.some.inj this).symm
      split at h
      · rename_i hv
        have e := key _ _ hv rfl
        have h := Option.some.inj h
        subst h
        have hy : yielded ops a.tmps j = some true := by
          unfold yielded
          rw [hd]
          show (match a.tmps[d]? with | some (.bool b) => some b | _ => none) = _
          rw [Array.getD_eq_getD_getElem?] at e
          cases hq : a.tmps[d]? with
          | none => rw [hq] at e; cases e
          | some x => rw [hq] at e; change x = _ at e; subst e; rfl
        show (yielded ops a.tmps j == some want) = want
        rw [hy]; cases want <;> rfl
      · rename_i hv
        have e := key _ _ hv rfl
        have h := Option.some.inj h
        subst h
        have hy : yielded ops a.tmps j = some false := by
          unfold yielded
          rw [hd]
          show (match a.tmps[d]? with | some (.bool b) => some b | _ => none) = _
          rw [Array.getD_eq_getD_getElem?] at e
          cases hq : a.tmps[d]? with
          | none => rw [hq] at e; cases e
          | some x => rw [hq] at e; change x = _ at e; subst e; rfl
        show (yielded ops a.tmps j == some want) = !want
        rw [hy]; cases want <;> rfl
      · rename_i vs hv
        have h := Option.some.inj h
        subst h
        have e := hT j want d _ hg hd hv
        obtain ⟨l, _, e⟩ := mv_tuple e
        have hy : yielded ops a.tmps j = none := by
          unfold yielded
          rw [hd]
          show (match a.tmps[d]? with | some (.bool b) => some b | _ => none) = _
          rw [Array.getD_eq_getD_getElem?] at e
          cases hq : a.tmps[d]? with
          | none => rfl
          | some x => rw [hq] at e; change x = _ at e; subst e; rfl
        show (yielded ops a.tmps j == some want) = false
        rw [hy]; rfl
      · cases h
    · cases h
theorem want_ok (hT : TR φ T a) {ops : Array Oper} {o : Oper} {b : Bool} (h : wantX ops.toList T o.guard = some b) : Region.wanted o (yielded ops a.tmps) = b := want_ok' (fun _ _ d v _ _ hv => hT d v hv) h
theorem reg_seq {call : CallX} (hc : CallOk call) {ops : Array Oper} {Q : Exit → Act → World → Prop} : ∀ (l : List Oper) (φ : Env) (T : Tr) (H : Heap) (D : Dfr) (a : Act) (w : World) (s : St), regX call N ops.toList l T H D = some s → SR N φ T H D a w →
    (∀ ψ a' w', EX φ ψ w → FR φ w w' → SR N ψ s.T s.H s.D a' w' → Q .normal a' w') → wpList Tryz.prog ops Q l a w
  | [], φ, T, H, D, a, w, s, h, hS, hQ => by
    have h := Option.some.inj h
    subst h
    exact hQ φ a w (EX.refl _ _) (FR.refl _ _) hS
  | o :: l, φ, T, H, D, a, w, s, h, hS, hQ => by
    unfold regX at h
    refine wpList_step fun K hK => ?_
    split at h
    · rename_i hw
      rw [if_pos (want_ok hS.tmps hw)]
      refine op_sound hc h (opOk_of hS.tmps hS.mem _) hS.mem hS.dfr fun v H' D' ψ v' a' w' hk hX hW' hF hm hD' ha' => ?_
      have hS' : SR N ψ T H' D' a' w' := ⟨by rw [ha']; exact hS.size, hS.small, fun t u hu => by rw [ha']; exact mv_mono hX.1 (hS.tmps t u hu), hW', hD'⟩
      obtain ⟨T', hk', hS''⟩ := hS'.put_ hm hk
      exact hK _ _ (reg_seq hc l ψ T' H' D' _ w' s hk' hS'' fun χ a2 w2 h1 h2 h3 => hQ χ a2 w2 (hX.trans h1 hF.size) (hF.trans hX h2) h3)
    · rename_i hw
      rw [if_neg (by rw [want_ok hS.tmps hw]; exact Bool.false_ne_true)]
      obtain ⟨T', hk', hS''⟩ := hS.put_ (v := .tuple #[]) (v' := undef) rfl h
      exact hK _ _ (reg_seq hc l φ T' H D _ w s hk' hS'' hQ)
    · cases h
end
end Go.Proofs.YtiegapnfbeemcaaGreatDoor.X

namespace Go.Proofs.YtiegapnfbeemcaaGreatDoor.X
set_option maxRecDepth 100000
open Go.RowKit

/-- What stands ahead, by masks. -/
theorem maskE_bit {acc : List Nat} : ∀ {es : List Edge} {k : Nat}, (maskE acc es).testBit k = true → ∃ e ∈ es, Region.binds .any e = true ∧ (k = e.on ∨ ∃ m, acc[e.on]? = some m ∧ m.testBit k = true)
  | [], k, h => by
    unfold maskE at h
    simp at h
  | e :: es, k, h => by
    unfold maskE at h
    split at h
    · rename_i hb
      have h' : (((2 ^ e.on ||| (match getL acc e.on with | some m => m | none => 0)) ||| maskE acc es) : Nat).testBit k = true := h
      rw [Nat.testBit_or, Nat.testBit_or, Bool.or_eq_true, Bool.or_eq_true] at h'
      rcases h' with (h1 | h1) | h1
      · rw [Nat.testBit_two_pow] at h1
        exact ⟨e, List.mem_cons_self, hb, .inl (by simpa using h1 : e.on = k).symm⟩
      · rw [getL_eq] at h1
        cases hq : acc[e.on]? with
        | none => rw [hq] at h1; simp at h1
        | some m => rw [hq] at h1; exact ⟨e, List.mem_cons_self, hb, .inr ⟨m, hq, h1⟩⟩
      · obtain ⟨e', h2, h3⟩ := maskE_bit h1
        exact ⟨e', List.mem_cons_of_mem _ h2, h3⟩
    · obtain ⟨e', h2, h3⟩ := maskE_bit h
      exact ⟨e', List.mem_cons_of_mem _ h2, h3⟩
theorem masks_at : ∀ (l : List Oper) (acc : List Nat), (masksX l acc).take acc.length = acc ∧ ∀ (i : Nat) (o : Oper), l[i]? = some o → (masksX l acc)[acc.length + i]? = some (maskE ((masksX l acc).take (acc.length + i)) o.after.toList)
  | [], acc => by
    unfold masksX
    exact ⟨List.take_length, fun i o h => by simp at h⟩
  | o :: l, acc => by
    unfold masksX
    rw [natK_eq, pushK_eq]
    obtain ⟨h1, h2⟩ := masks_at l (acc ++ [maskE acc o.after.toList])
    rw [List.length_append, List.length_cons, List.length_nil] at h1 h2
    have hpre : (masksX l (acc ++ [maskE acc o.after.toList])).take acc.length = acc := by
      have := congrArg (List.take acc.length) h1
      rw [List.take_take, Nat.min_eq_left (by omega)] at this
      rw [this]; simp
    refine ⟨hpre, fun i p hp => ?_⟩
    cases i with
    | zero =>
      have : o = p := by simpa using hp
      subst this
      rw [Nat.add_zero, hpre]
      have : ((masksX l (acc ++ [maskE acc o.after.toList])).take (acc.length + (0 + 1)))[acc.length]? = some (maskE acc o.after.toList) := by rw [h1]; simp
      rw [List.getElem?_take_of_lt (by omega)] at this
      exact this
    | succ i =>
      have := h2 i p (by simpa using hp)
      rw [show acc.length + (0 + 1) + i = acc.length + (i + 1) by omega] at this
      exact this
theorem masks0 (l : List Oper) {i : Nat} {o : Oper} (h : l[i]? = some o) : (masksX l [])[i]? = some (maskE ((masksX l []).take i) o.after.toList) := by
  have := (masks_at l []).2 i o h
  simpa using this
/-- Whatever is closed and holds what an operation waits for holds all that stands ahead of it. -/
theorem closed_bit {l : List Oper} {L : Nat → Prop} (hL : ∀ (i : Nat) (o : Oper), l[i]? = some o → L i → ∀ e ∈ o.after.toList, Region.binds .any e = true → L e.on) :
    ∀ (i : Nat) (o : Oper), l[i]? = some o → (∀ e ∈ o.after.toList, Region.binds .any e = true → L e.on) → ∀ k, bitX (masksX l []) i k = true → L k := fun i => by
  induction i using Nat.strongRecOn with
  | _ i ih =>
    intro o ho ha k hk
    unfold bitX at hk
    rw [getL_eq, masks0 l ho] at hk
    simp only at hk
    obtain ⟨e, he, hb, h | ⟨m, hm, hk'⟩⟩ := maskE_bit hk
    · rw [h]; exact ha e he hb
    · have hlt : e.on < i := by
        have := (List.getElem?_eq_some_iff.1 hm).1
        simp at this; omega
      rw [List.getElem?_take_of_lt hlt] at hm
      have hlm := (List.getElem?_eq_some_iff.1 ho).1
      have hp : l[e.on]? = some l[e.on] := List.getElem?_eq_getElem (by omega)
      refine ih e.on hlt _ hp (fun e' he' hb' => hL e.on _ hp (ha e he hb) e' he' hb') k ?_
      unfold bitX
      rw [getL_eq, hm]; exact hk'
theorem row_of {st : Bool} {ms : List Nat} {i : Nat} {o : Oper} : ∀ {l : List Oper} {j0 : Nat}, rowX st ms i o j0 l = true → ∀ (j : Nat) (p : Oper), l[j]? = some p → pairX st ms i (j0 + j) o p = true
  | [], _, _, j, p, hp => by simp at hp
  | q :: l, j0, h, j, p, hp => by
    unfold rowX at h
    rw [Bool.and_eq_true] at h
    cases j with
    | zero =>
      have : q = p := by simpa using hp
      subst this; exact h.1
    | succ j =>
      have := row_of h.2 j p (by simpa using hp)
      rw [show j0 + 1 + j = j0 + (j + 1) by omega] at this
      exact this
theorem all_of {st : Bool} {ms : List Nat} : ∀ {l : List Oper} {i0 : Nat}, allX st ms i0 l = true → ∀ (i : Nat) (o : Oper), l[i]? = some o → guardX ms (i0 + i) o = true ∧ ∀ (j : Nat) (p : Oper), i < j → l[j]? = some p → pairX st ms (i0 + i) (i0 + j) o p = true
  | [], _, _, i, o, ho => by simp at ho
  | q :: l, i0, h, i, o, ho => by
    unfold allX at h
    rw [Bool.and_eq_true, Bool.and_eq_true, Bool.and_eq_true] at h
    cases i with
    | zero =>
      have : q = o := by simpa using ho
      subst this
      refine ⟨h.1.1.2, fun j p hj hp => ?_⟩
      cases j with
      | zero => omega
      | succ j =>
        have := row_of h.1.2 j p (by simpa using hp)
        rw [show i0 + 1 + j = i0 + (j + 1) by omega] at this
        exact this
    | succ i =>
      obtain ⟨h1, h2⟩ := all_of h.2 i o (by simpa using ho)
      rw [show i0 + 1 + i = i0 + (i + 1) by omega] at h1 h2
      refine ⟨h1, fun j p hj hp => ?_⟩
      cases j with
      | zero => omega
      | succ j =>
        have := h2 j p (by omega) (by simpa using hp)
        rw [show i0 + 1 + j = i0 + (j + 1) by omega] at this
        exact this

set_option linter.unusedSimpArgs false in
/-- An operation that turns no memory; one that does not look at it either. -/
theorem nonW {call : CallX} {o : Op} {T : Tr} {H H1 : Heap} {D D1 : Dfr} {v : Value} (hw : isW o = false) (h : opX call o T H D (fun v H D => some (v, H, D)) = some (v, H1, D1)) :
    H1 = H ∧ D1 = D ∧ (isR o = false → ∀ H' D', opX call o T H' D' (fun v H D => some (v, H, D)) = some (v, H', D')) := by
  have fin : ∀ u : Value, some (u, H, D) = some (v, H1, D1) → H1 = H ∧ D1 = D ∧ u = v := fun u e => by
    have e := Option.some.inj e
    injection e with e1 e2
    injection e2 with e2 e3
    exact ⟨e2.symm, e3.symm, e1⟩
  cases o <;> simp only [opX] at h ⊢
  case move x =>
    split at h
    · rename_i u hu
      obtain ⟨rfl, rfl, rfl⟩ := fin _ h
      exact ⟨rfl, rfl, fun _ H' D' => by simp only [hu]⟩
    · cases h
  case assign x =>
    split at h
    · rename_i u hu
      obtain ⟨rfl, rfl, rfl⟩ := fin _ h
      exact ⟨rfl, rfl, fun _ H' D' => by simp only [hu]⟩
    · cases h
  case pick c x y =>
    split at h
    · rename_i hc
      split at h
      · rename_i u hu
        obtain ⟨rfl, rfl, rfl⟩ := fin _ h
        exact ⟨rfl, rfl, fun _ H' D' => by simp only [hc, hu]⟩
      · cases h
    · rename_i hc
      split at h
      · rename_i u hu
        obtain ⟨rfl, rfl, rfl⟩ := fin _ h
        exact ⟨rfl, rfl, fun _ H' D' => by simp only [hc, hu]⟩
      · cases h
    · cases h
  case build t ps =>
    split at h
    · rename_i zs vs hz hvs
      split at h
      · cases h
      · rename_i h198
        split at h
        · rename_i cs hcs
          obtain ⟨rfl, rfl, rfl⟩ := fin _ h
          exact ⟨rfl, rfl, fun _ H' D' => by simp only [hz, hvs, h198, hcs]; rfl⟩
        · cases h
    · cases h
  case load t x =>
    split at h
    · split at h
      · split at h
        · obtain ⟨rfl, rfl, rfl⟩ := fin _ h
          exact ⟨rfl, rfl, fun hr => by cases hr⟩
        · cases h
      · cases h
    · cases h
  case nilCheck x =>
    split at h
    · rename_i ad hx
      obtain ⟨rfl, rfl, rfl⟩ := fin _ h
      exact ⟨rfl, rfl, fun _ H' D' => by simp only [hx]⟩
    · cases h
  case binOp op t x y yt =>
    split at h
    · rename_i u1 u2 h1 h2
      split at h
      · rename_i hl
        split at h
        · rename_i r hr
          rw [valK_eq] at h
          obtain ⟨rfl, rfl, rfl⟩ := fin _ h
          refine ⟨rfl, rfl, fun hR H' D' => ?_⟩
          have hb : binX H' op t u1 u2 = some r := by
            have key : ∀ G : Heap, binX G op t u1 u2 = binX H1 op t u1 u2 := fun G => by
              unfold binX
              split <;> first | rfl | (exfalso; simp [isR] at hR)
            rw [key H']; exact hr
          simp only [h1, h2, hl, hb, if_true, valK_eq]
        · cases h
      · cases h
    · cases h
  case unOp op t x =>
    split at h
    · rename_i u hu
      split at h
      · rename_i r hr
        rw [valK_eq] at h
        obtain ⟨rfl, rfl, rfl⟩ := fin _ h
        exact ⟨rfl, rfl, fun _ H' D' => by simp only [hu, hr, valK_eq]⟩
      · cases h
    · cases h
  case convert s d x =>
    split at h
    · rename_i kd n hu
      split at h
      · rename_i r hr
        rw [valK_eq] at h
        obtain ⟨rfl, rfl, rfl⟩ := fin _ h
        exact ⟨rfl, rfl, fun _ H' D' => by simp only [hu, hr, valK_eq]⟩
      · cases h
    · cases h
  case makeInterface t x =>
    split at h
    · rename_i ad hu
      split at h
      · rename_i ht
        obtain ⟨rfl, rfl, rfl⟩ := fin _ h
        exact ⟨rfl, rfl, fun _ H' D' => by simp only [hu, ht, if_true]⟩
      · cases h
    · cases h
  case slice t x lo hi mx =>
    split at h
    · rename_i e u l1 h1 m1 he hx hlo hhi hmx
      split at h
      · rename_i r hr
        rw [valK_eq] at h
        obtain ⟨rfl, rfl, rfl⟩ := fin _ h
        exact ⟨rfl, rfl, fun _ H' D' => by simp only [he, hx, hlo, hhi, hmx, hr, valK_eq]⟩
      · cases h
    · cases h
  case fieldAddr t x i =>
    split at h
    · rename_i b off j hx hj
      rw [natK_eq] at h
      obtain ⟨rfl, rfl, rfl⟩ := fin _ h
      exact ⟨rfl, rfl, fun _ H' D' => by simp only [hx, hj, natK_eq]⟩
    · cases h
  case indexAddr t x i =>
    split at h
    · rename_i b off n c kd j hx hi
      split at h
      · rename_i e he
        split at h
        · rename_i hj
          rw [natK_eq] at h
          obtain ⟨rfl, rfl, rfl⟩ := fin _ h
          exact ⟨rfl, rfl, fun _ H' D' => by simp only [hx, hi, he, hj, if_true, natK_eq]⟩
        · cases h
      · cases h
    · rename_i b off kd j hx hi
      split at h
      · rename_i hj
        rw [natK_eq] at h
        obtain ⟨rfl, rfl, rfl⟩ := fin _ h
        exact ⟨rfl, rfl, fun _ H' D' => by simp only [hx, hi, hj, if_true, natK_eq]⟩
      · cases h
    · cases h
  case index t x i =>
    split at h
    · rename_i s kd n hx hi
      split at h
      · rename_i ht
        split at h
        · rename_i r hr
          rw [valK_eq] at h
          obtain ⟨rfl, rfl, rfl⟩ := fin _ h
          exact ⟨rfl, rfl, fun _ H' D' => by simp only [hx, hi, ht, if_true, hr, valK_eq]⟩
        · cases h
      · cases h
    · cases h
  case extract x i =>
    split at h
    · rename_i vs hx
      split at h
      · rename_i u hu
        obtain ⟨rfl, rfl, rfl⟩ := fin _ h
        exact ⟨rfl, rfl, fun _ H' D' => by simp only [hx, hu]⟩
      · cases h
    · cases h
  case call c =>
    obtain ⟨ce, args, ts⟩ := c
    cases ce with
    | builtin b =>
      simp only at h ⊢
      split at h
      · rename_i vs hvs
        split at h
        · rename_i h1
          split at h
          · split at h
            · rename_i u hu
              rw [valK_eq] at h
              obtain ⟨rfl, rfl, rfl⟩ := fin _ h
              exact ⟨rfl, rfl, fun _ H' D' => by simp only [h1, if_true, hu, valK_eq]⟩
            · cases h
          · rename_i hx
            have : isPureB b = true := by simpa [isW] using hw
            rw [this] at hx; cases hx
        · cases h
      · cases h
    | value x =>
      cases x with
      | func f =>
        simp only at h ⊢
        split at h
        · rename_i vs hvs
          split at h
          · split at h
            · split at h
              · obtain ⟨rfl, rfl, rfl⟩ := fin _ h
                exact ⟨rfl, rfl, fun hr => by cases hr⟩
              · cases h
            · rename_i hx
              have : isExt f = true := by simpa [isW] using hw
              rw [this] at hx; cases hx
          · cases h
        · cases h
      | _ => simp only at h; cases h
    | invoke x m => cases hw
  all_goals first | cases h | cases hw
end Go.Proofs.YtiegapnfbeemcaaGreatDoor.X

namespace Go.Proofs.YtiegapnfbeemcaaGreatDoor.X
set_option maxRecDepth 100000
open Go.RowKit

abbrev S3 := Tr × Heap × Dfr
/-- The states in the text's order, and what each operation gave. -/
structure Trc (call : CallX) (N : Nat) (ops l : List Oper) (S : Nat → S3) (V : Nat → Value) : Prop where
  step : ∀ (i : Nat) (o : Oper), l[i]? = some o → stepD call ops o (S i).1 (S i).2.1 (S i).2.2 = some (V i, (S (i + 1)).2.1, (S (i + 1)).2.2)
  putS : ∀ (i : Nat) (o : Oper) (d : Nat), l[i]? = some o → o.dst = some d → d < N ∧ (S (i + 1)).1 = (S i).1.set DEP d (V i)
  putN : ∀ (i : Nat) (o : Oper), l[i]? = some o → o.dst = none → (S (i + 1)).1 = (S i).1
theorem trace_of {call : CallX} {N : Nat} {ops : List Oper} : ∀ (l : List Oper) (T : Tr) (H : Heap) (D : Dfr) (s : St), regD call N ops l T H D = some s → ∃ S V, Trc call N ops l S V ∧ S 0 = (T, H, D) ∧ S l.length = (s.T, s.H, s.D)
  | [], T, H, D, s, h => by
    have h := Option.some.inj h
    subst h
    exact ⟨fun _ => (T, H, D), fun _ => undef, ⟨fun i o ho => by simp at ho, fun i o d ho => by simp at ho, fun i o ho => by simp at ho⟩, rfl, rfl⟩
  | o :: l, T, H, D, s, h => by
    unfold regD at h
    split at h
    · rename_i v H1 D1 hv
      have : ∃ T1, regD call N ops l T1 H1 D1 = some s ∧ (∀ d, o.dst = some d → d < N ∧ T1 = T.set DEP d v) ∧ (o.dst = none → T1 = T) := by
        unfold putK at h
        cases hdst : o.dst with
        | none =>
          rw [hdst] at h
          exact ⟨T, h, fun d e => (by cases e), fun _ => rfl⟩
        | some d =>
          rw [hdst] at h
          simp only at h
          split at h
          · rename_i hlt
            rw [setK_eq] at h
            refine ⟨_, h, fun d' e => ?_, fun e => by cases e⟩
            have e := Option.some.inj e
            subst e
            exact ⟨blt_of hlt, rfl⟩
          · cases h
      obtain ⟨T1, h1, h2, h3⟩ := this
      obtain ⟨S, V, ht, e0, e1⟩ := trace_of l T1 H1 D1 s h1
      refine ⟨fun i => match i with | 0 => (T, H, D) | i + 1 => S i, fun i => match i with | 0 => v | i + 1 => V i, ⟨fun i p hp => ?_, fun i p d hp hd => ?_, fun i p hp hd => ?_⟩, rfl, e1⟩
      · cases i with
        | zero =>
          have : o = p := by simpa using hp
          subst this
          show stepD call ops o T H D = some (v, (S 0).2.1, (S 0).2.2)
          rw [e0]; exact hv
        | succ i => exact ht.step i p (by simpa using hp)
      · cases i with
        | zero =>
          have : o = p := by simpa using hp
          subst this
          obtain ⟨a, b⟩ := h2 d hd
          refine ⟨a, ?_⟩
          show (S 0).1 = _
          rw [e0]; exact b
        | succ i => exact ht.putS i p d (by simpa using hp) hd
      · cases i with
        | zero =>
          have : o = p := by simpa using hp
          subst this
          show (S 0).1 = T
          rw [e0]; exact h3 hd
        | succ i => exact ht.putN i p (by simpa using hp) hd
    · cases h
section
variable {st : Bool} {call : CallX} {N : Nat} {l : List Oper} {S : Nat → S3} {V : Nat → Value}
theorem Trc.tmps (ht : Trc call N l l S V) (hN : N ≤ 512) : ∀ (i : Nat), i ≤ l.length → ∀ (t : Nat) (u : Value), (S i).1.get DEP t = some u →
    (∃ k o, k < i ∧ l[k]? = some o ∧ o.dst = some t ∧ V k = u) ∨ ((∀ k o, k < i → l[k]? = some o → o.dst ≠ some t) ∧ (S 0).1.get DEP t = some u)
  | 0, _, t, u, h => .inr ⟨fun k o hk => by omega, h⟩
  | i + 1, hi, t, u, h => by
    have ho : l[i]? = some l[i] := List.getElem?_eq_getElem (by omega)
    cases hd : l[i].dst with
    | none =>
      rw [ht.putN i _ ho hd] at h
      rcases ht.tmps hN i (by omega) t u h with ⟨k, o, h1, h2, h3, h4⟩ | ⟨h1, h2⟩
      · exact .inl ⟨k, o, by omega, h2, h3, h4⟩
      · refine .inr ⟨fun k o hk hko => ?_, h2⟩
        by_cases e : k = i
        · subst e
          rw [ho] at hko
          rw [← Option.some.inj hko, hd]; exact fun e => by cases e
        · exact h1 k o (by omega) hko
    | some d =>
      obtain ⟨hdN, e⟩ := ht.putS i _ d ho hd
      rw [e, get_set _ _ _ _ _ (Nat.lt_of_lt_of_le hdN (show N ≤ 2 ^ DEP from hN))] at h
      by_cases htd : t = d
      · rw [if_pos htd] at h
        subst htd
        exact .inl ⟨i, _, by omega, ho, hd, Option.some.inj h⟩
      · rw [if_neg htd] at h
        rcases ht.tmps hN i (by omega) t u h with ⟨k, o, h1, h2, h3, h4⟩ | ⟨h1, h2⟩
        · exact .inl ⟨k, o, by omega, h2, h3, h4⟩
        · refine .inr ⟨fun k o hk hko => ?_, h2⟩
          by_cases e : k = i
          · subst e
            rw [ho] at hko
            rw [← Option.some.inj hko, hd]
            exact fun e => htd (Option.some.inj e).symm
          · exact h1 k o (by omega) hko
/-- Where no operation turns memory, it stays. -/
theorem Trc.same (ht : Trc call N l l S V) {i : Nat} {o : Oper} (ho : l[i]? = some o) (hw : isW o.op = false) : (S (i + 1)).2 = (S i).2 := by
  have h := ht.step i o ho
  unfold stepD at h
  split at h
  · obtain ⟨h1, h2, _⟩ := nonW hw h
    exact Prod.ext h1 h2
  · have h := Option.some.inj h
    injection h with _ h
    injection h with h1 h2
    exact (Prod.ext h1 h2).symm
  · cases h
theorem Trc.seg (ht : Trc call N l l S V) {i : Nat} : ∀ (m : Nat), i + m ≤ l.length → (∀ k o, i ≤ k → k < i + m → l[k]? = some o → isW o.op = false) → (S (i + m)).2 = (S i).2
  | 0, _, _ => rfl
  | m + 1, hm, h => by
    have ho : l[i + m]? = some l[i + m] := List.getElem?_eq_getElem (by omega)
    have := ht.same ho (h (i + m) _ (by omega) (by omega) ho)
    rw [show i + (m + 1) = i + m + 1 by omega, this]
    exact ht.seg m (by omega) fun k o h1 h2 h3 => h k o h1 (by omega) h3
theorem Trc.seg2 (ht : Trc call N l l S V) {i j : Nat} (hi : i ≤ l.length) (hj : j ≤ l.length) (h : ∀ k o, l[k]? = some o → isW o.op = true → (k < i ↔ k < j)) : (S i).2 = (S j).2 := by
  have key : ∀ a b, a ≤ b → b ≤ l.length → (∀ k o, a ≤ k → k < b → l[k]? = some o → isW o.op = false) → (S b).2 = (S a).2 := fun a b hab hb hh => by
    have := ht.seg (i := a) (b - a) (by omega) fun k o h1 h2 h3 => hh k o h1 (by omega) h3
    rw [show a + (b - a) = b by omega] at this
    exact this
  rcases Nat.le_total i j with hij | hij
  · refine (key i j hij hj fun k o h1 h2 h3 => ?_).symm
    cases hw : isW o.op with
    | false => rfl
    | true => have := (h k o h3 hw).2 h2; omega
  · refine key j i hij hi fun k o h1 h2 h3 => ?_
    cases hw : isW o.op with
    | false => rfl
    | true => have := (h k o h3 hw).1 h2; omega

theorem notT {b : Bool} (h : (!b) = true) : b = false := by cases b <;> first | rfl | cases h
theorem ev_sound2 {φ : Env} {H : Heap} {w : World} {T : Tr} {a : Act} {x : Operand} {v : Value} (hT : ∀ t, x ≠ .tmp t) (hW : WR φ H w) (h : evX T x = some v) : mv φ v = some (a.eval x) := by
  unfold evX at h
  split at h
  · exact absurd rfl (hT _)
  · split at h
    · rename_i hf
      injection h with h
      subst h
      exact mv_flat hf
    · cases h
  · injection h with h
    subst h
    obtain ⟨p, hp, e⟩ := hW.g2
    rw [mv_ptr' hp, e]; rfl
  · injection h with h
    subst h
    obtain ⟨p, hp, e⟩ := hW.g5
    rw [mv_ptr' hp, e]; rfl
  · injection h with h
    subst h
    obtain ⟨p, hp, e⟩ := hW.g6
    rw [mv_ptr' hp, e]; rfl
  · cases h
theorem readsT_of : ∀ {xs : List Operand} {t : Nat}, Operand.tmp t ∈ xs → readsT t xs = true
  | [], _, h => by cases h
  | x :: xs, t, h => by
    rcases List.mem_cons.1 h with e | h
    · subst e
      unfold readsT
      rw [Nat.beq_refl]
    · have := readsT_of h
      cases x with
      | tmp u => unfold readsT; cases Nat.beq t u <;> first | rfl | exact this
      | _ => unfold readsT; exact this
/-- What holds in the midst: the operations in L are done. -/
structure IX (N : Nat) (l : List Oper) (S : Nat → S3) (V : Nat → Value) (φ : Env) (w0 : World) (L : Nat → Prop) (a : Act) (w : World) : Prop where
  size : a.tmps.size = N
  at_ : ∃ (j : Nat) (ψ : Env), j ≤ l.length ∧ (∀ i o, l[i]? = some o → isW o.op = true → (L i ↔ i < j)) ∧ EX φ ψ w0 ∧ FR φ w0 w ∧ WR ψ (S j).2.1 w ∧ DR ψ (S j).2.2 a.defers ∧
    (∀ i o d, l[i]? = some o → L i → o.dst = some d → mv ψ (V i) = some (a.tmps.getD d undef)) ∧ (∀ t u, (S 0).1.get DEP t = some u → (∀ i o, l[i]? = some o → L i → o.dst ≠ some t) → mv ψ u = some (a.tmps.getD t undef))
/-- What is not counted as a load gives the same in whatever state. -/
def Stb (st : Bool) (call : CallX) (l : List Oper) (S : Nat → S3) (V : Nat → Value) : Prop := ∀ (i : Nat) (o : Oper), l[i]? = some o → isR o.op = true → isRs st o.op = false → ∀ j, j ≤ l.length → opX call o.op (S i).1 (S j).2.1 (S j).2.2 (fun v H D => some (v, H, D)) = some (V i, (S j).2.1, (S j).2.2)
theorem IX.step (hc : CallOk call) (ht : Trc call N l l S V) (hd : drawX st l = true) (hst : Stb st call l S V) (hN : N ≤ 512) {φ : Env} {w0 : World} {L : Nat → Prop} (hL : ∀ (i : Nat) (o : Oper), l[i]? = some o → L i → ∀ e ∈ o.after.toList, Region.binds .any e = true → L e.on)
    {i : Nat} {o : Oper} (ho : l[i]? = some o) (hni : ¬ L i) (hall : ∀ e ∈ o.after.toList, Region.binds .any e = true → L e.on) {a : Act} {w : World} (hI : IX N l S V φ w0 L a w) {K : Act → World → Prop} {Q : Exit → Act → World → Prop}
    (hK : ∀ a' w', IX N l S V φ w0 (fun k => L k ∨ k = i) a' w' → K a' w') : if Region.wanted o (yielded l.toArray a.tmps) = true then o.wp Tryz.prog a w K Q else K (a.put o.dst undef) w := by
  obtain ⟨hsz, j, ψ, hj, hw, hX, hF, hW, hD, hV, h0⟩ := hI
  have hil : i < l.length := (List.getElem?_eq_some_iff.1 ho).1
  have hbit := closed_bit hL i o ho hall
  have hpair : ∀ (k : Nat) (p : Oper), k < i → l[k]? = some p → pairX st (masksX l []) k i p o = true := fun k p hk hp => by
    have := (all_of hd k p hp).2 i o hk ho
    simpa using this
  have hpair' : ∀ (k : Nat) (p : Oper), i < k → l[k]? = some p → pairX st (masksX l []) i k o p = true := fun k p hk hp => by
    have := (all_of hd i o ho).2 k p hk hp
    simpa using this
  have hno : ∀ (k : Nat) (p : Oper), l[k]? = some p → L k → bitX (masksX l []) k i = true → False := fun k p hp hk hb =>
    hni (closed_bit hL k p hp (hL k p hp hk) i hb)
  have hcase : ∀ {k : Nat} {p : Oper}, pairX st (masksX l []) k i p o = true → sameD p.dst o.dst = false ∧ (L k ∨ (((isW p.op && (isW o.op || isRs st o.op)) || (isRs st p.op && isW o.op)) = false ∧ writesT p.dst o.op.operands.toList = false)) := fun {k p} hp => by
    unfold pairX at hp
    rw [Bool.and_eq_true, Bool.or_eq_true, Bool.and_eq_true, Bool.and_eq_true] at hp
    refine ⟨by simpa using hp.1, ?_⟩
    rcases hp.2 with hb | hb
    · exact .inl (hbit k hb)
    · exact .inr ⟨notT hb.1.1, notT hb.1.2⟩
  have hcase' : ∀ {k : Nat} {p : Oper}, l[k]? = some p → L k → pairX st (masksX l []) i k o p = true → sameD o.dst p.dst = false ∧ ((isW o.op && (isW p.op || isRs st p.op)) || (isRs st o.op && isW p.op)) = false ∧ writesT p.dst o.op.operands.toList = false := fun {k p} hpk hk hp => by
    unfold pairX at hp
    rw [Bool.and_eq_true, Bool.or_eq_true, Bool.and_eq_true, Bool.and_eq_true] at hp
    refine ⟨by simpa using hp.1, ?_⟩
    rcases hp.2 with hb | hb
    · exact (hno k p hpk hk hb).elim
    · exact ⟨notT hb.1.1, notT hb.2⟩
  -- the temporaries that it reads
  have hread : ∀ t u, readsT t o.op.operands.toList = true → (S i).1.get DEP t = some u → mv ψ u = some (a.tmps.getD t undef) := fun t u hr hu => by
    rcases ht.tmps hN i (by omega) t u hu with ⟨k, p, h1, h2, h3, h4⟩ | ⟨h1, h2⟩
    · obtain ⟨_, hl | ⟨_, hwt⟩⟩ := hcase (hpair k p h1 h2)
      · rw [← h4]; exact hV k p t h2 hl h3
      · rw [h3] at hwt
        rw [show writesT (some t) o.op.operands.toList = readsT t o.op.operands.toList from rfl, hr] at hwt
        cases hwt
    · refine h0 t u h2 fun k p hp hk e => ?_
      rcases Nat.lt_trichotomy k i with hlt | rfl | hgt
      · exact h1 k p hlt hp e
      · exact hni hk
      · obtain ⟨_, _, hwt⟩ := hcase' hp hk (hpair' k p hgt hp)
        rw [e, show writesT (some t) o.op.operands.toList = readsT t o.op.operands.toList from rfl, hr] at hwt
        cases hwt
  have hopd : OpOk ψ (S i).1 a o.op := fun x hx v hv => by
    cases x with
    | tmp t => exact hread t v (readsT_of hx) hv
    | const c => exact ev_sound2 (fun t e => by cases e) hW hv
    | global g => exact ev_sound2 (fun t e => by cases e) hW hv
    | func f => cases hv
  -- the guard
  have hgd : ∀ b, wantX l (S i).1 o.guard = some b → Region.wanted o (yielded l.toArray a.tmps) = b := fun b hb => by
    refine want_ok' (T := (S i).1) (φ := ψ) (ops := l.toArray) (fun k want d v hg hdk hv => ?_) (by simpa using hb)
    have hgg := (all_of hd i o ho).1
    unfold guardX at hgg
    rw [hg] at hgg
    simp only [Nat.zero_add] at hgg
    rw [Bool.and_eq_true] at hgg
    have hki := blt_of hgg.2
    have hLk := hbit k hgg.1
    have hp : l[k]? = some l[k] := List.getElem?_eq_getElem (by omega)
    have hdst : l[k].dst = some d := by
      have : l.toArray[k]? = some l[k] := by rw [List.getElem?_toArray]; exact hp
      rw [this] at hdk; exact hdk
    rcases ht.tmps hN i (by omega) d v hv with ⟨k', p, h1, h2, h3, h4⟩ | ⟨h1, _⟩
    · have hkk : k' = k := by
        rcases Nat.lt_trichotomy k' k with hlt | e | hgt
        · have := (all_of hd k' p h2).2 k _ hlt hp
          unfold pairX at this
          rw [Bool.and_eq_true, h3, hdst] at this
          simp [sameD] at this
        · exact e
        · have := (all_of hd k _ hp).2 k' p hgt h2
          unfold pairX at this
          rw [Bool.and_eq_true, h3, hdst] at this
          simp [sameD] at this
      subst hkk
      rw [← h4]
      exact hV k' _ d hp hLk hdst
    · exact absurd hdst (h1 k _ hki hp)
  -- where memory stands
  have hmem : isW o.op = true ∨ isRs st o.op = true → (∀ k p, l[k]? = some p → isW p.op = true → (L k ↔ k < i)) ∧ (S i).2 = (S j).2 := fun hwr => by
    have h1 : ∀ k p, l[k]? = some p → isW p.op = true → (L k ↔ k < i) := fun k p hp hwp => by
      rcases Nat.lt_trichotomy k i with hlt | rfl | hgt
      · obtain ⟨_, hl | ⟨hcf, _⟩⟩ := hcase (hpair k p hlt hp)
        · exact ⟨fun _ => hlt, fun _ => hl⟩
        · rw [hwp] at hcf
          rcases hwr with h | h <;> simp [h] at hcf
      · exact ⟨fun h => (hni h).elim, fun h => absurd h (Nat.lt_irrefl _)⟩
      · refine ⟨fun hk => ?_, fun h => by omega⟩
        obtain ⟨_, hcf, _⟩ := hcase' hp hk (hpair' k p hgt hp)
        rw [hwp] at hcf
        rcases hwr with h | h <;> simp [h] at hcf
    exact ⟨h1, ht.seg2 (by omega) hj fun k p hp hwp => (h1 k p hp hwp).symm.trans (hw k p hp hwp)⟩
  -- what is done then
  have hdone : ∀ (j' : Nat) (χ : Env) (v' : Value) (a' : Act) (w' : World), j' ≤ l.length → (∀ k p, l[k]? = some p → isW p.op = true → ((L k ∨ k = i) ↔ k < j')) → EX ψ χ w → WR χ (S j').2.1 w' → FR ψ w w' → mv χ (V i) = some v' → DR χ (S j').2.2 a'.defers → a'.tmps = a.tmps → K (a'.put o.dst v') w' := fun j' χ v' a' w' hj' hw' hX' hW' hF' hm hD' hta => by
    refine hK _ _ ⟨?_, j', χ, hj', hw', hX.trans hX' hF.size, hF.trans hX hF', hW', ?_, ?_, ?_⟩
    · cases o.dst with
      | none => show a'.tmps.size = N; rw [hta]; exact hsz
      | some d => show (a'.tmps.setIfInBounds d v').size = N; rw [Array.size_setIfInBounds, hta]; exact hsz
    · cases o.dst <;> exact hD'
    · intro k p d hp hk hdp
      by_cases hki : k = i
      · subst hki
        rw [ho] at hp
        have hp := Option.some.inj hp
        subst hp
        rw [hdp]
        obtain ⟨hdN, _⟩ := ht.putS k o d ho hdp
        show mv χ (V k) = some ((a'.tmps.setIfInBounds d v').getD d undef)
        rw [Array.getD_eq_getD_getElem?, Array.getElem?_setIfInBounds, if_pos rfl, if_pos (by rw [hta, hsz]; exact hdN), hm]; rfl
      · have hk := hk.resolve_right hki
        have hold := mv_mono hX'.1 (hV k p d hp hk hdp)
        have hne : o.dst ≠ some d := fun e => by
          rcases Nat.lt_trichotomy k i with hlt | e' | hgt
          · have := (hcase (hpair k p hlt hp)).1
            rw [hdp, e] at this
            simp [sameD] at this
          · exact hki e'
          · have := (hcase' hp hk (hpair' k p hgt hp)).1
            rw [hdp, e] at this
            simp [sameD] at this
        cases hod : o.dst with
        | none => show mv χ (V k) = some (a'.tmps.getD d undef); rw [hta]; exact hold
        | some d' =>
          show mv χ (V k) = some ((a'.tmps.setIfInBounds d' v').getD d undef)
          have hdd : d' ≠ d := fun e => hne (by rw [hod, e])
          rw [Array.getD_eq_getD_getElem?, Array.getElem?_setIfInBounds, if_neg hdd, ← Array.getD_eq_getD_getElem?, hta]; exact hold
    · intro t u hu hn
      have hold := mv_mono hX'.1 (h0 t u hu fun k p hp hk => hn k p hp (.inl hk))
      have hne := hn i o ho (.inr rfl)
      cases hod : o.dst with
      | none => show mv χ u = some (a'.tmps.getD t undef); rw [hta]; exact hold
      | some d' =>
        show mv χ u = some ((a'.tmps.setIfInBounds d' v').getD t undef)
        have hdd : d' ≠ t := fun e => hne (by rw [hod, e])
        rw [Array.getD_eq_getD_getElem?, Array.getElem?_setIfInBounds, if_neg hdd, ← Array.getD_eq_getD_getElem?, hta]; exact hold
  have hstep := ht.step i o ho
  have hw1 : (isW o.op = true ∨ isRs st o.op = true) → ∀ k p, l[k]? = some p → isW p.op = true → ((L k ∨ k = i) ↔ k < i + 1) := fun hwr k p hp hwp => by
    have := (hmem hwr).1 k p hp hwp
    constructor
    · rintro (h | h)
      · have := this.1 h; omega
      · omega
    · intro h
      by_cases e : k = i
      · exact .inr e
      · exact .inl (this.2 (by omega))
  have hw2 : isW o.op = false → ∀ k p, l[k]? = some p → isW p.op = true → ((L k ∨ k = i) ↔ k < j) := fun hwf k p hp hwp => by
    have := hw k p hp hwp
    have hki : k ≠ i := fun e => by
      subst e
      rw [ho] at hp
      rw [← Option.some.inj hp, hwf] at hwp; cases hwp
    exact ⟨fun h => this.1 (h.resolve_right hki), fun h => .inl (this.2 h)⟩
  unfold stepD at hstep
  split at hstep
  · rename_i hwant
    rw [if_pos (hgd true hwant)]
    by_cases hwr : isW o.op = true ∨ isRs st o.op = true
    · have hS := (hmem hwr).2
      rw [← hS] at hW hD
      refine op_sound hc hstep hopd hW hD fun v H' D' χ v' a' w' hk hX' hW' hF' hm hD' hta => ?_
      have hk := Option.some.inj hk
      injection hk with e1 hk
      injection hk with e2 e3
      subst e1; subst e2; subst e3
      exact hdone (i + 1) χ v' a' w' (by omega) (hw1 hwr) hX' hW' hF' hm hD' hta
    · have hwf : isW o.op = false := by cases h : isW o.op <;> simp_all
      have hrs : isRs st o.op = false := by cases h : isRs st o.op <;> simp_all
      obtain ⟨_, _, hind⟩ := nonW hwf hstep
      have hev : opX call o.op (S i).1 (S j).2.1 (S j).2.2 (fun v H D => some (v, H, D)) = some (V i, (S j).2.1, (S j).2.2) := by
        cases hrf : isR o.op with
        | false => exact hind hrf (S j).2.1 (S j).2.2
        | true => exact hst i o ho hrf hrs j hj
      refine op_sound hc hev hopd hW hD fun v H' D' χ v' a' w' hk hX' hW' hF' hm hD' hta => ?_
      have hk := Option.some.inj hk
      injection hk with e1 hk
      injection hk with e2 e3
      subst e1; subst e2; subst e3
      exact hdone j χ v' a' w' hj (hw2 hwf) hX' hW' hF' hm hD' hta
  · rename_i hwant
    rw [if_neg (by rw [hgd false hwant]; exact Bool.false_ne_true)]
    have hstep := Option.some.inj hstep
    injection hstep with e1 hstep
    injection hstep with e2 e3
    by_cases hwt : isW o.op = true
    · have hS := (hmem (.inl hwt)).2
      have hS1 : (S (i + 1)).2 = (S j).2 := (Prod.ext e2.symm e3.symm).trans hS
      refine hdone (i + 1) ψ undef a w (by omega) (hw1 (.inl hwt)) (EX.refl _ _) (by rw [hS1]; exact hW) (FR.refl _ _) (by rw [← e1]; rfl) (by rw [hS1]; exact hD) rfl
    · have hwf : isW o.op = false := by cases h : isW o.op <;> simp_all
      exact hdone j ψ undef a w hj (hw2 hwf) (EX.refl _ _) hW (FR.refl _ _) (by rw [← e1]; rfl) hD rfl
  · cases hstep

theorem low_of_all {st : Bool} {ms : List Nat} : ∀ {l : List Oper} {i0 : Nat}, allX st ms i0 l = true → ∀ (i : Nat) (o : Oper), l[i]? = some o → lowE (i0 + i) o.after.toList = true
  | [], _, _, i, o, ho => by simp at ho
  | q :: l, i0, h, i, o, ho => by
    unfold allX at h
    rw [Bool.and_eq_true, Bool.and_eq_true, Bool.and_eq_true] at h
    cases i with
    | zero =>
      have : q = o := by simpa using ho
      subst this
      exact h.1.1.1
    | succ i =>
      have := low_of_all h.2 i o (by simpa using ho)
      rw [show i0 + 1 + i = i0 + (i + 1) by omega] at this
      exact this
theorem lowE_of {i : Nat} : ∀ {es : List Edge}, lowE i es = true → ∀ e ∈ es, Region.binds .any e = true → e.on < i
  | [], _, e, he, _ => by cases he
  | x :: es, h, e, he, hb => by
    unfold lowE at h
    rw [Bool.and_eq_true, Bool.or_eq_true] at h
    rcases List.mem_cons.1 he with rfl | he
    · rcases h.1 with h1 | h1
      · rw [hb] at h1; cases h1
      · exact blt_of h1
    · exact lowE_of h.2 e he hb
theorem all_done (hd : drawX st l = true) {listed : Array Bool} (hsz : listed.size = l.length) (hr : Region.ready .any l.toArray listed = []) : ∀ i, i < l.length → listed.getD i false = true := fun i => by
  induction i using Nat.strongRecOn with
  | _ i ih =>
    intro hi
    cases hb : listed.getD i false with
    | true => rfl
    | false =>
      exfalso
      have ho : l[i]? = some l[i] := List.getElem?_eq_getElem hi
      have hlow := low_of_all hd i _ ho
      rw [Nat.zero_add] at hlow
      have : i ∈ Region.ready .any l.toArray listed := mem_ready.2 ⟨by rw [getD_two (by rw [hsz]; exact hi) true false]; exact hb, l[i], by rw [List.getElem?_toArray]; exact ho, fun e he hbb => ih e.on (lowE_of hlow e (Array.mem_toList_iff.2 he) hbb) (by have := lowE_of hlow e (Array.mem_toList_iff.2 he) hbb; omega)⟩
      rw [hr] at this; cases this
theorem reg_tr (hc : CallOk call) (hd : drawX st l = true) {Q : Exit → Act → World → Prop} {φ : Env} {T : Tr} {H : Heap} {D : Dfr} {a : Act} {w : World} {s : St} (ht : Trc call N l l S V) (hst : Stb st call l S V) (e0 : S 0 = (T, H, D)) (e1 : S l.length = (s.T, s.H, s.D)) (hS : SR N φ T H D a w)
    (hQ : ∀ ψ a' w', EX φ ψ w → FR φ w w' → SR N ψ s.T s.H s.D a' w' → Q .normal a' w') : wpAny Tryz.prog .any l.toArray Q l.length (Array.replicate l.length false) a w := by
  have hend : ∀ (listed : Array Bool) a' w', listed.size = l.length → Region.ready .any l.toArray listed = [] → IX N l S V φ w (fun i => listed.getD i false = true) a' w' → Q .normal a' w' := fun listed a' w' hsz hr hI => by
    have hall := all_done hd hsz hr
    obtain ⟨hs, j, ψ, hj, hw, hX, hF, hW, hD, hV, h0⟩ := hI
    have hSj : (S j).2 = (S l.length).2 := ht.seg2 hj (Nat.le_refl _) fun k o ho hwo => by
      have hk := (List.getElem?_eq_some_iff.1 ho).1
      exact ⟨fun _ => hk, fun _ => (hw k o ho hwo).1 (hall k hk)⟩
    refine hQ ψ a' w' hX hF ⟨hs, hS.small, fun t u hu => ?_, ?_, ?_⟩
    · have hu' : (S l.length).1.get DEP t = some u := by rw [e1]; exact hu
      rcases ht.tmps hS.small l.length (Nat.le_refl _) t u hu' with ⟨k, o, h1, h2, h3, h4⟩ | ⟨h1, h2⟩
      · rw [← h4]; exact hV k o t h2 (hall k h1) h3
      · exact h0 t u h2 fun i o ho _ => h1 i o (List.getElem?_eq_some_iff.1 ho).1 ho
    · rw [hSj, e1] at hW; exact hW
    · rw [hSj, e1] at hD; exact hD
  have key : ∀ (fuel : Nat) (listed : Array Bool) (a' : Act) (w' : World), listed.size = l.length → listed.toList.count false ≤ fuel → (∀ (i : Nat) (o : Oper), l[i]? = some o → listed.getD i false = true → ∀ e ∈ o.after.toList, Region.binds .any e = true → listed.getD e.on false = true) →
      IX N l S V φ w (fun i => listed.getD i false = true) a' w' → wpAny Tryz.prog .any l.toArray Q fuel listed a' w' := fun fuel => by
    induction fuel with
    | zero =>
      intro listed a' w' hsz hcnt _ hI
      have hr : Region.ready .any l.toArray listed = [] := by
        refine List.eq_nil_iff_forall_not_mem.2 fun i hi => ?_
        have h0 := (mem_ready.1 hi).1
        have := count_step (getD_lt h0) h0
        omega
      exact ⟨hr, hend listed a' w' hsz hr hI⟩
    | succ fuel ih =>
      intro listed a' w' hsz hcnt hcl hI
      refine ⟨fun hr => hend listed a' w' hsz hr hI, fun i hi => ?_⟩
      obtain ⟨h0, o, ho, hall⟩ := mem_ready.1 hi
      have hil := getD_lt h0
      have ho' : l[i]? = some o := by rw [List.getElem?_toArray] at ho; exact ho
      refine wpOp_step ho fun K hK => ?_
      refine hI.step hc ht hd hst hS.small hcl ho' (by rw [getD_two hil false true, h0]; exact Bool.false_ne_true) (fun e he hb => hall e (Array.mem_toList_iff.1 he) hb) fun a2 w2 hI2 => hK _ _ (ih _ a2 w2 (by simpa using hsz) (by have := count_step hil h0; omega) ?_ ?_)
      · intro k p hp hk e he hb
        have hset : ∀ m, (listed.setIfInBounds i true).getD m false = true ↔ (listed.getD m false = true ∨ m = i) := fun m => by
          rw [Array.getD_eq_getD_getElem?, Array.getElem?_setIfInBounds, Array.getD_eq_getD_getElem?]
          by_cases hmi : i = m
          · subst hmi; simp [hil]
          · rw [if_neg hmi]
            exact ⟨.inl, fun h => h.resolve_right fun e => hmi e.symm⟩
        rw [hset] at hk ⊢
        rcases hk with hk | rfl
        · exact .inl (hcl k p hp hk e he hb)
        · rw [ho'] at hp
          have hp := Option.some.inj hp
          subst hp
          exact .inl (hall e (Array.mem_toList_iff.1 he) hb)
      · have hset : ∀ m, (listed.setIfInBounds i true).getD m false = true ↔ (listed.getD m false = true ∨ m = i) := fun m => by
          rw [Array.getD_eq_getD_getElem?, Array.getElem?_setIfInBounds, Array.getD_eq_getD_getElem?]
          by_cases hmi : i = m
          · subst hmi; simp [hil]
          · rw [if_neg hmi]
            exact ⟨.inl, fun h => h.resolve_right fun e => hmi e.symm⟩
        have he : (fun m => (listed.setIfInBounds i true).getD m false = true) = fun m => listed.getD m false = true ∨ m = i := funext fun m => propext (hset m)
        rw [he]; exact hI2
  have hrep : ∀ m, (Array.replicate l.length false).getD m false = true → False := fun m hm => by
    rw [Array.getD_eq_getD_getElem?, Array.getElem?_replicate] at hm
    split at hm <;> cases hm
  refine key l.length _ a w (by simp) (by simp) (fun i o _ hi => (hrep i hi).elim) ⟨hS.size, 0, φ, Nat.zero_le _, fun i o _ _ => ⟨fun h => (hrep i h).elim, fun h => by omega⟩, EX.refl _ _, FR.refl _ _, by rw [e0]; exact hS.mem, by rw [e0]; exact hS.dfr, fun i o d _ hi => (hrep i hi).elim, fun t u hu _ => hS.tmps t u (by rw [e0] at hu; exact hu)⟩
theorem stb_false : Stb false call l S V := fun i o _ h1 h2 => by
  have h2 : isR o.op = false := h2
  rw [h1] at h2; cases h2
theorem reg_any (hc : CallOk call) (hd : drawX false l = true) {Q : Exit → Act → World → Prop} {φ : Env} {T : Tr} {H : Heap} {D : Dfr} {a : Act} {w : World} {s : St} (h : regD call N l l T H D = some s) (hS : SR N φ T H D a w)
    (hQ : ∀ ψ a' w', EX φ ψ w → FR φ w w' → SR N ψ s.T s.H s.D a' w' → Q .normal a' w') : wpAny Tryz.prog .any l.toArray Q l.length (Array.replicate l.length false) a w := by
  obtain ⟨S, V, ht, e0, e1⟩ := trace_of l T H D s h
  exact reg_tr hc hd ht stb_false e0 e1 hS hQ
end
theorem traceS {call : CallX} {N : Nat} {ops : List Oper} : ∀ (l : List Oper) (T : Tr) (H : Heap) (D : Dfr) (s : St) (L : List (Oper × Tr × Value)) (Hs : List Heap), regS call N ops l T H D = some (s, L, Hs) →
    regD call N ops l T H D = some s ∧ ∀ S V, Trc call N ops l S V → S 0 = (T, H, D) → (∀ i o, l[i]? = some o → L[i]? = some (o, (S i).1, V i)) ∧ ∀ j, j ≤ l.length → Hs[j]? = some (S j).2.1
  | [], T, H, D, s, L, Hs, h => by
    have h := Option.some.inj h
    injection h with h1 h
    injection h with h2 h3
    subst h1; subst h2; subst h3
    refine ⟨rfl, fun S V ht e0 => ⟨fun i o ho => by simp at ho, fun j hj => ?_⟩⟩
    obtain rfl : j = 0 := by simpa using hj
    rw [e0]; rfl
  | o :: l, T, H, D, s, L, Hs, h => by
    unfold regS at h
    split at h
    case h_2 => cases h
    rename_i v H1 D1 hv
    split at h
    case h_2 => cases h
    rename_i s' L' Hs' hp
    have h := Option.some.inj h
    injection h with h1 h
    injection h with h2 h3
    subst h1; subst h2; subst h3
    have key : ∃ T1, regS call N ops l T1 H1 D1 = some (s', L', Hs') ∧ (∀ d, o.dst = some d → d < N ∧ T1 = T.set DEP d v) ∧ (o.dst = none → T1 = T) := by
      unfold putK at hp
      cases hdst : o.dst with
      | none =>
        rw [hdst] at hp
        exact ⟨T, hp, fun d e => (by cases e), fun _ => rfl⟩
      | some d =>
        rw [hdst] at hp
        simp only at hp
        split at hp
        · rename_i hlt
          rw [setK_eq] at hp
          refine ⟨_, hp, fun d' e => ?_, fun e => by cases e⟩
          have e := Option.some.inj e
          subst e
          exact ⟨blt_of hlt, rfl⟩
        · cases hp
    obtain ⟨T1, h1, h2, h3⟩ := key
    obtain ⟨g1, g2⟩ := traceS l T1 H1 D1 s' L' Hs' h1
    refine ⟨?_, fun S V ht e0 => ?_⟩
    · unfold regD
      rw [hv]
      simp only
      unfold putK
      cases hdst : o.dst with
      | none => rw [h3 hdst] at g1; exact g1
      | some d =>
        obtain ⟨hlt, e⟩ := h2 d hdst
        simp only [setK_eq]
        rw [show Nat.blt d N = true from Nat.ble_eq_true_of_le hlt]
        rw [e] at g1; exact g1
    · have hv0 := ht.step 0 o rfl
      rw [e0] at hv0
      rw [hv] at hv0
      have hv0 := Option.some.inj hv0
      injection hv0 with q1 q2
      injection q2 with q2 q3
      have e1 : S 1 = (T1, H1, D1) := by
        refine Prod.ext ?_ (Prod.ext q2.symm q3.symm)
        cases hdst : o.dst with
        | none => rw [h3 hdst, ht.putN 0 o rfl hdst, e0]
        | some d => rw [(h2 d hdst).2, (ht.putS 0 o d rfl hdst).2, e0, ← q1]
      obtain ⟨r1, r2⟩ := g2 (fun i => S (i + 1)) (fun i => V (i + 1)) ⟨fun i p hp => ht.step (i + 1) p (by simpa using hp), fun i p d hp hd => ht.putS (i + 1) p d (by simpa using hp) hd, fun i p hp hd => ht.putN (i + 1) p (by simpa using hp) hd⟩ e1
      refine ⟨fun i p hp => ?_, fun j hj => ?_⟩
      · cases i with
        | zero =>
          have hp := Option.some.inj hp
          subst hp
          rw [e0, ← q1]; rfl
        | succ i => exact r1 i p (by simpa using hp)
      · cases j with
        | zero => rw [e0]; rfl
        | succ j => exact r2 j (by simpa using hj)
theorem reg_stab {call : CallX} {N : Nat} {l : List Oper} (hc : CallOk call) (hd : drawX true l = true) {Q : Exit → Act → World → Prop} {φ : Env} {T : Tr} {H : Heap} {D : Dfr} {a : Act} {w : World} {s : St} {L : List (Oper × Tr × Value)} {Hs : List Heap} (h : regS call N l l T H D = some (s, L, Hs)) (hb : stabX L Hs = true) (hS : SR N φ T H D a w)
    (hQ : ∀ ψ a' w', EX φ ψ w → FR φ w w' → SR N ψ s.T s.H s.D a' w' → Q .normal a' w') : wpAny Tryz.prog .any l.toArray Q l.length (Array.replicate l.length false) a w := by
  obtain ⟨h1, h2⟩ := traceS l T H D s L Hs h
  obtain ⟨S, V, ht, e0, e1⟩ := trace_of l T H D s h1
  obtain ⟨g1, g2⟩ := h2 S V ht e0
  refine reg_tr hc hd ht (fun i o ho hr hrs j hj => ?_) e0 e1 hS hQ
  have hL := g1 i o ho
  have hall := List.all_eq_true.1 hb _ (List.mem_of_getElem? hL)
  unfold stabL at hall
  split at hall
  · rename_i t x hop
    simp only at hop
    split at hall
    · rename_i b off c q hg hx hv
      rw [Bool.and_eq_true, List.all_eq_true] at hall
      have hj := hall.2 _ (List.mem_of_getElem? (g2 j hj))
      split at hj
      · rename_i c' q' hce
        rw [Bool.and_eq_true] at hj
        have e1 := Nat.eq_of_beq_eq_true hj.1
        have e2 := Nat.eq_of_beq_eq_true hj.2
        subst e1; subst e2
        simp only at hx hv
        rw [hop]
        simp only [opX, hx, hall.1, if_true, hce]
        rw [hv]
      · cases hj
    · cases hall
  · rename_i hno
    exfalso
    have e : isRs true o.op = isR o.op := by
      unfold isRs
      split
      · rename_i h; exact absurd h (hno _ _)
      · rfl
    rw [e, hr] at hrs; cases hrs
end Go.Proofs.YtiegapnfbeemcaaGreatDoor.X
