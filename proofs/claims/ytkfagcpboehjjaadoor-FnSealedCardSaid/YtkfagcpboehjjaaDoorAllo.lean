/- A region that draws its order, whose operations but a store at its end and one making of memory only read and call quietly: one walk serves every order, wherever the memory is made. No condition beyond the closed facts on the region's shape. -/
import Derived.Deep.Quiet
import Derived.Deep.QuietTactic
import Derived.StillTail
import Derived.WalkKit
import Derived.Laws.Tables
namespace Go.Proofs.YtkfagcpboehjjaaDoor

section
variable {P : Program} {md : Region.Mode} {ops : Array Oper} {C : Bool → World → Prop}

/-- One value, in every world of both classes; each class is kept. -/
def quietB (P : Program) (o : Oper) (a : Act) (C : Bool → World → Prop) (next : Act → Prop) : Prop := ∃ v, (∀ b w, C b w → o.quietAt P a (C b) w v) ∧ next (a.put o.dst v)
def wpQuietB (P : Program) (ops : Array Oper) (C : Bool → World → Prop) (Q : Act → Prop) : List Oper → Act → Prop
  | [], a => Q a
  | o :: rest, a => if Region.wanted o (yielded ops a.tmps) then quietB P o a C (wpQuietB P ops C Q rest) else wpQuietB P ops C Q rest (a.put o.dst undef)
theorem wpQuietB_nil {Q : Act → Prop} {a : Act} (h : Q a) : wpQuietB P ops C Q [] a := h
theorem wpQuietB_step {Q : Act → Prop} {a : Act} {o : Oper} {rest : List Oper}
    (h : ∀ K : Act → Prop, (∀ a, wpQuietB P ops C Q rest a → K a) → if Region.wanted o (yielded ops a.tmps) then quietB P o a C K else K (a.put o.dst undef)) : wpQuietB P ops C Q (o :: rest) a :=
  h _ (fun _ h => h)
def qOpB (P : Program) (ops : Array Oper) (C : Bool → World → Prop) (i : Nat) (K : Act → Prop) (a : Act) : Prop :=
  match ops[i]? with
  | none => K a
  | some o => if Region.wanted o (yielded ops a.tmps) then quietB P o a C K else K (a.put o.dst undef)
theorem quietB_mono {o : Oper} {a : Act} {K K' : Act → Prop} (h : ∀ a, K a → K' a) (hh : quietB P o a C K) : quietB P o a C K' :=
  let ⟨v, h1, h2⟩ := hh
  ⟨v, h1, h _ h2⟩
theorem qOpB_mono {i : Nat} {a : Act} {K K' : Act → Prop} (h : ∀ a, K a → K' a) (hh : qOpB P ops C i K a) : qOpB P ops C i K' a := by
  unfold qOpB at *
  split
  · exact h _ (by simpa [*] using hh)
  · rename_i o ho
    simp only [ho] at hh
    split
    · rename_i hw; simp only [hw, if_true] at hh; exact quietB_mono h hh
    · rename_i hw; simp only [hw] at hh; exact h _ hh
theorem wpOp_of_qOpB (b : Bool) {i : Nat} {a : Act} {K : Act → Prop} {K' : Act → World → Prop} {Q' : Exit → Act → World → Prop} {w : World} (hC : C b w) (h : ∀ a w', C b w' → K a → K' a w') (hh : qOpB P ops C i K a) : wpOp P ops Q' i K' a w := by
  refine wpOp_of_qOp (C := C b) hC h ?_
  unfold qOpB at hh
  unfold qOp
  split
  · rename_i ho; simpa only [ho] using hh
  · rename_i o ho
    simp only [ho] at hh
    split
    · rename_i hw
      simp only [hw, if_true] at hh
      obtain ⟨v, h1, h2⟩ := hh
      exact ⟨v, h1 b, h2⟩
    · rename_i hw; simp only [hw] at hh; exact hh
def YieldsB (P : Program) (ops : Array Oper) (C : Bool → World → Prop) (o : Oper) (v : Value) (a : Act) : Prop :=
  (Region.wanted o (yielded ops a.tmps) = true ∧ ∀ b w, C b w → o.quietAt P a (C b) w v) ∨
  (Region.wanted o (yielded ops a.tmps) = false ∧ v = undef)
theorem YieldsB.qOpB {i : Nat} {o : Oper} {v : Value} {a : Act} (hi : ops[i]? = some o) (hy : YieldsB P ops C o v a) {K : Act → Prop} (h : K (a.put o.dst v)) : qOpB P ops C i K a := by
  unfold YtkfagcpboehjjaaDoor.qOpB
  simp only [hi]
  rcases hy with ⟨hw, hv⟩ | ⟨hw, rfl⟩
  · simp only [hw, if_true]; exact ⟨v, hv, h⟩
  · simp only [hw, Bool.false_eq_true, if_false]; exact h
theorem YieldsB.of_same {o : Oper} {v : Value} {a a' : Act} (hy : YieldsB P ops C o v a) (he : execOp a'.eval o = execOp a.eval o)
    (hw : Region.wanted o (yielded ops a'.tmps) = Region.wanted o (yielded ops a.tmps)) : YieldsB P ops C o v a' := by
  unfold YieldsB Oper.quietAt at *
  rw [he, hw]
  exact hy
theorem yieldsB_of_qOpB {i : Nat} {o : Oper} {a : Act} {K : Act → Prop} (hi : ops[i]? = some o) (h : qOpB P ops C i K a) : ∃ v, YieldsB P ops C o v a ∧ K (a.put o.dst v) := by
  unfold qOpB at h
  simp only [hi] at h
  by_cases hw : Region.wanted o (yielded ops a.tmps) = true
  · simp only [hw, if_true] at h
    obtain ⟨v, h1, h2⟩ := h
    exact ⟨v, .inl ⟨hw, h1⟩, h2⟩
  · simp only [hw] at h
    exact ⟨undef, .inr ⟨by simpa using hw, rfl⟩, h⟩
/-- Whether oi's value is in its temporary already makes no difference to oj. -/
theorem qOpB_swap {j : Nat} {oi oj : Oper} {v : Value} (hj : ops[j]? = some oj) (hap : oi.apart ops oj = true) (hsj : ∀ cs b, oj.op ≠ .select cs b) {K : Act → Prop} {a : Act}
    (h : qOpB P ops C j K (a.put oi.dst v)) : qOpB P ops C j (fun a' => K (a'.put oi.dst v)) a := by
  obtain ⟨h1, h2, h3⟩ := Oper.apart_spec hap
  unfold qOpB at *
  simp only [hj] at *
  rw [wanted_put oj a oi.dst v h1] at h
  split
  · rename_i hw
    simp only [hw, if_true] at h
    obtain ⟨u, hu, hn⟩ := h
    refine ⟨u, fun b w hw' => ?_, by show K ((a.put oj.dst u).put oi.dst v); rw [← Act.put_comm a v u h2]; exact hn⟩
    have := hu b w hw'
    unfold Oper.quietAt at *
    rwa [execOp_put oj hsj a oi.dst v h1] at this
  · rename_i hw
    simp only [hw] at h
    show K ((a.put oj.dst undef).put oi.dst v)
    rw [← Act.put_comm a v undef h2]; exact h
theorem qOpB_put {j : Nat} {oi oj : Oper} {v : Value} (hj : ops[j]? = some oj) (hap : oi.apart ops oj = true)
    (hsi : ∀ cs b, oi.op ≠ .select cs b) (hsj : ∀ cs b, oj.op ≠ .select cs b) {K : Act → Prop} {a : Act}
    (hy : YieldsB P ops C oi v a) (h : qOpB P ops C j K (a.put oi.dst v)) :
    qOpB P ops C j (fun a' => YieldsB P ops C oi v a' ∧ K (a'.put oi.dst v)) a := by
  obtain ⟨h1, h2, h3⟩ := Oper.apart_spec hap
  have keep : ∀ (a : Act), YieldsB P ops C oi v a → ∀ u, YieldsB P ops C oi v (a.put oj.dst u) := fun a hy u =>
    hy.of_same (execOp_put oi hsi a oj.dst u h3) (wanted_put oi a oj.dst u h3)
  unfold qOpB at *
  simp only [hj] at *
  rw [wanted_put oj a oi.dst v h1] at h
  split
  · rename_i hw
    simp only [hw, if_true] at h
    obtain ⟨u, hu, hn⟩ := h
    refine ⟨u, fun b w hw' => ?_, keep a hy u, by rw [← Act.put_comm a v u h2]; exact hn⟩
    have := hu b w hw'
    unfold Oper.quietAt at *
    rwa [execOp_put oj hsj a oi.dst v h1] at this
  · rename_i hw
    simp only [hw] at h
    exact ⟨keep a hy _, by rw [← Act.put_comm a v undef h2]; exact h⟩

def headQB (P : Program) (md : Region.Mode) (ops : Array Oper) (C : Bool → World → Prop) (n : Nat) (L : Array Bool → Act → Prop) : Nat → Array Bool → Act → Prop
  | 0, listed, a => L listed a
  | f + 1, listed, a =>
    Region.ready md ops listed ≠ [] ∧ ∀ i ∈ Region.ready md ops listed, i < n ∧ qOpB P ops C i (headQB P md ops C n L f (listed.setIfInBounds i true)) a

theorem wpAny_of_headQB {n g : Nat} {L : Array Bool → Act → Prop} {Q' : Exit → Act → World → Prop} (hL : ∀ listed a w, C true w → L listed a → wpAny P md ops Q' g listed a w) :
    ∀ (f : Nat) (listed : Array Bool) (a : Act) (w : World), C true w → headQB P md ops C n L f listed a → wpAny P md ops Q' (f + g) listed a w
  | 0, listed, a, w, hw, h => by rw [Nat.zero_add]; exact hL _ _ _ hw h
  | f + 1, listed, a, w, hw, h => by
    rw [show f + 1 + g = (f + g) + 1 by omega]
    exact ⟨fun h0 => absurd h0 h.1, fun i hi => wpOp_of_qOpB true hw (fun a' w' hw' h' => wpAny_of_headQB hL f _ a' w' hw' h') (h.2 i hi).2⟩

theorem headQB_first {n i : Nat} {oi : Oper} {v : Value} {L : Array Bool → Act → Prop} (hi : ops[i]? = some oi) (hsel : ∀ (j : Nat) (o : Oper) cs b, ops[j]? = some o → o.op ≠ .select cs b)
    (hs : Region.sinkB md ops n = true) (hc : Region.chainB md ops n = true) (hn : n < ops.size) (hin : i < n)
    (hdone : ∀ listed a, L listed a → ∀ j ∈ Region.ready md ops listed, n ≤ j) :
    ∀ (f : Nat) (listed : Array Bool) (a : Act), HeadInv md ops n listed →
      (∀ j oj, ops[j]? = some oj → j ≠ i → listed.getD j true = false → (∀ e ∈ oj.after, Region.binds md e = true → e.on ≠ i) → oi.apart ops oj = true) →
      i ∈ Region.ready md ops listed → YieldsB P ops C oi v a →
      headQB P md ops C n L f (listed.setIfInBounds i true) (a.put oi.dst v) → headQB P md ops C n L (f + 1) listed a := by
  intro f
  induction f with
  | zero =>
    intro listed a inv _ hr hy H
    have hun := (mem_ready.1 hr).1
    refine ⟨fun h => (by rw [h] at hr; cases hr), fun j hj => ?_⟩
    have hjn : j < n := by
      rcases Nat.lt_or_ge j n with h | h
      · exact h
      · exact absurd hj (tail_waits hs hc hn inv _ i rfl hin hun j h)
    refine ⟨hjn, ?_⟩
    by_cases hji : j = i
    · subst hji; exact hy.qOpB hi H
    · have := hdone _ _ H j (ready_mono hj hji)
      omega
  | succ f ih =>
    intro listed a inv hfree hr hy H
    have hun := (mem_ready.1 hr).1
    refine ⟨fun h => (by rw [h] at hr; cases hr), fun j hj => ?_⟩
    have hjn : j < n := by
      rcases Nat.lt_or_ge j n with h | h
      · exact h
      · exact absurd hj (tail_waits hs hc hn inv _ i rfl hin hun j h)
    refine ⟨hjn, ?_⟩
    by_cases hji : j = i
    · subst hji; exact hy.qOpB hi H
    · have h1 := (H.2 j (ready_mono hj hji)).2
      obtain ⟨hjun, oj, hoj, hall⟩ := mem_ready.1 hj
      have hnot : ∀ e ∈ oj.after, Region.binds md e = true → e.on ≠ i := fun e he hb heq => by
        have h1 := hall e he hb
        rw [heq, getD_both hun] at h1
        cases h1
      have h2 := qOpB_put hoj (hfree j oj hoj hji hjun hnot) (fun cs b => hsel i oi cs b hi) (fun cs b => hsel j oj cs b hoj) hy h1
      have hfree' : ∀ k ok, ops[k]? = some ok → k ≠ i → (listed.setIfInBounds j true).getD k true = false →
          (∀ e ∈ ok.after, Region.binds md e = true → e.on ≠ i) → oi.apart ops ok = true := fun k ok hk hki hun hno => by
        refine hfree k ok hk hki ?_ hno
        by_cases hjk : j = k
        · subst hjk; exact hjun
        · rw [getD_set_ne true hjk] at hun; exact hun
      refine qOpB_mono (fun a' h3 => ih (listed.setIfInBounds j true) a' (inv.set hj hjn) hfree' (ready_mono hr (Ne.symm hji)) h3.1 ?_) h2
      rw [Array.setIfInBounds_comm _ _ hji]
      exact h3.2

def lexHeadA (md : Region.Mode) (ops : Array Oper) (g n : Nat) : Nat → Nat → Array Bool → Bool
  | 0, _, listed => Region.seqB md ops g n listed
  | f + 1, k, listed => (Region.ready md ops listed).contains k && Region.free md ops listed k && lexHeadA md ops g n f (k + 1) (listed.setIfInBounds k true)

theorem headQB_lex {n g : Nat} {Lq : Act → Prop} (hsel : Region.noSelect ops = true) (hs : Region.sinkB md ops n = true) (hc : Region.chainB md ops n = true) (hn : n < ops.size) :
    ∀ (l : List Oper) (k : Nat) (listed : Array Bool) (a : Act), (∀ j, j < l.length → l[j]? = ops[k + j]?) → k + l.length ≤ n → HeadInv md ops n listed →
    lexHeadA md ops g n l.length k listed = true → wpQuietB P ops C Lq l a →
    headQB P md ops C n (fun listed' a' => Region.seqB md ops g n listed' = true ∧ Lq a') l.length listed a
  | [], k, listed, a, _, _, _, hB, h => ⟨by simpa [lexHeadA] using hB, h⟩
  | o :: l, k, listed, a, hl, hk, inv, hB, h => by
    have h0 : ops[k]? = some o := by simpa using (hl 0 (by simp)).symm
    simp only [List.length_cons, lexHeadA, Bool.and_eq_true] at hB
    obtain ⟨⟨hr, hf⟩, hB'⟩ := hB
    have hkn : k < n := by simp only [List.length_cons] at hk; omega
    have hr' : k ∈ Region.ready md ops listed := by simpa using hr
    have hst : qOpB P ops C k (wpQuietB P ops C Lq l) a := by unfold qOpB; simp only [h0]; exact h
    obtain ⟨v, hy, hK⟩ := yieldsB_of_qOpB h0 hst
    exact headQB_first h0 (Region.noSelect_spec hsel) hs hc hn hkn (fun listed' a' hL => seqB_ready hL.1) l.length listed a inv (Region.free_spec h0 hf) hr' hy
      (headQB_lex hsel hs hc hn l (k + 1) _ _ (fun j hj => by have := hl (j + 1) (by simp; omega); simpa [Nat.add_assoc, Nat.add_comm 1 j] using this) (by simp only [List.length_cons] at hk; omega) (inv.set hr' hkn) hB' hK)

theorem wpAny_alloc {n g k : Nat} {ok : Oper} {p : Value} {L : Array Bool → Act → Prop} {Q' : Exit → Act → World → Prop} (hok : ops[k]? = some ok) (hg : ok.guard = none) (hno : ok.after = #[])
    (hsel : ∀ (j : Nat) (o : Oper) cs b, ops[j]? = some o → o.op ≠ .select cs b) (hs : Region.sinkB md ops n = true) (hc : Region.chainB md ops n = true) (hn : n < ops.size) (hkn : k < n)
    (hdone : ∀ listed a, L listed a → ∀ j ∈ Region.ready md ops listed, n ≤ j)
    (hal : ∀ a w (K : Act → World → Prop), C false w → (∀ w', C true w' → K (a.put ok.dst p) w') → ok.wp P a w K Q')
    (hL : ∀ listed a w, C true w → L listed a → wpAny P md ops Q' g listed a w) :
    ∀ (f : Nat) (listed : Array Bool) (a : Act) (w : World), HeadInv md ops n listed → listed.getD k true = false →
      (∀ j oj, ops[j]? = some oj → j ≠ k → listed.getD j true = false → (∀ e ∈ oj.after, Region.binds md e = true → e.on ≠ k) → ok.apart ops oj = true) →
      C false w → headQB P md ops C n L f (listed.setIfInBounds k true) (a.put ok.dst p) → wpAny P md ops Q' (f + 1 + g) listed a w := by
  have hwant : ∀ a : Act, Region.wanted ok (yielded ops a.tmps) = true := fun a => by simp [Region.wanted, hg]
  intro f
  induction f with
  | zero =>
    intro listed a w inv hun _ hw H
    have hr : k ∈ Region.ready md ops listed := mem_ready.2 ⟨hun, ok, hok, by simp [hno]⟩
    rw [show 0 + 1 + g = g + 1 by omega]
    refine ⟨fun h => (by rw [h] at hr; cases hr), fun j hj => ?_⟩
    by_cases hji : j = k
    · subst hji
      unfold wpOp
      simp only [hok, hwant a, if_true]
      exact .inl (hal a w _ hw fun w' hw' => hL _ _ _ hw' H)
    · have hjn : j < n := by
        rcases Nat.lt_or_ge j n with h | h
        · exact h
        · exact absurd hj (tail_waits hs hc hn inv _ k rfl hkn hun j h)
      have := hdone _ _ H j (ready_mono hj hji)
      omega
  | succ f ih =>
    intro listed a w inv hun hfree hw H
    have hr : k ∈ Region.ready md ops listed := mem_ready.2 ⟨hun, ok, hok, by simp [hno]⟩
    rw [show f + 1 + 1 + g = (f + 1 + g) + 1 by omega]
    refine ⟨fun h => (by rw [h] at hr; cases hr), fun j hj => ?_⟩
    by_cases hji : j = k
    · subst hji
      unfold wpOp
      simp only [hok, hwant a, if_true]
      exact .inl (hal a w _ hw fun w' hw' => wpAny_of_headQB hL (f + 1) _ _ _ hw' H)
    · have hjn : j < n := by
        rcases Nat.lt_or_ge j n with h | h
        · exact h
        · exact absurd hj (tail_waits hs hc hn inv _ k rfl hkn hun j h)
      have h1 := (H.2 j (ready_mono hj hji)).2
      obtain ⟨hjun, oj, hoj, hall⟩ := mem_ready.1 hj
      have hnot : ∀ e ∈ oj.after, Region.binds md e = true → e.on ≠ k := fun e he hb heq => by
        have h1 := hall e he hb
        rw [heq, getD_both hun] at h1
        cases h1
      have h2 := qOpB_swap hoj (hfree j oj hoj hji hjun hnot) (fun cs b => hsel j oj cs b hoj) h1
      have hfree' : ∀ m om, ops[m]? = some om → m ≠ k → (listed.setIfInBounds j true).getD m true = false →
          (∀ e ∈ om.after, Region.binds md e = true → e.on ≠ k) → ok.apart ops om = true := fun m om hm hmk hun' hno' => by
        refine hfree m om hm hmk ?_ hno'
        by_cases hjm : j = m
        · subst hjm; exact hjun
        · rw [getD_set_ne true hjm] at hun'; exact hun'
      refine wpOp_of_qOpB false hw (fun a' w' hw' h' => ih _ a' w' (inv.set hj hjn) (by rw [getD_set_ne true hji]; exact hun) hfree' hw' ?_) h2
      rw [Array.setIfInBounds_comm _ _ hji]
      exact h'

/-- The closed facts on the region's shape: operation k makes memory and waits for none; the m first, k left out, stand in the text's order; n .. end the region, in one forced order. -/
def allocB (ops : Array Oper) (n m k : Nat) : Bool :=
  Region.noSelect ops && decide (n < ops.size) && decide (k < n) && decide (m ≤ n) && Region.sinkB .any ops n && Region.chainB .any ops n &&
    Region.free .any ops (Array.replicate ops.size false) k && lexHeadA .any ops (ops.size - n) n m 0 ((Array.replicate ops.size false).setIfInBounds k true)

theorem region_alloc_tail {id : Nat} {Q : Exit → Act → World → Prop} {a : Act} {w : World} {l : List Oper} (n m k : Nat) (ok : Oper) (p : Value) (hfm : m + 1 = n)
    (hm : P.follows .mixedOrders = true) (hB : allocB l.toArray n m k = true) (hok : l[k]? = some ok) (hg : ok.guard = none) (hno : ok.after = #[])
    (hC : C false { w with drawn := w.drawn + 1 })
    (hal : ∀ a w (K : Act → World → Prop), C false w → (∀ w', C true w' → K (a.put ok.dst p) w') → ok.wp P a w K Q)
    (h : wpQuietB P l.toArray C (fun a' => ∀ w', C true w' → wpList P l.toArray Q (l.drop n) a' w') (l.take m) (a.put ok.dst p)) : (Code.region id l.toArray true).wp P Q a w := by
  simp only [allocB, Bool.and_eq_true, decide_eq_true_eq] at hB
  obtain ⟨⟨⟨⟨⟨⟨⟨hsel, hn⟩, hkn⟩, hmn⟩, hs⟩, hc⟩, hfr⟩, hlex⟩ := hB
  have hn' : n < l.length := by simpa using hn
  have htl : (l.take m).length = m := by simp; omega
  have hdl : (l.drop n).length = l.toArray.size - n := by simp
  have hok' : l.toArray[k]? = some ok := by simpa using hok
  have hun : (Array.replicate l.toArray.size false).getD k true = false := getD_in (by simp; omega) (getD_replicate_false _ _)
  have inv0 : HeadInv .any l.toArray n (Array.replicate l.toArray.size false) :=
    ⟨by simp, fun j oj _ hl => (by rw [getD_replicate_false] at hl; cases hl), fun t _ ht => getD_in (by simpa using ht) (getD_replicate_false _ _)⟩
  have hr : k ∈ Region.ready .any l.toArray (Array.replicate l.toArray.size false) := mem_ready.2 ⟨hun, ok, hok', by simp [hno]⟩
  have H := headQB_lex (md := .any) (g := l.toArray.size - n) hsel hs hc hn (l.take m) 0 _ (a.put ok.dst p) (fun j hj => by
    have hj' : j < m := by rw [htl] at hj; exact hj
    simp [hj']) (by rw [htl]; omega) (inv0.set hr hkn) (by rw [htl]; exact hlex) h
  refine wp_region_any hm ?_
  have := wpAny_alloc (Q' := Q) (g := l.toArray.size - n) hok' hg hno (Region.noSelect_spec hsel) hs hc hn hkn (fun listed' a' hL => seqB_ready hL.1) hal (fun listed a w' hw' hL => by
    have := wpAny_of_seq (md := .any) (Q' := Q) (l.drop n) n listed a w' (fun j => by simp [List.getElem?_drop]) (by rw [hdl]; exact hL.1) (hL.2 w' hw')
    rwa [hdl] at this) _ _ a { w with drawn := w.drawn + 1 } inv0 hun (Region.free_spec hok' hfr) hC H
  rw [htl, show m + 1 + (l.toArray.size - n) = l.toArray.size by omega] at this
  exact this
end
attribute [go_sem] quietB
theorem wpQuietB_build {P : Program} {ops : Array Oper} {C : Bool → World → Prop} {Q : Act → Prop} {a : Act} {o : Oper} {rest : List Oper} (hg : o.guard = none) (t : TypeId) (parts : Array (Nat × Operand)) (ho : o.op = .build t parts) (cells : Array Value)
    (hf : P.built t (parts.map fun (i, x) => (i, a.eval x)).toList = some cells) (h : wpQuietB P ops C Q rest (a.put o.dst (.agg cells))) : wpQuietB P ops C Q (o :: rest) a := by
  have hw : Region.wanted o (yielded ops a.tmps) = true := by simp [Region.wanted, hg]
  unfold wpQuietB
  rw [if_pos hw]
  refine ⟨.agg cells, fun b w _ => ?_, h⟩
  unfold Oper.quietAt execOp
  simp only [ho, Sem.run_bind, run_build w t _ cells hf, Result.andThen_ok]
  exact ⟨rfl, rfl⟩

end Go.Proofs.YtkfagcpboehjjaaDoor
