/- A slice of the call's own that may begin in the middle of its block, with spare room: append onto it. No condition. -/
import Derived.Test.YtmhjbkkbbhioeaaByte
import Derived.ArgAppend
namespace Go.Proofs.Ytmhjbkkbbhioeaa
open Go.RowKit

theorem setCells_blk (g : Nat) (t : TypeId) : ∀ (vs : List Value) (o : Nat) (w : World) (cs : Array Value), Blk w g t cs → o + vs.length ≤ cs.size →
    ∃ cs', Blk (w.setCells g o vs) g t cs' ∧ cs'.size = cs.size ∧ (∀ j, j < vs.length → cs'[o + j]? = vs[j]?) ∧ ∀ i, (i < o ∨ o + vs.length ≤ i) → cs'[i]? = cs[i]?
  | [], o, w, cs, h, _ => ⟨cs, h, rfl, fun j hj => absurd hj (by simp), fun _ _ => rfl⟩
  | v :: r, o, w, cs, h, hl => by
    simp only [List.length_cons] at hl
    obtain ⟨cs', h1, h2, h3, h4⟩ := setCells_blk g t r (o + 1) (w.setCell ⟨g, o, none⟩ v) _ (h.set_ o v) (by simp; omega)
    refine ⟨cs', h1, by rw [h2]; simp, fun j hj => ?_, fun i hi => ?_⟩
    · cases j with
      | zero =>
        rw [h4 (o + 0) (by omega), Array.getElem?_setIfInBounds]
        simp; omega
      | succ j =>
        have := h3 j (by simpa using hj)
        rw [show o + (j + 1) = o + 1 + j by omega, this]
        simp
    · simp only [List.length_cons] at hi
      rw [h4 i (by omega), Array.getElem?_setIfInBounds, if_neg (by omega)]
theorem setCells_far_ (g : Nat) : ∀ (vs : List Value) (o : Nat) (w : World) (k : Nat), k ≠ g → (w.setCells g o vs).heap[k]? = w.heap[k]?
  | [], _, _, _, _ => rfl
  | v :: r, o, w, k, h => (setCells_far_ g r (o + 1) (w.setCell ⟨g, o, none⟩ v) k h).trans (Below.heap_setCell w ⟨g, o, none⟩ v k h)
theorem setCells_below_ {B g : Nat} (hg : B ≤ g) : ∀ (vs : List Value) (o : Nat) (w w' : World), Below B w w' → Below B w (w'.setCells g o vs)
  | [], _, _, _, h => h
  | v :: r, o, w, w', h => setCells_below_ hg r (o + 1) w (w'.setCell ⟨g, o, none⟩ v) (h.setCell hg v)

/-- v is a slice made since base, the bytes u, with room behind them. -/
def OwnS (w : World) (base : Nat) (v : Value) (u : List Int) : Prop :=
  ∃ g o cap cur, v = .slice (some ⟨g, o, none⟩) u.length cap ∧ base ≤ g ∧ Blk w g 5 cur ∧ u.length ≤ cap ∧ cap ≤ maxLen ∧ o + cap ≤ cur.size ∧ ∀ j, j < u.length → cur[o + j]? = some (.int .u8 (u.getD j 0))

theorem OwnS.keep {w w' : World} {base : Nat} {v : Value} {u : List Int} (h : OwnS w base v u) (hk : ∀ k cs, Blk w k 5 cs → base ≤ k → Blk w' k 5 cs) : OwnS w' base v u :=
  let ⟨g, o, cap, cur, h1, h2, h3, h4⟩ := h; ⟨g, o, cap, cur, h1, h2, hk g cur h3 h2, h4⟩
theorem OwnS.of_own {w : World} {base : Nat} {v : Value} {u : List Int} (h : OwnB w base v u) (hp : 0 < u.length) : OwnS w base v u := by
  rcases h.2 with ⟨_, hz⟩ | ⟨g, cap, cur, e, hb, hh, hc, hm, hs, ht⟩
  · omega
  · refine ⟨g, 0, cap, cur, e, hb, hh, hc, hm, by omega, fun j hj => ?_⟩
    have : (cur.toList.take (u.length * 1))[j]? = (u.map (Value.int .u8))[j]? := by rw [ht]
    rw [List.getElem?_take, if_pos (by omega), List.getElem?_map, List.getElem?_eq_getElem hj] at this
    rw [Nat.zero_add, List.getD_eq_getElem?_getD, List.getElem?_eq_getElem hj]
    simpa using this
theorem OwnS.new (w : World) {base : Nat} (hb : base ≤ w.heap.size) (cs : Array Value) (u : List Int) (hcs : cs.toList = u.map (Value.int .u8)) (hl : u.length ≤ maxLen) :
    OwnS (w.alloc (.cells cs 5)) base (.slice (some ⟨w.heap.size, 0, none⟩) u.length u.length) u := by
  have hsz : cs.size = u.length := by rw [← Array.length_toList, hcs, List.length_map]
  refine ⟨w.heap.size, 0, u.length, cs, rfl, hb, Blk.new w 5 cs, Nat.le_refl _, hl, by omega, fun j hj => ?_⟩
  rw [Nat.zero_add, ← Array.getElem?_toList, hcs, List.getElem?_map, List.getElem?_eq_getElem hj, List.getD_eq_getElem?_getD, List.getElem?_eq_getElem hj]
  rfl
theorem OwnS.cell {w : World} {base g o n c : Nat} {u : List Int} (h : OwnS w base (.slice (some ⟨g, o, none⟩) n c) u) : n = u.length ∧ g < w.heap.size ∧ base ≤ g ∧ u.length ≤ c ∧ c ≤ maxLen ∧ ∀ j, j < u.length → w.cell? ⟨g, o + j, none⟩ = some (.int .u8 (u.getD j 0)) := by
  obtain ⟨g', o', c', cur, e, h1, h2, h3, h4, _, h5⟩ := h
  injection e with e1 e2 e3
  injection e1 with e1
  injection e1 with e1 e4
  subst e1 e2 e3 e4
  exact ⟨rfl, h2.lt, h1, h3, h4, fun j hj => (h2.cell _).trans (h5 j hj)⟩

/-- The slice v0 (n0 long) isn't written by an append onto v: another block, or the same beginning and no longer. -/
def Apart (v0 v : Value) (n0 : Nat) : Prop :=
  ∃ g0 o0 c0 g o n c, v0 = .slice (some ⟨g0, o0, none⟩) n0 c0 ∧ v = .slice (some ⟨g, o, none⟩) n c ∧ (g0 ≠ g ∨ (o0 = o ∧ n0 ≤ n))
theorem Apart.self {w : World} {base : Nat} {v : Value} {u : List Int} (h : OwnS w base v u) : Apart v v u.length := by
  obtain ⟨g, o, c, _, e, _⟩ := h
  exact ⟨g, o, c, g, o, u.length, c, e, e, .inr ⟨rfl, Nat.le_refl _⟩⟩

/-- append onto such a slice. -/
theorem app_s {ops : Array Oper} {rest : List Oper} {o : Oper} {a : Act} {Q : Exit → Act → World → Prop} (w : World) (hgd : o.guard = none) (s x : Operand)
    (ho : o.op = .call { callee := .builtin .append, args := #[s, x], argTypes := #[24, 24] })
    (base : Nat) (v : Value) (u : List Int) (hs : a.eval s = v) (hown : OwnS w base v u)
    (B : Nat) (A : Option Addr) (m c : Nat) (news : List Int) (hx : a.eval x = .slice A m c) (hr : Reads w B 1 A m (news.map (Value.int .u8)))
    (hlen : u.length + m ≤ 140737488351232) (hbase : base ≤ w.heap.size)
    (h : ∀ v' w', OwnS w' base v' (u ++ news) → Below base w w' → (∀ k t cs, t ≠ 5 → Blk w k t cs → Blk w' k t cs) →
      (∀ v0 u0, OwnS w base v0 u0 → Apart v0 v u0.length → OwnS w' base v0 u0 ∧ Apart v0 v' u0.length) → wpList Try.prog ops Q rest (a.put o.dst v') w') : wpList Try.prog ops Q (o :: rest) a w := by
  obtain ⟨i0, hi, hz0, hz1, hz2⟩ := info_parts info5
  have hm : news.length = m := by have := hr.1; simpa using this
  obtain ⟨g, off, cap, cur, rfl, hg, hblk, hcap, hmx, hfit, hcell⟩ := hown
  have holds : ∀ j u', (u.map (Value.int .u8))[j]? = some u' → w.cell? ⟨g, off + j, none⟩ = some u' := fun j u' hj => by
    have hj' : j < u.length := by
      rcases Nat.lt_or_ge j u.length with h1 | h1
      · exact h1
      · rw [List.getElem?_eq_none (by simpa using h1)] at hj; cases hj
    rw [hblk.cell, hcell j hj']
    rw [List.getElem?_map, List.getElem?_eq_getElem hj'] at hj
    rw [List.getD_eq_getElem?_getD, List.getElem?_eq_getElem hj']
    simpa using hj
  rcases A with _ | ad
  · have h0 : m = 0 := by
      rcases Nat.eq_zero_or_pos m with h0 | h0
      · exact h0
      · obtain ⟨_, he, _⟩ := hr.2 h0; cases he
    subst h0
    obtain rfl : news = [] := List.eq_nil_of_length_eq_zero hm
    refine wpList_plain hgd fun K hK => ?_
    have hrun : (Builtin.append_ #[24, 24] o.type #[.slice (some ⟨g, off, none⟩) u.length cap, .slice none 0 c]).run Try.prog w = .ok (.slice (some ⟨g, off, none⟩) u.length cap) w := by
      simp [Builtin.append_, run_underlying Try.underlying24, sizeOf, typeInfo, hi, Builtin.lenOf, Builtin.firstCells, hcap, storeCells]
    unfold Oper.wp execOp
    simp only [ho, resolve, invoke, builtin, Sem.run_bind, Sem.run_pure, Result.andThen_ok, List.map_toArray, List.map_cons, List.map_nil, hs, hx, hrun]
    refine hK _ _ (h _ _ ?_ (Below.refl _ _) (fun _ _ _ _ hb => hb) (fun _ _ h1 h2 => ⟨h1, h2⟩))
    rw [List.append_nil]
    exact ⟨g, off, cap, cur, rfl, hg, hblk, hcap, hmx, hfit, hcell⟩
  · have hcells : ∀ j u', (news.map (Value.int .u8))[j]? = some u' → w.cell? (ad.add j) = some u' := fun j u' hj => by
      have hj' : j < news.length := by
        rcases Nat.lt_or_ge j news.length with h1 | h1
        · exact h1
        · rw [List.getElem?_eq_none (by simpa using h1)] at hj; cases hj
      obtain ⟨ad', he, _, hc⟩ := hr.2 (by omega)
      injection he with he
      subst he
      exact hc j u' hj
    refine wpList_append_arg w hgd s x 24 ho 5 i0 _ 1 1 Try.underlying24 hi hz0 hz1 hz2 rfl (by decide) g off u.length cap (u.map (Value.int .u8)) hs (by simp) holds ad m c (news.map (Value.int .u8)) hx (by simpa using hm) hcells (ints_one _)
      (fun hroom j hj => ?_) (by unfold maxLen; omega) (by omega) (fun hroom => ?_) (fun hgrow v' w' hown' hgr => ?_)
    · have hj' : j < m := by simpa [hm] using hj
      refine ⟨?_, hblk.frozen _⟩
      rw [hblk.cell, Array.getElem?_eq_getElem (by omega)]; rfl
    · obtain ⟨cs', b1, b2, b3, b4⟩ := setCells_blk g 5 (news.map (Value.int .u8)) (off + u.length * 1) w cur hblk (by simp; omega)
      refine h _ _ ⟨g, off, cap, cs', by rw [List.length_append, hm], hg, b1, by rw [List.length_append, hm]; exact hroom, hmx, by omega, fun j hj => ?_⟩ (setCells_below_ hg _ _ _ _ (Below.refl _ _)) (fun k t cs ht hb => ?_) (fun v0 u0 h0 hap => ?_)
      · rw [List.length_append] at hj
        by_cases h1 : j < u.length
        · rw [b4 _ (by omega), hcell j h1, List.getD_eq_getElem?_getD, List.getD_eq_getElem?_getD, List.getElem?_append_left h1]
        · have := b3 (j - u.length) (by simp; omega)
          rw [show off + u.length * 1 + (j - u.length) = off + j by omega] at this
          rw [this, List.getElem?_map, List.getD_eq_getElem?_getD, List.getElem?_append_right (by omega), List.getElem?_eq_getElem (by omega)]
          rfl
      · have hne : k ≠ g := by
          rintro rfl
          unfold Blk at hb hblk
          rw [hblk] at hb
          injection hb with hb
          injection hb with _ hb
          exact ht hb.symm
        exact (setCells_far_ g _ _ w k hne).trans hb
      · obtain ⟨g0, o0, c0, g1, o1, n1, c1, rfl, e1, hap⟩ := hap
        injection e1 with e1 e2 e3
        injection e1 with e1
        injection e1 with e1 e4
        subst e1 e2 e4
        obtain ⟨g2, o2, c2, cur2, e, f1, f2, f3, f4, f5, f6⟩ := h0
        injection e with e1 _ e3
        injection e1 with e1
        injection e1 with e1 e4
        subst e1 e3 e4
        refine ⟨?_, g0, o0, c0, g, off, u.length + m, cap, rfl, rfl, by omega⟩
        by_cases hg0 : g0 = g
        · subst hg0
          rcases hap with hap | ⟨rfl, hn0⟩
          · exact absurd rfl hap
          · have hcc : cur2 = cur := by
              unfold Blk at f2 hblk
              rw [hblk] at f2
              injection f2 with f2
              injection f2 with f2 _
              exact f2.symm
            subst hcc
            exact ⟨g0, o0, c0, cs', rfl, f1, b1, f3, f4, by omega, fun j hj => by rw [b4 _ (by omega)]; exact f6 j hj⟩
        · exact ⟨g0, o0, c0, cur2, rfl, f1, (setCells_far_ g _ _ w g0 hg0).trans f2, f3, f4, f5, f6⟩
    · have hpos : 0 < (u ++ news).length := by rw [List.length_append]; omega
      have hB : OwnB w' base v' (u ++ news) := by
        have h2 : OwnB w' w.heap.size v' (u ++ news) := by
          unfold OwnB
          rw [List.length_append, List.map_append, hm]
          exact hown'
        refine ⟨h2.1, ?_⟩
        rcases h2.2 with h3 | ⟨g', c', cur', e1, e2, e3⟩
        · exact .inl h3
        · exact .inr ⟨g', c', cur', e1, Nat.le_trans hbase e2, e3⟩
      refine h v' w' (OwnS.of_own hB hpos) ⟨hgr.os, hgr.tape, hgr.output, hgr.size, fun k hk => hgr.block k (by omega) (by simp)⟩ (fun k t cs _ hb => ?_) (fun v0 u0 h0 hap => ?_)
      · exact (hgr.block k hb.lt (by simp)).trans hb
      · obtain ⟨g0, o0, c0, g1, o1, n1, c1, rfl, _, _⟩ := hap
        obtain ⟨g2, o2, c2, cur2, e, f1, f2, f3⟩ := h0
        have e0 := e
        injection e with e1 _ _
        injection e1 with e1
        injection e1 with e1 _
        rcases hown'.2 with ⟨_, hz⟩ | ⟨g', c', cur', e', e2, e3⟩
        · omega
        · refine ⟨⟨g2, o2, c2, cur2, e0, f1, (hgr.block g2 f2.lt (by simp)).trans f2, f3⟩, g0, o0, c0, g', 0, _, c', rfl, e', .inl ?_⟩
          have := f2.lt
          omega
end Go.Proofs.Ytmhjbkkbbhioeaa
