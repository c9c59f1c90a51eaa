/- Words for memory: which blocks an append turns. No condition. -/
import Derived.Test.YtmhjbkkbbhioeaaSpare
namespace Go.Proofs.Ytmhjbkkbbhioeaa
open Go.RowKit

/-- The block of a slice. -/
def blk : Value → Nat
  | .slice (some a) _ _ => a.block
  | _ => 0
/-- Of the blocks that were there only that of v is turned; and v' lies in none of the others. -/
def Fr (w : World) (v : Value) (w' : World) (v' : Value) : Prop := ∀ k, k < w.heap.size → k ≠ blk v → w'.heap[k]? = w.heap[k]? ∧ k ≠ blk v'
theorem Fr.refl (w : World) (v : Value) : Fr w v w v := fun _ _ h => ⟨rfl, h⟩
theorem Fr.trans {w w1 w2 : World} {v v1 v2 : Value} (h1 : Fr w v w1 v1) (hs : w.heap.size ≤ w1.heap.size) (h2 : Fr w1 v1 w2 v2) : Fr w v w2 v2 := fun k hk hv => by
  obtain ⟨a1, b1⟩ := h1 k hk hv
  obtain ⟨a2, b2⟩ := h2 k (by omega) b1
  exact ⟨a2.trans a1, b2⟩
theorem Fr.alloc {w : World} {v : Value} (o : Obj) : Fr w v (w.alloc o) v := fun k hk hv => ⟨Below.heap_alloc w o k hk, hv⟩

/-- append onto such a slice. -/
theorem app_f {ops : Array Oper} {rest : List Oper} {o : Oper} {a : Act} {Q : Exit → Act → World → Prop} (w : World) (hgd : o.guard = none) (s x : Operand)
    (ho : o.op = .call { callee := .builtin .append, args := #[s, x], argTypes := #[24, 24] })
    (base : Nat) (v : Value) (u : List Int) (hs : a.eval s = v) (hown : OwnS w base v u)
    (B : Nat) (A : Option Addr) (m c : Nat) (news : List Int) (hx : a.eval x = .slice A m c) (hr : Reads w B 1 A m (news.map (Value.int .u8)))
    (hlen : u.length + m ≤ 140737488351232) (hbase : base ≤ w.heap.size)
    (h : ∀ v' w', OwnS w' base v' (u ++ news) → Below base w w' → (∀ k t cs, t ≠ 5 → Blk w k t cs → Blk w' k t cs) →
      (∀ v0 u0, OwnS w base v0 u0 → Apart v0 v u0.length → OwnS w' base v0 u0 ∧ Apart v0 v' u0.length) → Fr w v w' v' → wpList Try.prog ops Q rest (a.put o.dst v') w') : wpList Try.prog ops Q (o :: rest) a w := by
  obtain ⟨i0, hi, hz0, hz1, hz2⟩ := info_parts info5
  have hm : news.length = m := by have := hr.1; simpa using this
  obtain ⟨g, off, cap, cur, rfl, hg, hblk, hcap, hmx, hfit, hcell⟩ := hown
  have holds : ∀ j u', (u.map (Value.int .u8))[j]? = some u' → w.cell? ⟨g, off + j, none⟩ = some u' := fun j u' hj => by
    have hj' : j < u.length := by
      rcases Nat.lt_or_ge j u.length with h1 | h1
      · exact h1
      · rw [List.getElem?_eq_none (by simpa using h1)] at hj; cases hj
    rw [hblk.cell, hcell j hj']
    rw [List.getElem?_map, List.getElem?_eq_getElem hj'] at hj
    rw [List.getD_eq_getElem?_getD, List.getElem?_eq_getElem hj']
    simpa using hj
  rcases A with _ | ad
  · have h0 : m = 0 := by
      rcases Nat.eq_zero_or_pos m with h0 | h0
      · exact h0
      · obtain ⟨_, he, _⟩ := hr.2 h0; cases he
    subst h0
    obtain rfl : news = [] := List.eq_nil_of_length_eq_zero hm
    refine wpList_plain hgd fun K hK => ?_
    have hrun : (Builtin.append_ #[24, 24] o.type #[.slice (some ⟨g, off, none⟩) u.length cap, .slice none 0 c]).run Try.prog w = .ok (.slice (some ⟨g, off, none⟩) u.length cap) w := by
      simp [Builtin.append_, run_underlying Try.underlying24, sizeOf, typeInfo, hi, Builtin.lenOf, Builtin.firstCells, hcap, storeCells]
    unfold Oper.wp execOp
    simp only [ho, resolve, invoke, builtin, Sem.run_bind, Sem.run_pure, Result.andThen_ok, List.map_toArray, List.map_cons, List.map_nil, hs, hx, hrun]
    refine hK _ _ (h _ _ ?_ (Below.refl _ _) (fun _ _ _ _ hb => hb) (fun _ _ h1 h2 => ⟨h1, h2⟩) (Fr.refl _ _))
    rw [List.append_nil]
    exact ⟨g, off, cap, cur, rfl, hg, hblk, hcap, hmx, hfit, hcell⟩
  · have hcells : ∀ j u', (news.map (Value.int .u8))[j]? = some u' → w.cell? (ad.add j) = some u' := fun j u' hj => by
      have hj' : j < news.length := by
        rcases Nat.lt_or_ge j news.length with h1 | h1
        · exact h1
        · rw [List.getElem?_eq_none (by simpa using h1)] at hj; cases hj
      obtain ⟨ad', he, _, hc⟩ := hr.2 (by omega)
      injection he with he
      subst he
      exact hc j u' hj
    refine wpList_append_arg w hgd s x 24 ho 5 i0 _ 1 1 Try.underlying24 hi hz0 hz1 hz2 rfl (by decide) g off u.length cap (u.map (Value.int .u8)) hs (by simp) holds ad m c (news.map (Value.int .u8)) hx (by simpa using hm) hcells (ints_one _)
      (fun hroom j hj => ?_) (by unfold maxLen; omega) (by omega) (fun hroom => ?_) (fun hgrow v' w' hown' hgr => ?_)
    · have hj' : j < m := by simpa [hm] using hj
      refine ⟨?_, hblk.frozen _⟩
      rw [hblk.cell, Array.getElem?_eq_getElem (by omega)]; rfl
    · obtain ⟨cs', b1, b2, b3, b4⟩ := setCells_blk g 5 (news.map (Value.int .u8)) (off + u.length * 1) w cur hblk (by simp; omega)
      refine h _ _ ⟨g, off, cap, cs', by rw [List.length_append, hm], hg, b1, by rw [List.length_append, hm]; exact hroom, hmx, by omega, fun j hj => ?_⟩ (setCells_below_ hg _ _ _ _ (Below.refl _ _)) (fun k t cs ht hb => ?_) (fun v0 u0 h0 hap => ?_) (fun k _ hk => ⟨setCells_far_ g _ _ w k hk, hk⟩)
      · rw [List.length_append] at hj
        by_cases h1 : j < u.length
        · rw [b4 _ (by omega), hcell j h1, List.getD_eq_getElem?_getD, List.getD_eq_getElem?_getD, List.getElem?_append_left h1]
        · have := b3 (j - u.length) (by simp; omega)
          rw [show off + u.length * 1 + (j - u.length) = off + j by omega] at this
          rw [this, List.getElem?_map, List.getD_eq_getElem?_getD, List.getElem?_append_right (by omega), List.getElem?_eq_getElem (by omega)]
          rfl
      · have hne : k ≠ g := by
          rintro rfl
          unfold Blk at hb hblk
          rw [hblk] at hb
          injection hb with hb
          injection hb with _ hb
          exact ht hb.symm
        exact (setCells_far_ g _ _ w k hne).trans hb
      · obtain ⟨g0, o0, c0, g1, o1, n1, c1, rfl, e1, hap⟩ := hap
        injection e1 with e1 e2 e3
        injection e1 with e1
        injection e1 with e1 e4
        subst e1 e2 e4
        obtain ⟨g2, o2, c2, cur2, e, f1, f2, f3, f4, f5, f6⟩ := h0
        injection e with e1 _ e3
        injection e1 with e1
        injection e1 with e1 e4
        subst e1 e3 e4
        refine ⟨?_, g0, o0, c0, g, off, u.length + m, cap, rfl, rfl, by omega⟩
        by_cases hg0 : g0 = g
        · subst hg0
          rcases hap with hap | ⟨rfl, hn0⟩
          · exact absurd rfl hap
          · have hcc : cur2 = cur := by
              unfold Blk at f2 hblk
              rw [hblk] at f2
              injection f2 with f2
              injection f2 with f2 _
              exact f2.symm
            subst hcc
            exact ⟨g0, o0, c0, cs', rfl, f1, b1, f3, f4, by omega, fun j hj => by rw [b4 _ (by omega)]; exact f6 j hj⟩
        · exact ⟨g0, o0, c0, cur2, rfl, f1, (setCells_far_ g _ _ w g0 hg0).trans f2, f3, f4, f5, f6⟩
    · have hpos : 0 < (u ++ news).length := by rw [List.length_append]; omega
      have hB : OwnB w' base v' (u ++ news) := by
        have h2 : OwnB w' w.heap.size v' (u ++ news) := by
          unfold OwnB
          rw [List.length_append, List.map_append, hm]
          exact hown'
        refine ⟨h2.1, ?_⟩
        rcases h2.2 with h3 | ⟨g', c', cur', e1, e2, e3⟩
        · exact .inl h3
        · exact .inr ⟨g', c', cur', e1, Nat.le_trans hbase e2, e3⟩
      refine h v' w' (OwnS.of_own hB hpos) ⟨hgr.os, hgr.tape, hgr.output, hgr.size, fun k hk => hgr.block k (by omega) (by simp)⟩ (fun k t cs _ hb => ?_) (fun v0 u0 h0 hap => ?_) (fun k hk _ => ⟨hgr.block k hk (by simp), ?_⟩)
      · exact (hgr.block k hb.lt (by simp)).trans hb
      · obtain ⟨g0, o0, c0, g1, o1, n1, c1, rfl, _, _⟩ := hap
        obtain ⟨g2, o2, c2, cur2, e, f1, f2, f3⟩ := h0
        have e0 := e
        injection e with e1 _ _
        injection e1 with e1
        injection e1 with e1 _
        rcases hown'.2 with ⟨_, hz⟩ | ⟨g', c', cur', e', e2, e3⟩
        · omega
        · refine ⟨⟨g2, o2, c2, cur2, e0, f1, (hgr.block g2 f2.lt (by simp)).trans f2, f3⟩, g0, o0, c0, g', 0, _, c', rfl, e', .inl ?_⟩
          have := f2.lt
          omega
      · rcases hown'.2 with ⟨_, hz⟩ | ⟨g', c', cur', e', e2, e3⟩
        · omega
        · rw [e']; show k ≠ g'; omega
end Go.Proofs.Ytmhjbkkbbhioeaa
