/- An own row of slices; appends whose frames are handed on. No condition. -/
import Derived.Test.YtmhjbkkbbhioeaaShift
import Derived.Test.YtmhjbkkbbhioeaaComb
import Derived.Test.YtmhjbkkbbhioeaaResetF
namespace Go.Proofs.Ytmhjbkkbbhioeaa
open Go.RowKit

/-- A row of slices of the call's own. -/
def OwnL (w : World) (base : Nat) (v : Value) (xs : List Value) : Prop := w.ownsRow base 24 1 v xs.length xs

theorem OwnL.nil (w : World) (base : Nat) : OwnL w base (.slice none 0 0) [] := World.ownsRow_nil w base 24 1
theorem OwnL.alloc {w : World} {base : Nat} {v : Value} {xs : List Value} (h : OwnL w base v xs) (o : Obj) : OwnL (w.alloc o) base v xs := World.ownsRow.alloc h o
theorem OwnL.below {w w' : World} {base B : Nat} {v : Value} {xs : List Value} (h : OwnL w base v xs) (hb : Below B w w') (hB : w.heap.size ≤ B) : OwnL w' base v xs :=
  World.ownsRow.kept (row := none) h ⟨hb.os, hb.tape, hb.output, hb.size, fun k hk _ => hb.block k (by omega)⟩ (by
    rcases h.2 with ⟨rfl, _⟩ | ⟨g, cap, cur, rfl, _⟩
    · exact .inl rfl
    · exact .inr (by simp [Value.ownBlock]))
theorem OwnL.shaped {w : World} {base : Nat} {v : Value} {xs : List Value} (h : OwnL w base v xs) : ∃ A c, v = .slice A xs.length c := by
  rcases h.2 with ⟨e, h0⟩ | ⟨g, cap, cur, e, _⟩
  · refine ⟨none, 0, ?_⟩
    rw [h0]; exact e
  · exact ⟨_, _, e⟩
/-- Rows of other types lie apart. -/
theorem own_apart {w : World} {b1 b2 s1 s2 n1 n2 : Nat} {e1 e2 : TypeId} {v1 v2 : Value} {x1 x2 : List Value} (h1 : w.ownsRow b1 e1 s1 v1 n1 x1) (h2 : w.ownsRow b2 e2 s2 v2 n2 x2) (hne : e1 ≠ e2) : v1.ownBlock = none ∨ v1.ownBlock ≠ v2.ownBlock := by
  rcases h1.2 with ⟨rfl, _⟩ | ⟨g1, c1, cur1, rfl, _, hg1, _⟩
  · exact .inl rfl
  · rcases h2.2 with ⟨rfl, _⟩ | ⟨g2, c2, cur2, rfl, _, hg2, _⟩
    · exact .inr (by simp [Value.ownBlock])
    · refine .inr ?_
      simp only [Value.ownBlock, ne_eq, Option.some.injEq]
      rintro rfl
      rw [hg1] at hg2
      injection hg2 with hg2
      injection hg2 with _ ht
      exact hne ht

/-- append of bytes onto a row of the call's own; what else is there stays. -/
theorem app_bytes_g {ops : Array Oper} {rest : List Oper} {o : Oper} {a : Act} {Q : Exit → Act → World → Prop} (w : World) (hgd : o.guard = none) (s x : Operand)
    (ho : o.op = .call { callee := .builtin .append, args := #[s, x], argTypes := #[24, 24] })
    (base : Nat) (v : Value) (l : List Int) (hs : a.eval s = v) (hown : OwnB w base v l)
    (B : Nat) (A : Option Addr) (m c : Nat) (news : List Int) (hx : a.eval x = .slice A m c) (hr : Reads w B 1 A m (news.map (Value.int .u8)))
    (hlen : l.length + m ≤ 140737488351232) (hbase : base ≤ w.heap.size)
    (h : ∀ v' w', OwnB w' base v' (l ++ news) → Below base w w' → w.grownBy w' v.ownBlock → (v'.ownBlock = v.ownBlock ∨ v'.ownBlock = some w.heap.size) → wpList Try.prog ops Q rest (a.put o.dst v') w') : wpList Try.prog ops Q (o :: rest) a w := by
  obtain ⟨i0, hi, hz0, hz1, hz2⟩ := info_parts info5
  have hm : news.length = m := by have := hr.1; simpa using this
  refine wpList_append_any w hgd s x 24 ho base 5 i0 _ 1 1 Try.underlying24 hi hz0 hz1 hz2 rfl (by decide) v l.length _ hs hown B A m c _ hx hr (ints_one _) (by unfold maxLen; omega) (by omega) hbase ?_
  intro v1 w1 hown1 hg1 hv1
  refine h v1 w1 ?_ ((Below.refl _ _).grown hg1 hbase (fun k hk => (World.ownsRow.lt hown k hk).1)) hg1 hv1
  unfold OwnB
  rw [List.length_append, List.map_append, hm]
  exact hown1

/-- append of slices onto a row of the call's own. -/
theorem app_rows {ops : Array Oper} {rest : List Oper} {o : Oper} {a : Act} {Q : Exit → Act → World → Prop} (w : World) (hgd : o.guard = none) (s x : Operand)
    (ho : o.op = .call { callee := .builtin .append, args := #[s, x], argTypes := #[22, 22] })
    (base : Nat) (v : Value) (l : List Value) (hs : a.eval s = v) (hown : OwnL w base v l)
    (B : Nat) (A : Option Addr) (m c : Nat) (news : List Value) (hx : a.eval x = .slice A m c) (hr : Reads w B 1 A m news) (h1 : ∀ u ∈ news, u.oneCell' = true)
    (hlen : l.length + m ≤ 1000000) (hbase : base ≤ w.heap.size)
    (h : ∀ v' w', OwnL w' base v' (l ++ news) → Below base w w' → w.grownBy w' v.ownBlock → (v'.ownBlock = v.ownBlock ∨ v'.ownBlock = some w.heap.size) → wpList Try.prog ops Q rest (a.put o.dst v') w') : wpList Try.prog ops Q (o :: rest) a w := by
  obtain ⟨i0, hi, hz0, hz1, hz2⟩ := info_parts info24
  have hm : news.length = m := by have := hr.1; simpa using this
  refine wpList_append_any w hgd s x 22 ho base 24 i0 _ 1 24 Try.underlying22 hi hz0 hz1 hz2 rfl (by decide) v l.length _ hs hown B A m c _ hx hr h1 (by unfold maxLen; omega) (by omega) hbase ?_
  intro v1 w1 hown1 hg1 hv1
  refine h v1 w1 ?_ ((Below.refl _ _).grown hg1 hbase (fun k hk => (World.ownsRow.lt hown k hk).1)) hg1 hv1
  unfold OwnL
  rw [List.length_append, hm]
  exact hown1

/-- The steps that came in: rows of two cells. -/
structure Steps (w : World) (ad : Option Addr) (n : Nat) (O : Nat → Int) (A : Nat → Option Addr) (L C : Nat → Nat) (lr : Nat → List Int) : Prop where
  cell : ∀ r, r < n → ∃ a, ad = some a ∧ a.block < w.heap.size ∧ w.cell? (a.add (r * 2)) = some (.int .i64 (O r)) ∧ w.cell? (a.add (r * 2 + 1)) = some (.slice (A r) (L r) (C r))
  reads : ∀ r, r < n → Reads w w.heap.size 1 (A r) (L r) ((lr r).map (Value.int .u8))
  byte : ∀ r, r < n → ∀ x ∈ lr r, 0 ≤ x ∧ x ≤ 255
  len : ∀ r, r < n → L r ≤ maxLen
  few : n ≤ maxLen

section
variable {w w' : World} {ad : Option Addr} {n : Nat} {O : Nat → Int} {A : Nat → Option Addr} {L C : Nat → Nat} {lr : Nat → List Int}
theorem Steps.below (h : Steps w ad n O A L C lr) (hb : Below w.heap.size w w') : Steps w' ad n O A L C lr :=
  ⟨fun r hr => by
    obtain ⟨a, e, h1, h2, h3⟩ := h.cell r hr
    exact ⟨a, e, Nat.lt_of_lt_of_le h1 hb.size, (hb.cell (by rw [block_of_add]; exact h1)).trans h2, (hb.cell (by rw [block_of_add]; exact h1)).trans h3⟩,
    fun r hr => ((h.reads r hr).below hb).more hb.size, h.byte, h.len, h.few⟩
theorem Steps.lens (h : Steps w ad n O A L C lr) {r : Nat} (hr : r < n) : (lr r).length = L r := by
  have := (h.reads r hr).1
  rwa [List.length_map, Nat.mul_one] at this
end

/-- What is written behind the last reset. -/
def wrt (O : Nat → Int) (lr : Nat → List Int) : Nat → List Int
  | 0 => []
  | k + 1 => if O k = 0 then wrt O lr k ++ lr k else if O k = 2 then [] else wrt O lr k
/-- What a step says. -/
def says (O : Nat → Int) (lr : Nat → List Int) (k : Nat) : List Int := if O k = 1 then sm3 (wrt O lr k) else if O k = 3 then [32, 64] else []
/-- The law's own bounds at a step. -/
def Fine (O : Nat → Int) (L : Nat → Nat) (k : Nat) : Prop := L k ≤ 500 ∧ 0 ≤ O k ∧ O k < 4 ∧ (O k = 1 → L k = 0)

theorem wrt_length {O : Nat → Int} {L : Nat → Nat} {lr : Nat → List Int} : ∀ k, (∀ j, j < k → Fine O L j ∧ (lr j).length = L j) → (wrt O lr k).length ≤ 500 * k
  | 0, _ => by simp [wrt]
  | k + 1, h => by
    have ih := wrt_length k fun j hj => h j (by omega)
    obtain ⟨h1, h2⟩ := h k (by omega)
    have := h1.1
    unfold wrt
    split
    · rw [List.length_append]; omega
    · split
      · simp
      · omega
theorem wrt_byte {O : Nat → Int} {lr : Nat → List Int} : ∀ k, (∀ j, j < k → ∀ x ∈ lr j, 0 ≤ x ∧ x ≤ 255) → ∀ x ∈ wrt O lr k, 0 ≤ x ∧ x ≤ 255
  | 0, _ => by simp [wrt]
  | k + 1, h => by
    have ih := wrt_byte (O := O) k fun j hj => h j (by omega)
    unfold wrt
    split
    · intro x hx
      rcases List.mem_append.1 hx with hx | hx
      · exact ih x hx
      · exact h k (by omega) x hx
    · split
      · simp
      · exact ih
end Go.Proofs.Ytmhjbkkbbhioeaa
