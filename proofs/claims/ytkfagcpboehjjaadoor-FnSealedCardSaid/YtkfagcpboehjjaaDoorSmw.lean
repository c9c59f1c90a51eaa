/- What the reference's modes walk through. No condition. -/
import Derived.Test.YtkfagcpboehjjaaDoorSpm
import Derived.Deep.RegionHeld3
import Derived.Deep.MidRow
namespace Go.Proofs.YtkfagcpboehjjaaDoor
set_option maxRecDepth 100000
open Go.RowKit

theorem fst_pick (j : Nat) (O : Nat → Nat → Int) : fst (16 * (j + 1)) (pick O) = fst (16 * j) (pick O) ++ fst 16 (O j) := by
  rw [show 16 * (j + 1) = 16 * j + 16 by omega, fst_add]
  congr 1
  exact fst_congr fun i hi => blk_pick O j i hi
theorem mO_1 (rk iv d : Nat → Int) (b : Bool) (k : Nat) : mO 1 rk iv d b k = DE b rk (blk d k) := by cases b <;> rfl
theorem place2 (j k c p : Nat) (hp : Hid (p = 16 * j)) (hj : j < k) (hk : k ≤ 63) (hc : 16 * k ≤ c) : IntKind.i64.wrap ((p : Int) + 16) = (p : Int) + 16 ∧ ((p : Int) + 16).toNat = p + 16 ∧ (p : Int) + 16 ≤ (c : Int) ∧ (p : Int) + 16 ≤ 16 * (k : Int) ∧ p + 16 ≤ 16 * k ∧ p + 16 - p = 16 ∧ ¬ c = p ∧ ¬ 16 * k = p ∧ ((p : Int) + 16 - (p : Int)).toNat = 16 ∧ 0 ≤ (p : Int) + 16 ∧ (p : Int) < 16 * (k : Int) ∧ 16 ≤ c - p := by
  have := hp.out
  refine ⟨IntWalk.i64_in _ (by omega), by omega, by omega, by omega, by omega, by omega, by omega, by omega, by omega, by omega, by omega, by omega⟩
/-- append, and all that it leaves as it was. -/
theorem app_bytes2 {ops : Array Oper} {rest : List Oper} {o : Oper} {a : Act} {Q : Exit → Act → World → Prop} (w : World) (hgd : o.guard = none) (s x : Operand)
    (ho : o.op = .call { callee := .builtin .append, args := #[s, x], argTypes := #[22, 22] })
    (base : Nat) (v : Value) (l : List Int) (hs : a.eval s = v) (hown : OwnB w base v l)
    (B : Nat) (A : Option Addr) (m c : Nat) (news : List Int) (hx : a.eval x = .slice A m c) (hr : Reads w B 1 A m (news.map (Value.int .u8)))
    (hlen : l.length + m ≤ 140737488351232) (hbase : base ≤ w.heap.size)
    (h : ∀ v' w', OwnB w' base v' (l ++ news) → Below base w w' → (∀ k, k < w.heap.size → v.ownBlock ≠ some k → w'.heap[k]? = w.heap[k]?) → (v'.ownBlock = v.ownBlock ∨ v'.ownBlock = some w.heap.size) → wpList Tryd.prog ops Q rest (a.put o.dst v') w') : wpList Tryd.prog ops Q (o :: rest) a w := by
  obtain ⟨i0, hi, hz0, hz1, hz2⟩ := info_parts info5
  have hm : news.length = m := by have := hr.1; simpa using this
  refine wpList_append_any w hgd s x 22 ho base 5 i0 _ 1 1 Tryd.underlying22 hi hz0 hz1 hz2 rfl (by decide) v l.length _ hs hown B A m c _ hx hr (ints_one _) (by unfold maxLen; omega) (by omega) hbase ?_
  intro v1 w1 hown1 hg1 hv1
  refine h v1 w1 ?_ ((Below.refl _ _).grown hg1 hbase (fun k hk => (World.ownsRow.lt hown k hk).1)) (fun k hk hne => hg1.block k hk (fun e => hne e.symm)) hv1
  unfold OwnB
  rw [List.length_append, List.map_append, hm]
  exact hown1
theorem OwnB.block_lt {w : World} {base : Nat} {v : Value} {l : List Int} (h : OwnB w base v l) {k : Nat} (hk : v.ownBlock = some k) : k < w.heap.size := (World.ownsRow.lt h k hk).2
theorem Src.block {w w' : World} {ad : Addr} {n : Nat} {f : Nat → Int} (h : Src w ad n f) (hb : w'.heap[ad.block]? = w.heap[ad.block]?) : Src w' ad n f := fun j hj =>
  (World.cell?_of_block (by rw [block_of_add]; exact hb)).trans (h j hj)
theorem Blk.range {w : World} {g : Nat} {t : TypeId} {cl : List Value} (h : Blk w g t cl.toArray) : w.rangeAt g 0 cl := fun j v hv => by
  rw [Nat.zero_add, h.cell, List.getElem?_toArray]
  exact hv
theorem step_app2 {ops : Array Oper} {o : Oper} {a : Act} {K : Act → World → Prop} {Q : Exit → Act → World → Prop} {E : Prop} (w : World) (hgd : o.guard = none) (s x : Operand)
    (ho : o.op = .call { callee := .builtin .append, args := #[s, x], argTypes := #[22, 22] })
    (base : Nat) (v : Value) (l : List Int) (hs : a.eval s = v) (hown : OwnB w base v l)
    (B : Nat) (A : Option Addr) (m c : Nat) (news : List Int) (hx : a.eval x = .slice A m c) (hr : Reads w B 1 A m (news.map (Value.int .u8)))
    (hlen : l.length + m ≤ 140737488351232) (hbase : base ≤ w.heap.size)
    (h : ∀ v' w', OwnB w' base v' (l ++ news) → Below base w w' → (∀ k, k < w.heap.size → v.ownBlock ≠ some k → w'.heap[k]? = w.heap[k]?) → (v'.ownBlock = v.ownBlock ∨ v'.ownBlock = some w.heap.size) → K (a.put o.dst v') w') :
    if Region.wanted o (yielded ops a.tmps) = true then Oper.wp Tryd.prog o a w K Q else E := by
  obtain ⟨i0, hi, hz0, hz1, hz2⟩ := info_parts info5
  have hm : news.length = m := by have := hr.1; simpa using this
  refine step_append_any w hgd s x 22 ho base 5 i0 _ 1 1 Tryd.underlying22 hi hz0 hz1 hz2 rfl (by decide) v l.length _ hs hown B A m c _ hx hr (ints_one _) (by unfold maxLen; omega) (by omega) hbase ?_
  intro v1 w1 hown1 hg1 hv1
  refine h v1 w1 ?_ ((Below.refl _ _).grown hg1 hbase (fun k hk => (World.ownsRow.lt hown k hk).1)) (fun k hk hne => hg1.block k hk (fun e => hne e.symm)) hv1
  unfold OwnB
  rw [List.length_append, List.map_append, hm]
  exact hown1
/-- The reference's keys in a row of their own: the mode's beginning. -/
theorem keys_laid {w w1 : World} {cs : Array Value} (ho1 : Only [] w w1) :
    Only [] w ((w1.alloc (.cells (ZU 32) 47)).setRow w1.heap.size cs) ∧ Blk ((w1.alloc (.cells (ZU 32) 47)).setRow w1.heap.size cs) w1.heap.size 47 cs ∧ ((w1.alloc (.cells (ZU 32) 47)).setRow w1.heap.size cs).heap.size = w1.heap.size + 1 :=
  ⟨(ho1.alloc _).then_ (Only.setRow w1.heap.size cs) (by intro x hx hl; simp at hx; have := ho1.size; omega), setRow_heap _ _ (ZU 32) cs 47 (0, 0) (heap_alloc_new w1 _), by simp⟩
end Go.Proofs.YtkfagcpboehjjaaDoor
