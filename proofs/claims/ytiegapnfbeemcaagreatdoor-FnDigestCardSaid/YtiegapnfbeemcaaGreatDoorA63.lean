/-
  Bytes appended and read. No condition.
-/
import Derived.Test.YtiegapnfbeemcaaGreatDoorA01
import Derived.Lib.Hide
import Derived.WalkSmall
import Derived.ArgAppend
import Derived.Tactics
import Derived.Tactics2
import Derived.Defers
import Derived.Recover
import Derived.Laws.Pointers
namespace Go.Proofs.YtiegapnfbeemcaaGreatDoor
open Go.RowKit

theorem info5 : (Tryz.prog.info? 5).map (fun i => (i.zero, i.size, i.bytes)) = some (some (.int .u8 0), 1, 1) := by kernel_rfl

/-- v is a slice of the call's own, made since base, that holds the bytes l. -/
def OwnB (w : World) (base : Nat) (v : Value) (l : List Int) : Prop := w.ownsRow base 5 1 v l.length (l.map (Value.int .u8))

theorem OwnB.empty (w : World) {base : Nat} (hb : base ≤ w.heap.size) : OwnB (w.alloc (.cells #[] 5)) base (.slice (some ⟨w.heap.size, 0, none⟩) 0 0) [] := World.ownsRow_lit _ _ _ hb (by unfold maxLen; omega) rfl
theorem OwnB.alloc {w : World} {base : Nat} {v : Value} {l : List Int} (h : OwnB w base v l) (o : Obj) : OwnB (w.alloc o) base v l := World.ownsRow.alloc h o
theorem OwnB.drewN {w : World} {base : Nat} {v : Value} {l : List Int} (h : OwnB w base v l) (n : Nat) : OwnB (w.drewN n) base v l := h
theorem OwnB.below {w w' : World} {base B : Nat} {v : Value} {l : List Int} (h : OwnB w base v l) (hb : Below B w w') (hB : w.heap.size ≤ B) : OwnB w' base v l :=
  World.ownsRow.kept (row := none) h ⟨hb.os, hb.tape, hb.output, hb.size, fun k hk _ => hb.block k (by omega)⟩ (by
    rcases h.2 with ⟨rfl, _⟩ | ⟨g, cap, cur, rfl, _⟩
    · exact .inl rfl
    · exact .inr (by simp [Value.ownBlock]))
theorem OwnB.reads {w : World} {base : Nat} {A : Option Addr} {n c : Nat} {l : List Int} (h : OwnB w base (.slice A n c) l) : n = l.length ∧ Reads w w.heap.size 1 A l.length (l.map (Value.int .u8)) := by
  have hn : n = l.length := by
    rcases h.2 with ⟨e, h0⟩ | ⟨g, cap, cur, e, _⟩
    · injection e with _ e2 _; rw [e2, h0]
    · injection e with _ e2 _
  subst hn
  exact ⟨rfl, Reads.of_own h⟩
theorem OwnB.form {w : World} {base : Nat} {v : Value} {l : List Int} (h : OwnB w base v l) (hl : 0 < l.length) :
    ∃ g c, v = .slice (some ⟨g, 0, none⟩) l.length c ∧ base ≤ g ∧ g < w.heap.size ∧ l.length ≤ c ∧ c ≤ maxLen ∧ (∀ j, j < l.length → w.cell? ⟨g, j, none⟩ = some (.int .u8 (l.getD j 0))) ∧ ∀ j, w.frozen? ⟨g, j, none⟩ = false := by
  have h0 := h
  rcases h.2 with ⟨_, hz⟩ | ⟨g, cap, cur, rfl, hb, hh, hc, hm, _, _⟩
  · omega
  · refine ⟨g, cap, rfl, hb, Blk.lt (t := 5) (cs := cur) hh, hc, hm, fun j hj => ?_, fun j => Blk.frozen (t := 5) (cs := cur) hh j⟩
    rw [World.ownsRow.cellAt h0 j (by omega), List.getElem?_map, List.getElem?_eq_getElem hj, List.getD_eq_getElem?_getD, List.getElem?_eq_getElem hj]
    rfl

/-- append, the row the call's own. -/
theorem app_bytes {ops : Array Oper} {rest : List Oper} {o : Oper} {a : Act} {Q : Exit → Act → World → Prop} (w : World) (hgd : o.guard = none) (s x : Operand)
    (ho : o.op = .call { callee := .builtin .append, args := #[s, x], argTypes := #[22, 22] })
    (base : Nat) (v : Value) (l : List Int) (hs : a.eval s = v) (hown : OwnB w base v l)
    (B : Nat) (A : Option Addr) (m c : Nat) (news : List Int) (hx : a.eval x = .slice A m c) (hr : Reads w B 1 A m (news.map (Value.int .u8)))
    (hlen : l.length + m ≤ 140737488351232) (hbase : base ≤ w.heap.size)
    (h : ∀ v' w', OwnB w' base v' (l ++ news) → Below base w w' → wpList Tryz.prog ops Q rest (a.put o.dst v') w') : wpList Tryz.prog ops Q (o :: rest) a w := by
  obtain ⟨i0, hi, hz0, hz1, hz2⟩ := info_parts info5
  have hm : news.length = m := by have := hr.1; simpa using this
  refine wpList_append_any w hgd s x 22 ho base 5 i0 _ 1 1 Tryz.underlying22 hi hz0 hz1 hz2 rfl (by decide) v l.length _ hs hown B A m c _ hx hr (ints_one _) (by unfold maxLen; omega) (by omega) hbase ?_
  intro v1 w1 hown1 hg1 _
  refine h v1 w1 ?_ ((Below.refl _ _).grown hg1 hbase (fun k hk => (World.ownsRow.lt hown k hk).1))
  unfold OwnB
  rw [List.length_append, List.map_append, hm]
  exact hown1

/-- The call hands back a slice of its own that holds the bytes l; what was there is as it was. -/
def RetBytes (w : World) (l : List Int) (e : Ending) (w' : World) : Prop :=
  ∃ v, e = .returned v ∧ OwnB w' w.heap.size v l ∧ Below w.heap.size w w'

/-- The string of some bytes. -/
def strOf (l : List Int) : ByteArray := l.foldl (fun r n => r.push (UInt8.ofNat n.toNat)) ByteArray.empty
theorem run_string (A : Option Addr) (n c : Nat) (l : List Int) (w : World) (hr : Reads w w.heap.size 1 A n (l.map (Value.int .u8))) :
    (convert 22 9 (.slice A n c)).run Tryz.prog w = .ok (.string (strOf l)) w := by
  rw [run_convert_bytes_string w 22 9 5 A n c Tryz.underlying22 Tryz.underlying5 Tryz.underlying9]
  have hn : l.length = n := by simpa using hr.1
  rcases Nat.eq_zero_or_pos n with h0 | h0
  · subst h0
    have hl : l = [] := List.eq_nil_of_length_eq_zero hn
    subst hl
    rcases A with _ | a
    · simp [Conv.bytesToString, strOf, Sem.run_pure]
    · rw [run_bytesToString w a 0 c [] (by simpa using run_loadCells_list (P := Tryz.prog) (w := w) a [] (by simp))]
      rfl
  · obtain ⟨ad, rfl, _, hc⟩ := hr.2 h0
    rw [run_bytesToString w ad n c l]
    · rfl
    · have := run_loadCells_list (P := Tryz.prog) (w := w) ad (l.map (Value.int .u8)) hc
      rw [List.length_map, hn] at this
      exact this

theorem same_any (A : Option Addr) (n c : Nat) (B : Option Addr) (m d : Nat) (l : List Int) (w : World) (h1 : Reads w w.heap.size 1 A n (l.map (Value.int .u8))) (h2 : Reads w w.heap.size 1 B m (l.map (Value.int .u8))) :
    Calls Tryz.prog 12 #[.slice A n c, .slice B m d] w fun e w' => e = .returned (.bool true) ∧ w = w' := by
  have e1 := run_string A n c l w h1
  have e2 := run_string B m d l w h2
  clear h1 h2
  go_enter Tryz.func12, Tryz.ntmps12
  go_wp2
  go_ret
  exact ⟨by simp, rfl⟩
theorem OwnB.lift {w : World} {base base' : Nat} {v : Value} {l : List Int} (h : OwnB w base v l) (hb : base' ≤ base) : OwnB w base' v l :=
  ⟨h.1, h.2.imp id fun ⟨g, c, cur, h1, h2, h3⟩ => ⟨g, c, cur, h1, Nat.le_trans hb h2, h3⟩⟩
/-- A slice of the call's own, as it is written. -/
theorem OwnB.shaped {w : World} {base : Nat} {v : Value} {l : List Int} (h : OwnB w base v l) : ∃ A c, v = .slice A l.length c := by
  rcases h.2 with ⟨e, h0⟩ | ⟨g, cap, cur, e, _⟩
  · refine ⟨none, 0, ?_⟩
    rw [h0]; exact e
  · exact ⟨_, _, e⟩

/-- Block g begins with n bytes, byte j being f j. -/
def ArrB (w : World) (g n : Nat) (f : Nat → Int) : Prop :=
  ∃ cs, Blk w g 5 cs ∧ n ≤ cs.size ∧ ∀ j, j < n → cs[j]? = some (.int .u8 (f j))

section
variable {w w' : World} {g n : Nat} {f f' : Nat → Int}
theorem ArrB.lt (h : ArrB w g n f) : g < w.heap.size := let ⟨_, h, _, _⟩ := h; h.lt
theorem ArrB.cell (h : ArrB w g n f) {j : Nat} (hj : j < n) : w.cell? ⟨g, j, none⟩ = some (.int .u8 (f j)) := by
  obtain ⟨cs, hb, _, hc⟩ := h
  rw [hb.cell, hc j hj]
theorem ArrB.frozen (h : ArrB w g n f) (j : Nat) : w.frozen? ⟨g, j, none⟩ = false := let ⟨_, hb, _, _⟩ := h; hb.frozen j
theorem ArrB.drewN (h : ArrB w g n f) (k : Nat) : ArrB (w.drewN k) g n f := h
theorem ArrB.below {B : Nat} (h : ArrB w g n f) (hb : Below B w w') (hg : g < B) : ArrB w' g n f := let ⟨cs, h1, h⟩ := h; ⟨cs, h1.below hb hg, h⟩
theorem ArrB.congr (h : ArrB w g n f) (he : ∀ j, j < n → f j = f' j) : ArrB w g n f' := let ⟨cs, h1, h2, h3⟩ := h; ⟨cs, h1, h2, fun j hj => by rw [h3 j hj, he j hj]⟩
theorem ArrB.set_ (h : ArrB w g n f) (i : Nat) (x : Int) (he : ∀ j, j < n → f' j = if j = i then x else f j) : ArrB (w.setCell ⟨g, i, none⟩ (.int .u8 x)) g n f' := by
  obtain ⟨cs, h1, h2, h3⟩ := h
  refine ⟨_, h1.set_ i _, by simpa using h2, fun j hj => ?_⟩
  rw [he j hj, Array.getElem?_setIfInBounds]
  by_cases hij : i = j
  · subst hij
    have : i < cs.size := by omega
    simp [this]
  · rw [if_neg hij, h3 j hj, if_neg (fun e => hij e.symm)]
theorem ArrB.reads (h : ArrB w g n f) : Reads w w.heap.size 1 (some ⟨g, 0, none⟩) n (((List.range n).map f).map (Value.int .u8)) :=
  ⟨by simp, fun _ => ⟨_, rfl, h.lt, fun j u hu => by
    have e : (⟨g, 0, none⟩ : Addr).add j = ⟨g, j, none⟩ := by
      unfold Addr.add; by_cases h0 : j = 0 <;> simp [h0]
    have hj : j < n := by
      rcases Nat.lt_or_ge j n with h1 | h1
      · exact h1
      · rw [List.getElem?_eq_none (by simpa using h1)] at hu; cases hu
    rw [e, h.cell hj]
    simp [hj] at hu
    rw [← hu]⟩⟩
theorem ArrB.of_own {base c : Nat} {l : List Int} (h : OwnB w base (.slice (some ⟨g, 0, none⟩) l.length c) l) : base ≤ g ∧ l.length ≤ c ∧ c ≤ maxLen ∧ ArrB w g l.length (fun j => l.getD j 0) := by
  rcases h.2 with ⟨e, h0⟩ | ⟨g', cap, cur, e, hb, hh, h3, h4, h5, h6⟩
  · cases e
  · have e1 : g = g' := by injection e with e1 _ _; injection e1 with e1; injection e1
    have e2 : c = cap := by injection e
    subst e1; subst e2
    refine ⟨hb, h3, h4, cur, hh, by omega, fun j hj => ?_⟩
    have h7 : (List.take (l.length * 1) cur.toList)[j]? = (List.map (Value.int .u8) l)[j]? := by rw [h6]
    rw [List.getElem?_take, if_pos (by omega), List.getElem?_map, List.getElem?_eq_getElem hj, Array.getElem?_toList] at h7
    rw [h7]
    simp [List.getElem?_eq_getElem hj]
end

end Go.Proofs.YtiegapnfbeemcaaGreatDoor

namespace Go.Proofs.YtiegapnfbeemcaaGreatDoor
set_option maxRecDepth 100000
open Go.RowKit

theorem setCells_blk (g : Nat) (t : TypeId) : ∀ (vs : List Value) (o : Nat) (w : World) (cs : Array Value), Blk w g t cs → o + vs.length ≤ cs.size →
    ∃ cs', Blk (w.setCells g o vs) g t cs' ∧ cs'.size = cs.size ∧ (∀ j, j < vs.length → cs'[o + j]? = vs[j]?) ∧ ∀ i, (i < o ∨ o + vs.length ≤ i) → cs'[i]? = cs[i]?
  | [], o, w, cs, h, _ => ⟨cs, h, rfl, fun j hj => absurd hj (by simp), fun _ _ => rfl⟩
  | v :: r, o, w, cs, h, hl => by
    simp only [List.length_cons] at hl
    obtain ⟨cs', h1, h2, h3, h4⟩ := setCells_blk g t r (o + 1) (w.setCell ⟨g, o, none⟩ v) _ (h.set_ o v) (by simp; omega)
    refine ⟨cs', h1, by rw [h2]; simp, fun j hj => ?_, fun i hi => ?_⟩
    · cases j with
      | zero =>
        rw [h4 (o + 0) (by omega), Array.getElem?_setIfInBounds]
        simp; omega
      | succ j =>
        have := h3 j (by simpa using hj)
        rw [show o + (j + 1) = o + 1 + j by omega, this]
        simp
    · simp only [List.length_cons] at hi
      rw [h4 i (by omega), Array.getElem?_setIfInBounds, if_neg (by omega)]
theorem setCells_far_ (g : Nat) : ∀ (vs : List Value) (o : Nat) (w : World) (k : Nat), k ≠ g → (w.setCells g o vs).heap[k]? = w.heap[k]?
  | [], _, _, _, _ => rfl
  | v :: r, o, w, k, h => (setCells_far_ g r (o + 1) (w.setCell ⟨g, o, none⟩ v) k h).trans (Below.heap_setCell w ⟨g, o, none⟩ v k h)
theorem setCells_below_ {B g : Nat} (hg : B ≤ g) : ∀ (vs : List Value) (o : Nat) (w w' : World), Below B w w' → Below B w (w'.setCells g o vs)
  | [], _, _, _, h => h
  | v :: r, o, w, w', h => setCells_below_ hg r (o + 1) w (w'.setCell ⟨g, o, none⟩ v) (h.setCell hg v)

/-- v is a slice made since base, the bytes u, with room behind them. -/
def OwnS (w : World) (base : Nat) (v : Value) (u : List Int) : Prop :=
  ∃ g o cap cur, v = .slice (some ⟨g, o, none⟩) u.length cap ∧ base ≤ g ∧ Blk w g 5 cur ∧ u.length ≤ cap ∧ cap ≤ maxLen ∧ o + cap ≤ cur.size ∧ ∀ j, j < u.length → cur[o + j]? = some (.int .u8 (u.getD j 0))

theorem OwnS.keep {w w' : World} {base : Nat} {v : Value} {u : List Int} (h : OwnS w base v u) (hk : ∀ k cs, Blk w k 5 cs → base ≤ k → Blk w' k 5 cs) : OwnS w' base v u :=
  let ⟨g, o, cap, cur, h1, h2, h3, h4⟩ := h; ⟨g, o, cap, cur, h1, h2, hk g cur h3 h2, h4⟩
theorem OwnS.of_own {w : World} {base : Nat} {v : Value} {u : List Int} (h : OwnB w base v u) (hp : 0 < u.length) : OwnS w base v u := by
  rcases h.2 with ⟨_, hz⟩ | ⟨g, cap, cur, e, hb, hh, hc, hm, hs, ht⟩
  · omega
  · refine ⟨g, 0, cap, cur, e, hb, hh, hc, hm, by omega, fun j hj => ?_⟩
    have : (cur.toList.take (u.length * 1))[j]? = (u.map (Value.int .u8))[j]? := by rw [ht]
    rw [List.getElem?_take, if_pos (by omega), List.getElem?_map, List.getElem?_eq_getElem hj] at this
    rw [Nat.zero_add, List.getD_eq_getElem?_getD, List.getElem?_eq_getElem hj]
    simpa using this
theorem OwnS.new (w : World) {base : Nat} (hb : base ≤ w.heap.size) (cs : Array Value) (u : List Int) (hcs : cs.toList = u.map (Value.int .u8)) (hl : u.length ≤ maxLen) :
    OwnS (w.alloc (.cells cs 5)) base (.slice (some ⟨w.heap.size, 0, none⟩) u.length u.length) u := by
  have hsz : cs.size = u.length := by rw [← Array.length_toList, hcs, List.length_map]
  refine ⟨w.heap.size, 0, u.length, cs, rfl, hb, Blk.new w 5 cs, Nat.le_refl _, hl, by omega, fun j hj => ?_⟩
  rw [Nat.zero_add, ← Array.getElem?_toList, hcs, List.getElem?_map, List.getElem?_eq_getElem hj, List.getD_eq_getElem?_getD, List.getElem?_eq_getElem hj]
  rfl
theorem OwnS.cell {w : World} {base g o n c : Nat} {u : List Int} (h : OwnS w base (.slice (some ⟨g, o, none⟩) n c) u) : n = u.length ∧ g < w.heap.size ∧ base ≤ g ∧ u.length ≤ c ∧ c ≤ maxLen ∧ ∀ j, j < u.length → w.cell? ⟨g, o + j, none⟩ = some (.int .u8 (u.getD j 0)) := by
  obtain ⟨g', o', c', cur, e, h1, h2, h3, h4, _, h5⟩ := h
  injection e with e1 e2 e3
  injection e1 with e1
  injection e1 with e1 e4
  subst e1 e2 e3 e4
  exact ⟨rfl, h2.lt, h1, h3, h4, fun j hj => (h2.cell _).trans (h5 j hj)⟩

/-- The slice v0 (n0 long) isn't written by an append onto v: another block, or the same beginning and no longer. -/
def Apart (v0 v : Value) (n0 : Nat) : Prop :=
  ∃ g0 o0 c0 g o n c, v0 = .slice (some ⟨g0, o0, none⟩) n0 c0 ∧ v = .slice (some ⟨g, o, none⟩) n c ∧ (g0 ≠ g ∨ (o0 = o ∧ n0 ≤ n))
theorem Apart.self {w : World} {base : Nat} {v : Value} {u : List Int} (h : OwnS w base v u) : Apart v v u.length := by
  obtain ⟨g, o, c, _, e, _⟩ := h
  exact ⟨g, o, c, g, o, u.length, c, e, e, .inr ⟨rfl, Nat.le_refl _⟩⟩

/-- append onto such a slice. -/
theorem app_s {ops : Array Oper} {rest : List Oper} {o : Oper} {a : Act} {Q : Exit → Act → World → Prop} (w : World) (hgd : o.guard = none) (s x : Operand)
    (ho : o.op = .call { callee := .builtin .append, args := #[s, x], argTypes := #[22, 22] })
    (base : Nat) (v : Value) (u : List Int) (hs : a.eval s = v) (hown : OwnS w base v u)
    (B : Nat) (A : Option Addr) (m c : Nat) (news : List Int) (hx : a.eval x = .slice A m c) (hr : Reads w B 1 A m (news.map (Value.int .u8)))
    (hlen : u.length + m ≤ 140737488351232) (hbase : base ≤ w.heap.size)
    (h : ∀ v' w', OwnS w' base v' (u ++ news) → Below base w w' → (∀ k t cs, t ≠ 5 → Blk w k t cs → Blk w' k t cs) →
      (∀ v0 u0, OwnS w base v0 u0 → Apart v0 v u0.length → OwnS w' base v0 u0 ∧ Apart v0 v' u0.length) → wpList Tryz.prog ops Q rest (a.put o.dst v') w') : wpList Tryz.prog ops Q (o :: rest) a w := by
  obtain ⟨i0, hi, hz0, hz1, hz2⟩ := info_parts info5
  have hm : news.length = m := by have := hr.1; simpa using this
  obtain ⟨g, off, cap, cur, rfl, hg, hblk, hcap, hmx, hfit, hcell⟩ := hown
  have holds : ∀ j u', (u.map (Value.int .u8))[j]? = some u' → w.cell? ⟨g, off + j, none⟩ = some u' := fun j u' hj => by
    have hj' : j < u.length := by
      rcases Nat.lt_or_ge j u.length with h1 | h1
      · exact h1
      · rw [List.getElem?_eq_none (by simpa using h1)] at hj; cases hj
    rw [hblk.cell, hcell j hj']
    rw [List.getElem?_map, List.getElem?_eq_getElem hj'] at hj
    rw [List.getD_eq_getElem?_getD, List.getElem?_eq_getElem hj']
    simpa using hj
  rcases A with _ | ad
  · have h0 : m = 0 := by
      rcases Nat.eq_zero_or_pos m with h0 | h0
      · exact h0
      · obtain ⟨_, he, _⟩ := hr.2 h0; cases he
    subst h0
    obtain rfl : news = [] := List.eq_nil_of_length_eq_zero hm
    refine wpList_plain hgd fun K hK => ?_
    have hrun : (Builtin.append_ #[22, 22] o.type #[.slice (some ⟨g, off, none⟩) u.length cap, .slice none 0 c]).run Tryz.prog w = .ok (.slice (some ⟨g, off, none⟩) u.length cap) w := by
      simp [Builtin.append_, run_underlying Tryz.underlying22, sizeOf, typeInfo, hi, Builtin.lenOf, Builtin.firstCells, hcap, storeCells]
    unfold Oper.wp execOp
    simp only [ho, resolve, invoke, builtin, Sem.run_bind, Sem.run_pure, Result.andThen_ok, List.map_toArray, List.map_cons, List.map_nil, hs, hx, hrun]
    refine hK _ _ (h _ _ ?_ (Below.refl _ _) (fun _ _ _ _ hb => hb) (fun _ _ h1 h2 => ⟨h1, h2⟩))
    rw [List.append_nil]
    exact ⟨g, off, cap, cur, rfl, hg, hblk, hcap, hmx, hfit, hcell⟩
  · have hcells : ∀ j u', (news.map (Value.int .u8))[j]? = some u' → w.cell? (ad.add j) = some u' := fun j u' hj => by
      have hj' : j < news.length := by
        rcases Nat.lt_or_ge j news.length with h1 | h1
        · exact h1
        · rw [List.getElem?_eq_none (by simpa using h1)] at hj; cases hj
      obtain ⟨ad', he, _, hc⟩ := hr.2 (by omega)
      injection he with he
      subst he
      exact hc j u' hj
    refine wpList_append_arg w hgd s x 22 ho 5 i0 _ 1 1 Tryz.underlying22 hi hz0 hz1 hz2 rfl (by decide) g off u.length cap (u.map (Value.int .u8)) hs (by simp) holds ad m c (news.map (Value.int .u8)) hx (by simpa using hm) hcells (ints_one _)
      (fun hroom j hj => ?_) (by unfold maxLen; omega) (by omega) (fun hroom => ?_) (fun hgrow v' w' hown' hgr => ?_)
    · have hj' : j < m := by simpa [hm] using hj
      refine ⟨?_, hblk.frozen _⟩
      rw [hblk.cell, Array.getElem?_eq_getElem (by omega)]; rfl
    · obtain ⟨cs', b1, b2, b3, b4⟩ := setCells_blk g 5 (news.map (Value.int .u8)) (off + u.length * 1) w cur hblk (by simp; omega)
      refine h _ _ ⟨g, off, cap, cs', by rw [List.length_append, hm], hg, b1, by rw [List.length_append, hm]; exact hroom, hmx, by omega, fun j hj => ?_⟩ (setCells_below_ hg _ _ _ _ (Below.refl _ _)) (fun k t cs ht hb => ?_) (fun v0 u0 h0 hap => ?_)
      · rw [List.length_append] at hj
        by_cases h1 : j < u.length
        · rw [b4 _ (by omega), hcell j h1, List.getD_eq_getElem?_getD, List.getD_eq_getElem?_getD, List.getElem?_append_left h1]
        · have := b3 (j - u.length) (by simp; omega)
          rw [show off + u.length * 1 + (j - u.length) = off + j by omega] at this
          rw [this, List.getElem?_map, List.getD_eq_getElem?_getD, List.getElem?_append_right (by omega), List.getElem?_eq_getElem (by omega)]
          rfl
      · have hne : k ≠ g := by
          rintro rfl
          unfold Blk at hb hblk
          rw [hblk] at hb
          injection hb with hb
          injection hb with _ hb
          exact ht hb.symm
        exact (setCells_far_ g _ _ w k hne).trans hb
      · obtain ⟨g0, o0, c0, g1, o1, n1, c1, rfl, e1, hap⟩ := hap
        injection e1 with e1 e2 e3
        injection e1 with e1
        injection e1 with e1 e4
        subst e1 e2 e4
        obtain ⟨g2, o2, c2, cur2, e, f1, f2, f3, f4, f5, f6⟩ := h0
        injection e with e1 _ e3
        injection e1 with e1
        injection e1 with e1 e4
        subst e1 e3 e4
        refine ⟨?_, g0, o0, c0, g, off, u.length + m, cap, rfl, rfl, by omega⟩
        by_cases hg0 : g0 = g
        · subst hg0
          rcases hap with hap | ⟨rfl, hn0⟩
          · exact absurd rfl hap
          · have hcc : cur2 = cur := by
              unfold Blk at f2 hblk
              rw [hblk] at f2
              injection f2 with f2
              injection f2 with f2 _
              exact f2.symm
            subst hcc
            exact ⟨g0, o0, c0, cs', rfl, f1, b1, f3, f4, by omega, fun j hj => by rw [b4 _ (by omega)]; exact f6 j hj⟩
        · exact ⟨g0, o0, c0, cur2, rfl, f1, (setCells_far_ g _ _ w g0 hg0).trans f2, f3, f4, f5, f6⟩
    · have hpos : 0 < (u ++ news).length := by rw [List.length_append]; omega
      have hB : OwnB w' base v' (u ++ news) := by
        have h2 : OwnB w' w.heap.size v' (u ++ news) := by
          unfold OwnB
          rw [List.length_append, List.map_append, hm]
          exact hown'
        refine ⟨h2.1, ?_⟩
        rcases h2.2 with h3 | ⟨g', c', cur', e1, e2, e3⟩
        · exact .inl h3
        · exact .inr ⟨g', c', cur', e1, Nat.le_trans hbase e2, e3⟩
      refine h v' w' (OwnS.of_own hB hpos) ⟨hgr.os, hgr.tape, hgr.output, hgr.size, fun k hk => hgr.block k (by omega) (by simp)⟩ (fun k t cs _ hb => ?_) (fun v0 u0 h0 hap => ?_)
      · exact (hgr.block k hb.lt (by simp)).trans hb
      · obtain ⟨g0, o0, c0, g1, o1, n1, c1, rfl, _, _⟩ := hap
        obtain ⟨g2, o2, c2, cur2, e, f1, f2, f3⟩ := h0
        have e0 := e
        injection e with e1 _ _
        injection e1 with e1
        injection e1 with e1 _
        rcases hown'.2 with ⟨_, hz⟩ | ⟨g', c', cur', e', e2, e3⟩
        · omega
        · refine ⟨⟨g2, o2, c2, cur2, e0, f1, (hgr.block g2 f2.lt (by simp)).trans f2, f3⟩, g0, o0, c0, g', 0, _, c', rfl, e', .inl ?_⟩
          have := f2.lt
          omega
end Go.Proofs.YtiegapnfbeemcaaGreatDoor

namespace Go.Proofs.YtiegapnfbeemcaaGreatDoor
open Go.RowKit

theorem catch_idle (p : Addr) (w : World) :
    CallsD Tryz.prog 36 #[.pointer (some p)] .returning w fun e u' w' => e = .returned (.tuple #[]) ∧ u' = .returning ∧ w' = w := by
  refine callsD_of_wpS Tryz.func36 rfl fun c₀ cs hu => ?_
  apply wpS_seq
  apply wpS_region
  simp [wpOpsS, go_sem, recoverD, hu, Tryz.ntmps36, Exit.thenS]
  refine wpS_cond (t := false) (by simp [Act.eval, Array.replicate]) ?_
  simp only [Bool.false_eq_true, if_false]
  refine wpS_of_wp (wp_skip ?_)
  cases c₀
  simp_all [bodyPostS, results, Tryz.results36]

theorem calm_any (f : FuncId) (cs : Array Value) (R : World → Prop) (w : World)
    (hcf : ∀ w, (callFunc f cs).run Tryz.prog w = .ok (.enter f cs) w)
    (h : Calls Tryz.prog f cs (w.alloc (.cells #[.bool false] 4)) fun e w' => e = .returned (.tuple #[]) ∧ Blk w' w.heap.size 4 #[.bool false] ∧ R w') :
    Calls Tryz.prog 22 #[.func (.func f) #[] cs] w fun e w'' => e = .returned (.bool true) ∧ ∃ w', R w' ∧ w'' = w'.setCell ⟨w.heap.size, 0, none⟩ (.bool true) := by
  have hmf : ∀ (fn : Fn) (first cap : Array Value) (w : World), (Instr.makeFunc fn first cap).run Tryz.prog w = .ok (.func fn first cap) w := fun _ _ _ _ => rfl
  go_enter_defers Tryz.func22, Tryz.ntmps22
  go_wp2_with fail
  refine h.mono ?_
  rintro e w' ⟨rfl, hb, hR⟩
  have hc := hb.cell 0
  have hf := hb.frozen 0
  simp only [List.getElem?_toArray, List.getElem?_cons_zero] at hc
  have hlate := (hb.set_ 0 (.bool true)).cell 0
  go_wp2_with fail
  refine leaves_cons (f := 36) (args := #[.pointer (some ⟨w.heap.size, 0, none⟩)]) (by simp) (by simp [go_sem]) ?_
  refine (catch_idle ⟨w.heap.size, 0, none⟩ _).mono ?_
  rintro e u' w'' ⟨rfl, rfl, rfl⟩
  simp [Leaves, settle, results, Tryz.results22, go_sem, hlate]
  exact ⟨w', hR, rfl⟩
end Go.Proofs.YtiegapnfbeemcaaGreatDoor

namespace Go.Proofs.YtiegapnfbeemcaaGreatDoor
set_option maxRecDepth 100000
open Go.RowKit

/-- The block of a slice. -/
def blk : Value → Nat
  | .slice (some a) _ _ => a.block
  | _ => 0
/-- Of the blocks that were there only that of v is turned; and v' lies in none of the others. -/
def Fr (w : World) (v : Value) (w' : World) (v' : Value) : Prop := ∀ k, k < w.heap.size → k ≠ blk v → w'.heap[k]? = w.heap[k]? ∧ k ≠ blk v'
theorem Fr.refl (w : World) (v : Value) : Fr w v w v := fun _ _ h => ⟨rfl, h⟩
theorem Fr.trans {w w1 w2 : World} {v v1 v2 : Value} (h1 : Fr w v w1 v1) (hs : w.heap.size ≤ w1.heap.size) (h2 : Fr w1 v1 w2 v2) : Fr w v w2 v2 := fun k hk hv => by
  obtain ⟨a1, b1⟩ := h1 k hk hv
  obtain ⟨a2, b2⟩ := h2 k (by omega) b1
  exact ⟨a2.trans a1, b2⟩
theorem Fr.alloc {w : World} {v : Value} (o : Obj) : Fr w v (w.alloc o) v := fun k hk hv => ⟨Below.heap_alloc w o k hk, hv⟩

/-- append onto such a slice. -/
theorem app_f {ops : Array Oper} {rest : List Oper} {o : Oper} {a : Act} {Q : Exit → Act → World → Prop} (w : World) (hgd : o.guard = none) (s x : Operand)
    (ho : o.op = .call { callee := .builtin .append, args := #[s, x], argTypes := #[22, 22] })
    (base : Nat) (v : Value) (u : List Int) (hs : a.eval s = v) (hown : OwnS w base v u)
    (B : Nat) (A : Option Addr) (m c : Nat) (news : List Int) (hx : a.eval x = .slice A m c) (hr : Reads w B 1 A m (news.map (Value.int .u8)))
    (hlen : u.length + m ≤ 140737488351232) (hbase : base ≤ w.heap.size)
    (h : ∀ v' w', OwnS w' base v' (u ++ news) → Below base w w' → (∀ k t cs, t ≠ 5 → Blk w k t cs → Blk w' k t cs) →
      (∀ v0 u0, OwnS w base v0 u0 → Apart v0 v u0.length → OwnS w' base v0 u0 ∧ Apart v0 v' u0.length) → Fr w v w' v' → wpList Tryz.prog ops Q rest (a.put o.dst v') w') : wpList Tryz.prog ops Q (o :: rest) a w := by
  obtain ⟨i0, hi, hz0, hz1, hz2⟩ := info_parts info5
  have hm : news.length = m := by have := hr.1; simpa using this
  obtain ⟨g, off, cap, cur, rfl, hg, hblk, hcap, hmx, hfit, hcell⟩ := hown
  have holds : ∀ j u', (u.map (Value.int .u8))[j]? = some u' → w.cell? ⟨g, off + j, none⟩ = some u' := fun j u' hj => by
    have hj' : j < u.length := by
      rcases Nat.lt_or_ge j u.length with h1 | h1
      · exact h1
      · rw [List.getElem?_eq_none (by simpa using h1)] at hj; cases hj
    rw [hblk.cell, hcell j hj']
    rw [List.getElem?_map, List.getElem?_eq_getElem hj'] at hj
    rw [List.getD_eq_getElem?_getD, List.getElem?_eq_getElem hj']
    simpa using hj
  rcases A with _ | ad
  · have h0 : m = 0 := by
      rcases Nat.eq_zero_or_pos m with h0 | h0
      · exact h0
      · obtain ⟨_, he, _⟩ := hr.2 h0; cases he
    subst h0
    obtain rfl : news = [] := List.eq_nil_of_length_eq_zero hm
    refine wpList_plain hgd fun K hK => ?_
    have hrun : (Builtin.append_ #[22, 22] o.type #[.slice (some ⟨g, off, none⟩) u.length cap, .slice none 0 c]).run Tryz.prog w = .ok (.slice (some ⟨g, off, none⟩) u.length cap) w := by
      simp [Builtin.append_, run_underlying Tryz.underlying22, sizeOf, typeInfo, hi, Builtin.lenOf, Builtin.firstCells, hcap, storeCells]
    unfold Oper.wp execOp
    simp only [ho, resolve, invoke, builtin, Sem.run_bind, Sem.run_pure, Result.andThen_ok, List.map_toArray, List.map_cons, List.map_nil, hs, hx, hrun]
    refine hK _ _ (h _ _ ?_ (Below.refl _ _) (fun _ _ _ _ hb => hb) (fun _ _ h1 h2 => ⟨h1, h2⟩) (Fr.refl _ _))
    rw [List.append_nil]
    exact ⟨g, off, cap, cur, rfl, hg, hblk, hcap, hmx, hfit, hcell⟩
  · have hcells : ∀ j u', (news.map (Value.int .u8))[j]? = some u' → w.cell? (ad.add j) = some u' := fun j u' hj => by
      have hj' : j < news.length := by
        rcases Nat.lt_or_ge j news.length with h1 | h1
        · exact h1
        · rw [List.getElem?_eq_none (by simpa using h1)] at hj; cases hj
      obtain ⟨ad', he, _, hc⟩ := hr.2 (by omega)
      injection he with he
      subst he
      exact hc j u' hj
    refine wpList_append_arg w hgd s x 22 ho 5 i0 _ 1 1 Tryz.underlying22 hi hz0 hz1 hz2 rfl (by decide) g off u.length cap (u.map (Value.int .u8)) hs (by simp) holds ad m c (news.map (Value.int .u8)) hx (by simpa using hm) hcells (ints_one _)
      (fun hroom j hj => ?_) (by unfold maxLen; omega) (by omega) (fun hroom => ?_) (fun hgrow v' w' hown' hgr => ?_)
    · have hj' : j < m := by simpa [hm] using hj
      refine ⟨?_, hblk.frozen _⟩
      rw [hblk.cell, Array.getElem?_eq_getElem (by omega)]; rfl
    · obtain ⟨cs', b1, b2, b3, b4⟩ := setCells_blk g 5 (news.map (Value.int .u8)) (off + u.length * 1) w cur hblk (by simp; omega)
      refine h _ _ ⟨g, off, cap, cs', by rw [List.length_append, hm], hg, b1, by rw [List.length_append, hm]; exact hroom, hmx, by omega, fun j hj => ?_⟩ (setCells_below_ hg _ _ _ _ (Below.refl _ _)) (fun k t cs ht hb => ?_) (fun v0 u0 h0 hap => ?_) (fun k _ hk => ⟨setCells_far_ g _ _ w k hk, hk⟩)
      · rw [List.length_append] at hj
        by_cases h1 : j < u.length
        · rw [b4 _ (by omega), hcell j h1, List.getD_eq_getElem?_getD, List.getD_eq_getElem?_getD, List.getElem?_append_left h1]
        · have := b3 (j - u.length) (by simp; omega)
          rw [show off + u.length * 1 + (j - u.length) = off + j by omega] at this
          rw [this, List.getElem?_map, List.getD_eq_getElem?_getD, List.getElem?_append_right (by omega), List.getElem?_eq_getElem (by omega)]
          rfl
      · have hne : k ≠ g := by
          rintro rfl
          unfold Blk at hb hblk
          rw [hblk] at hb
          injection hb with hb
          injection hb with _ hb
          exact ht hb.symm
        exact (setCells_far_ g _ _ w k hne).trans hb
      · obtain ⟨g0, o0, c0, g1, o1, n1, c1, rfl, e1, hap⟩ := hap
        injection e1 with e1 e2 e3
        injection e1 with e1
        injection e1 with e1 e4
        subst e1 e2 e4
        obtain ⟨g2, o2, c2, cur2, e, f1, f2, f3, f4, f5, f6⟩ := h0
        injection e with e1 _ e3
        injection e1 with e1
        injection e1 with e1 e4
        subst e1 e3 e4
        refine ⟨?_, g0, o0, c0, g, off, u.length + m, cap, rfl, rfl, by omega⟩
        by_cases hg0 : g0 = g
        · subst hg0
          rcases hap with hap | ⟨rfl, hn0⟩
          · exact absurd rfl hap
          · have hcc : cur2 = cur := by
              unfold Blk at f2 hblk
              rw [hblk] at f2
              injection f2 with f2
              injection f2 with f2 _
              exact f2.symm
            subst hcc
            exact ⟨g0, o0, c0, cs', rfl, f1, b1, f3, f4, by omega, fun j hj => by rw [b4 _ (by omega)]; exact f6 j hj⟩
        · exact ⟨g0, o0, c0, cur2, rfl, f1, (setCells_far_ g _ _ w g0 hg0).trans f2, f3, f4, f5, f6⟩
    · have hpos : 0 < (u ++ news).length := by rw [List.length_append]; omega
      have hB : OwnB w' base v' (u ++ news) := by
        have h2 : OwnB w' w.heap.size v' (u ++ news) := by
          unfold OwnB
          rw [List.length_append, List.map_append, hm]
          exact hown'
        refine ⟨h2.1, ?_⟩
        rcases h2.2 with h3 | ⟨g', c', cur', e1, e2, e3⟩
        · exact .inl h3
        · exact .inr ⟨g', c', cur', e1, Nat.le_trans hbase e2, e3⟩
      refine h v' w' (OwnS.of_own hB hpos) ⟨hgr.os, hgr.tape, hgr.output, hgr.size, fun k hk => hgr.block k (by omega) (by simp)⟩ (fun k t cs _ hb => ?_) (fun v0 u0 h0 hap => ?_) (fun k hk _ => ⟨hgr.block k hk (by simp), ?_⟩)
      · exact (hgr.block k hb.lt (by simp)).trans hb
      · obtain ⟨g0, o0, c0, g1, o1, n1, c1, rfl, _, _⟩ := hap
        obtain ⟨g2, o2, c2, cur2, e, f1, f2, f3⟩ := h0
        have e0 := e
        injection e with e1 _ _
        injection e1 with e1
        injection e1 with e1 _
        rcases hown'.2 with ⟨_, hz⟩ | ⟨g', c', cur', e', e2, e3⟩
        · omega
        · refine ⟨⟨g2, o2, c2, cur2, e0, f1, (hgr.block g2 f2.lt (by simp)).trans f2, f3⟩, g0, o0, c0, g', 0, _, c', rfl, e', .inl ?_⟩
          have := f2.lt
          omega
      · rcases hown'.2 with ⟨_, hz⟩ | ⟨g', c', cur', e', e2, e3⟩
        · omega
        · rw [e']; show k ≠ g'; omega
end Go.Proofs.YtiegapnfbeemcaaGreatDoor
