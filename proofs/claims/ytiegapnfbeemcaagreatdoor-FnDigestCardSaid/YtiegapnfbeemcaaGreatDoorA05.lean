/-
  Rows of cells, arms of the walk, the check of straight code by types. No condition.
-/
import Derived.Test.YtiegapnfbeemcaaGreatDoorA01
import Derived.BigQuiet
import Derived.Test.YtiegapnfbeemcaaGreatDoorA04
import Derived.Laws.Rows
import Derived.Laws.Tables
import Derived.Laws.CopyOwn
import Derived.Deep.MidRow
namespace Go.Proofs.YtiegapnfbeemcaaGreatDoor
open Go.RowKit

structure Bel (W : World) where
  w : World
  h : Below W.heap.size W w

theorem Bel.cell {W : World} (x : Bel W) {g o : Nat} (hg : g < W.heap.size) : x.w.cell? ⟨g, o, none⟩ = W.cell? ⟨g, o, none⟩ := x.h.cell (p := ⟨g, o, none⟩) hg
theorem Bel.frozen {W : World} (x : Bel W) {g o : Nat} (hg : g < W.heap.size) : x.w.frozen? ⟨g, o, none⟩ = W.frozen? ⟨g, o, none⟩ := x.h.frozen (p := ⟨g, o, none⟩) hg

theorem bel_call {P : Program} {f : FuncId} {args : Array Value} {W : World} {x : Bel W} {v : Value} (h : Calls P f args x.w fun e w' => e = .returned v ∧ Below x.w.heap.size x.w w') :
    Calls P f args x.w fun e w'' => e = .returned v ∧ ∃ y : Bel W, w'' = y.w :=
  h.mono fun _ w' ⟨he, hb⟩ => ⟨he, ⟨w', x.h.trans (hb.mono x.h.size)⟩, rfl⟩
theorem bel_call_drew {P : Program} {f : FuncId} {args : Array Value} {W : World} {x : Bel W} {v : Value} (h : Calls P f args x.w fun e w' => e = .returned v ∧ ∃ n, w' = x.w.drewN n) :
    Calls P f args x.w fun e w'' => e = .returned v ∧ ∃ y : Bel W, w'' = y.w :=
  h.mono fun _ w' ⟨he, n, hb⟩ => ⟨he, ⟨w', by subst hb; exact ⟨x.h.os, x.h.tape, x.h.output, x.h.size, x.h.block⟩⟩, rfl⟩
theorem bel_call_same {P : Program} {f : FuncId} {args : Array Value} {W : World} {x : Bel W} {v : Value} (h : Calls P f args x.w fun e w' => e = .returned v ∧ x.w = w') :
    Calls P f args x.w fun e w'' => e = .returned v ∧ ∃ y : Bel W, w'' = y.w :=
  h.mono fun _ _ ⟨he, hw⟩ => ⟨he, x, hw.symm⟩

theorem bel_drew (W : World) : ∃ x : Bel W, { W with drawn := W.drawn + 1 } = x.w := ⟨⟨{ W with drawn := W.drawn + 1 }, ⟨rfl, rfl, rfl, Nat.le_refl _, fun _ _ => rfl⟩⟩, rfl⟩

theorem region_bel {P : Program} {id : Nat} {Q : Exit → Act → World → Prop} {a : Act} {w : World} {l : List Oper} (hm : P.follows .mixedOrders = true) (hB : Region.lexB .any l.toArray = true)
    (h : wpQuiet P l.toArray (fun w' => ∃ x : Bel w, w' = x.w) (fun a' => ∀ w', (∃ x : Bel w, w' = x.w) → Q .normal a' w') l a) : (Code.region id l.toArray true).wp P Q a w :=
  wp_region_quiet (C := fun w' => ∃ x : Bel w, w' = x.w) hm hB (bel_drew w) (by simpa using h)
theorem region_bel_tail {P : Program} {id : Nat} {Q : Exit → Act → World → Prop} {a : Act} {w : World} {l : List Oper} (n : Nat)
    (hm : P.follows .mixedOrders = true) (hB : Region.lexTailB .any l.toArray n = true)
    (h : wpQuiet P l.toArray (fun w' => ∃ x : Bel w, w' = x.w) (fun a' => ∀ w', (∃ x : Bel w, w' = x.w) → wpList P l.toArray Q (l.drop n) a' w') (l.take n) a) : (Code.region id l.toArray true).wp P Q a w :=
  region_quiet_tail_in (C := fun w' => ∃ x : Bel w, w' = x.w) n (bel_drew w) hm hB h
end Go.Proofs.YtiegapnfbeemcaaGreatDoor

namespace Go.Proofs.YtiegapnfbeemcaaGreatDoor
set_option maxRecDepth 100000
open Go.RowKit

/-- The cells of a point by three numbers, and of a plain one. -/
def c24 (x y z : Nat → Int) : Array Value := #[.int .u32 (x 0), .int .u32 (x 1), .int .u32 (x 2), .int .u32 (x 3), .int .u32 (x 4), .int .u32 (x 5), .int .u32 (x 6), .int .u32 (x 7),
  .int .u32 (y 0), .int .u32 (y 1), .int .u32 (y 2), .int .u32 (y 3), .int .u32 (y 4), .int .u32 (y 5), .int .u32 (y 6), .int .u32 (y 7),
  .int .u32 (z 0), .int .u32 (z 1), .int .u32 (z 2), .int .u32 (z 3), .int .u32 (z 4), .int .u32 (z 5), .int .u32 (z 6), .int .u32 (z 7)]
def c17 (x y : Nat → Int) (b : Bool) : Array Value := #[.int .u32 (x 0), .int .u32 (x 1), .int .u32 (x 2), .int .u32 (x 3), .int .u32 (x 4), .int .u32 (x 5), .int .u32 (x 6), .int .u32 (x 7),
  .int .u32 (y 0), .int .u32 (y 1), .int .u32 (y 2), .int .u32 (y 3), .int .u32 (y 4), .int .u32 (y 5), .int .u32 (y 6), .int .u32 (y 7), .bool b]
abbrev J (x y z : Nat → Int) : Value := .agg (c24 x y z)
abbrev Pt (x y : Nat → Int) (b : Bool) : Value := .agg (c17 x y b)
theorem c24_size (x y z : Nat → Int) : (c24 x y z).size = 24 := rfl
theorem c17_size (x y : Nat → Int) (b : Bool) : (c17 x y b).size = 17 := rfl
theorem c24_one (x y z : Nat → Int) : (c24 x y z).all (·.oneCell') = true := by simp [c24, Value.oneCell']
theorem c17_one (x y : Nat → Int) (b : Bool) : (c17 x y b).all (·.oneCell') = true := by simp [c17, Value.oneCell']
theorem c8_one (x : Nat → Int) : (c8 x).all (·.oneCell') = true := by simp [Value.oneCell']
theorem size26 : (Tryz.prog.info? 26).map (·.size) = some 8 := by kernel_rfl
theorem size41 : (Tryz.prog.info? 41).map (·.size) = some 24 := by kernel_rfl
theorem size28 : (Tryz.prog.info? 28).map (·.size) = some 17 := by kernel_rfl

/-- A row that lies in a block. -/
theorem range_of {w : World} {g off : Nat} {t : TypeId} {cs : Array Value} {l : List Value} (h : Blk w g t cs) (hl : ∀ j v, l[j]? = some v → cs[off + j]? = some v) : w.rangeAt g off l := fun j v hv => by
  rw [h.cell]; exact hl j v hv
theorem at8 {l : List Value} (hl : l.length = 8) {P : Nat → Value → Prop} (h : ∀ j, j < 8 → ∀ v, l[j]? = some v → P j v) : ∀ j v, l[j]? = some v → P j v := fun j v hv => by
  have hj : j < 8 := by
    rcases Nat.lt_or_ge j 8 with h1 | h1
    · exact h1
    · rw [List.getElem?_eq_none (by omega)] at hv; cases hv
  exact h j hj v hv
theorem lt8 {j : Nat} (h : j < 8) : j = 0 ∨ j = 1 ∨ j = 2 ∨ j = 3 ∨ j = 4 ∨ j = 5 ∨ j = 6 ∨ j = 7 := by omega
theorem range26 {w : World} {g : Nat} {f : Nat → Int} (h : Blk w g 26 (c8 f)) : w.rangeAt g 0 (c8 f).toList := range_of h fun j v hv => by
  rw [Nat.zero_add, ← Array.getElem?_toList]; exact hv
theorem range41x {w : World} {g : Nat} {x y z : Nat → Int} (h : Blk w g 41 (c24 x y z)) : w.rangeAt g 0 (c8 x).toList := range_of h (at8 rfl fun j hj v hv => by
  rcases lt8 hj with rfl | rfl | rfl | rfl | rfl | rfl | rfl | rfl <;> exact hv)
theorem range41y {w : World} {g : Nat} {x y z : Nat → Int} (h : Blk w g 41 (c24 x y z)) : w.rangeAt g 8 (c8 y).toList := range_of h (at8 rfl fun j hj v hv => by
  rcases lt8 hj with rfl | rfl | rfl | rfl | rfl | rfl | rfl | rfl <;> exact hv)
theorem range41z {w : World} {g : Nat} {x y z : Nat → Int} (h : Blk w g 41 (c24 x y z)) : w.rangeAt g 16 (c8 z).toList := range_of h (at8 rfl fun j hj v hv => by
  rcases lt8 hj with rfl | rfl | rfl | rfl | rfl | rfl | rfl | rfl <;> exact hv)

section
variable {ops : Array Oper} {rest : List Oper} {o : Oper} {a : Act} {w : World} {Q : Exit → Act → World → Prop}
theorem ld26 (hgd : o.guard = none) (x : Operand) (ho : o.op = .load 26 x) (g off : Nat) (f : Nat → Int) (hx : a.eval x = .pointer (some ⟨g, off, none⟩)) (hc : w.rangeAt g off (c8 f).toList)
    (h : wpList Tryz.prog ops Q rest (a.put o.dst (N8 f)) w) : wpList Tryz.prog ops Q (o :: rest) a w :=
  wpList_load_mid hgd 26 x ho g off hx (c8 f).toList _ hc Tryz.underlying26 rfl size26 h
theorem ld41 (hgd : o.guard = none) (p : Operand) (ho : o.op = .load 41 p) (g : Nat) (x y z : Nat → Int) (hx : a.eval p = .pointer (some ⟨g, 0, none⟩)) (hc : Blk w g 41 (c24 x y z))
    (h : wpList Tryz.prog ops Q rest (a.put o.dst (J x y z)) w) : wpList Tryz.prog ops Q (o :: rest) a w :=
  wpList_load_row hgd 41 p ho g hx 41 _ (0, 0) _ hc Tryz.underlying41 rfl (size41.trans rfl) h
theorem st41 (hgd : o.guard = none) (p v : Operand) (ho : o.op = .store 41 p v) (g : Nat) (x y z : Nat → Int) (hx : a.eval p = .pointer (some ⟨g, 0, none⟩)) (hv : a.eval v = J x y z) (old : Array Value) (hc : Blk w g 41 old) (hs : old.size = 24)
    (h : wpList Tryz.prog ops Q rest (a.put o.dst undef) (w.setRow g (c24 x y z))) : wpList Tryz.prog ops Q (o :: rest) a w :=
  wpList_store_row hgd 41 p v ho g (c24 x y z) hx hv 41 old hc (size41.trans rfl) hs (c24_one x y z) h
theorem st28 (hgd : o.guard = none) (p v : Operand) (ho : o.op = .store 28 p v) (g : Nat) (x y : Nat → Int) (b : Bool) (hx : a.eval p = .pointer (some ⟨g, 0, none⟩)) (hv : a.eval v = Pt x y b) (old : Array Value) (hc : Blk w g 28 old) (hs : old.size = 17)
    (h : wpList Tryz.prog ops Q rest (a.put o.dst undef) (w.setRow g (c17 x y b))) : wpList Tryz.prog ops Q (o :: rest) a w :=
  wpList_store_row hgd 28 p v ho g (c17 x y b) hx hv 28 old hc (size28.trans rfl) hs (c17_one x y b) h
end
theorem Blk.setRow {w : World} {g : Nat} {t : TypeId} {old : Array Value} (h : Blk w g t old) (cs : Array Value) : Blk (w.setRow g cs) g t cs := setRow_heap w g old cs t (0, 0) h
theorem Blk.setRow_far {w : World} {g k : Nat} {t : TypeId} {cs : Array Value} (h : Blk w k t cs) (hk : k ≠ g) (c : Array Value) : Blk (w.setRow g c) k t cs := (setRow_other w g k c hk).trans h
theorem Blk.down {w w' : World} {g : Nat} {t : TypeId} {cs : Array Value} (h : Blk w g t cs) (hb : Below w.heap.size w w') : Blk w' g t cs := h.below hb h.lt

theorem range28x {w : World} {g : Nat} {x y : Nat → Int} {b : Bool} (h : Blk w g 28 (c17 x y b)) : w.rangeAt g 0 (c8 x).toList := range_of h (at8 rfl fun j hj v hv => by
  rcases lt8 hj with rfl | rfl | rfl | rfl | rfl | rfl | rfl | rfl <;> exact hv)
theorem range28y {w : World} {g : Nat} {x y : Nat → Int} {b : Bool} (h : Blk w g 28 (c17 x y b)) : w.rangeAt g 8 (c8 y).toList := range_of h (at8 rfl fun j hj v hv => by
  rcases lt8 hj with rfl | rfl | rfl | rfl | rfl | rfl | rfl | rfl <;> exact hv)
theorem flag28 {w : World} {g : Nat} {x y : Nat → Int} {b : Bool} (h : Blk w g 28 (c17 x y b)) : w.cell? ⟨g, 16, none⟩ = some (.bool b) := h.cell 16

theorem built41 (x y z : Nat → Int) : Tryz.prog.built 41 [(0, N8 x), (1, N8 y), (2, N8 z)] = some (c24 x y z) := by kernel_rfl
theorem built28 (x y : Nat → Int) : Tryz.prog.built 28 [(0, N8 x), (1, N8 y)] = some (c17 x y false) := by kernel_rfl
section
variable {ops : Array Oper} {rest : List Oper} {o : Oper} {a : Act} {w : World} {Q : Exit → Act → World → Prop}
theorem bld41 (hgd : o.guard = none) (p : Array (Nat × Operand)) (ho : o.op = .build 41 p) (x y z : Nat → Int) (hp : (p.map fun (i, q) => (i, a.eval q)).toList = [(0, N8 x), (1, N8 y), (2, N8 z)])
    (h : wpList Tryz.prog ops Q rest (a.put o.dst (J x y z)) w) : wpList Tryz.prog ops Q (o :: rest) a w :=
  wpList_build hgd 41 p ho (by rw [hp, built41]; rfl) (by rw [hp, built41]; exact h)
theorem bld28 (hgd : o.guard = none) (p : Array (Nat × Operand)) (ho : o.op = .build 28 p) (x y : Nat → Int) (hp : (p.map fun (i, q) => (i, a.eval q)).toList = [(0, N8 x), (1, N8 y)])
    (h : wpList Tryz.prog ops Q rest (a.put o.dst (Pt x y false)) w) : wpList Tryz.prog ops Q (o :: rest) a w :=
  wpList_build hgd 28 p ho (by rw [hp, built28]; rfl) (by rw [hp, built28]; exact h)
end
theorem res41 {fn : Func} {p : Tmp} (h : fn.results = #[.cell p 41]) (tmps : Array Value) (w : World) (g : Nat) (x y z : Nat → Int) (hp : tmps.getD p undef = .pointer (some ⟨g, 0, none⟩)) (hg : Blk w g 41 (c24 x y z)) :
    (results fn tmps).run Tryz.prog w = .ok (J x y z) w := results_cell_row h tmps w g 41 _ (0, 0) _ hp hg Tryz.underlying41 rfl (size41.trans rfl)
theorem res28 {fn : Func} {p : Tmp} (h : fn.results = #[.cell p 28]) (tmps : Array Value) (w : World) (g : Nat) (x y : Nat → Int) (b : Bool) (hp : tmps.getD p undef = .pointer (some ⟨g, 0, none⟩)) (hg : Blk w g 28 (c17 x y b)) :
    (results fn tmps).run Tryz.prog w = .ok (Pt x y b) w := results_cell_row h tmps w g 28 _ (0, 0) _ hp hg Tryz.underlying28 rfl (size28.trans rfl)
end Go.Proofs.YtiegapnfbeemcaaGreatDoor

namespace Go.Proofs.YtiegapnfbeemcaaGreatDoor
set_option maxRecDepth 100000
open Go.RowKit

def oneF (j : Nat) : Int := if j = 0 then 1 else 0
def zF (_ : Nat) : Int := 0
theorem oneF_uu : UU oneF := fun j _ => by unfold oneF U32; split <;> omega
theorem zF_uu : UU zF := fun j _ => by unfold zF U32; omega
theorem built26one : Tryz.prog.built 26 [(0, .int .u32 1)] = some (c8 oneF) := by kernel_rfl
theorem built41z : Tryz.prog.built 41 [] = some (c24 zF zF zF) := by kernel_rfl
theorem built28t : Tryz.prog.built 28 [(2, .bool true)] = some (c17 zF zF true) := by kernel_rfl
theorem zero26 (w : World) : (zeroValue 26).run Tryz.prog w = .ok (N8 zF) w := by kernel_rfl
theorem zero41 (w : World) : (zeroValue 41).run Tryz.prog w = .ok (J zF zF zF) w := by kernel_rfl
theorem zero28 (w : World) : (zeroValue 28).run Tryz.prog w = .ok (Pt zF zF false) w := by kernel_rfl

/-- What a fresh block leaves. -/
def Fresh (w W : World) (g : Nat) : Prop := W.heap.size = g + 1 ∧ w.heap.size = g ∧ (∀ k t cs, Blk w k t cs → Blk W k t cs) ∧ Below w.heap.size w W
/-- What a store to block g leaves. -/
def Stored (w W : World) (g : Nat) : Prop := W.heap.size = w.heap.size ∧ (∀ k t cs, k ≠ g → Blk w k t cs → Blk W k t cs) ∧ (∀ n, n ≤ g → Below n w W)

theorem fresh_of (w : World) (t : TypeId) (cs : Array Value) : Fresh w (w.alloc (.cells cs t)) w.heap.size :=
  ⟨World.size_alloc .., rfl, fun _ _ _ h => h.alloc _, (Below.refl _ w).alloc (Nat.le_refl _) _⟩
theorem setRow_below {n : Nat} (w : World) (g : Nat) (cs : Array Value) (h : n ≤ g) : Below n w (w.setRow g cs) :=
  ⟨rfl, rfl, rfl, Nat.le_of_eq (setRow_size w g cs).symm, fun k hk => setRow_other w g k cs (by omega)⟩
theorem stored_of (w : World) (g : Nat) (cs : Array Value) : Stored w (w.setRow g cs) g :=
  ⟨setRow_size w g cs, fun _ _ _ hk h => h.setRow_far hk cs, fun _ h => setRow_below w g cs h⟩

section
variable {ops : Array Oper} {rest : List Oper} {o : Oper} {a : Act} {w : World} {Q : Exit → Act → World → Prop}
theorem wp_new {K : Act → World → Prop} {t : TypeId} {cs : Array Value} (hz : ∀ w, (zeroValue t).run Tryz.prog w = .ok (.agg cs) w) (ho : o.op = .alloc t)
    (h : K (a.put o.dst (.pointer (some ⟨w.heap.size, 0, none⟩))) (w.alloc (.cells cs t))) : o.wp Tryz.prog a w K Q := by
  unfold Oper.wp execOp
  simp only [ho, Instr.alloc, Sem.run_bind, hz, Result.andThen_ok, newVar, newRow, Value.cells]
  exact h
theorem wp_box {K : Act → World → Prop} {t : TypeId} {cs : Array Value} {p : Operand} (hp : a.eval p = .agg cs) (ho : o.op = .box t p)
    (h : K (a.put o.dst (.pointer (some ⟨w.heap.size, 0, none⟩))) (w.alloc (.cells cs t))) : o.wp Tryz.prog a w K Q := by
  unfold Oper.wp execOp
  simp only [ho, hp, Instr.box, Sem.run_bind, newVar, newRow, Value.cells]
  exact h
theorem al26 (hgd : o.guard = none) (ho : o.op = .alloc 26) (h : ∀ W g, Fresh w W g → Blk W g 26 (c8 zF) → wpList Tryz.prog ops Q rest (a.put o.dst (.pointer (some ⟨g, 0, none⟩))) W) : wpList Tryz.prog ops Q (o :: rest) a w :=
  wpList_plain hgd fun _ hK => wp_new zero26 ho (hK _ _ (h _ _ (fresh_of _ _ _) (Blk.new w 26 _)))
theorem al41 (hgd : o.guard = none) (ho : o.op = .alloc 41) (h : ∀ W g, Fresh w W g → Blk W g 41 (c24 zF zF zF) → wpList Tryz.prog ops Q rest (a.put o.dst (.pointer (some ⟨g, 0, none⟩))) W) : wpList Tryz.prog ops Q (o :: rest) a w :=
  wpList_plain hgd fun _ hK => wp_new zero41 ho (hK _ _ (h _ _ (fresh_of _ _ _) (Blk.new w 41 _)))
theorem al28 (hgd : o.guard = none) (ho : o.op = .alloc 28) (h : ∀ W g, Fresh w W g → Blk W g 28 (c17 zF zF false) → wpList Tryz.prog ops Q rest (a.put o.dst (.pointer (some ⟨g, 0, none⟩))) W) : wpList Tryz.prog ops Q (o :: rest) a w :=
  wpList_plain hgd fun _ hK => wp_new zero28 ho (hK _ _ (h _ _ (fresh_of _ _ _) (Blk.new w 28 _)))
theorem bx26 (hgd : o.guard = none) (p : Operand) (ho : o.op = .box 26 p) (x : Nat → Int) (hp : a.eval p = N8 x) (h : ∀ W g, Fresh w W g → Blk W g 26 (c8 x) → wpList Tryz.prog ops Q rest (a.put o.dst (.pointer (some ⟨g, 0, none⟩))) W) : wpList Tryz.prog ops Q (o :: rest) a w :=
  wpList_plain hgd fun _ hK => wp_box hp ho (hK _ _ (h _ _ (fresh_of _ _ _) (Blk.new w 26 _)))
theorem bx41 (hgd : o.guard = none) (p : Operand) (ho : o.op = .box 41 p) (x y z : Nat → Int) (hp : a.eval p = J x y z) (h : ∀ W g, Fresh w W g → Blk W g 41 (c24 x y z) → wpList Tryz.prog ops Q rest (a.put o.dst (.pointer (some ⟨g, 0, none⟩))) W) : wpList Tryz.prog ops Q (o :: rest) a w :=
  wpList_plain hgd fun _ hK => wp_box hp ho (hK _ _ (h _ _ (fresh_of _ _ _) (Blk.new w 41 _)))
theorem bx28 (hgd : o.guard = none) (p : Operand) (ho : o.op = .box 28 p) (x y : Nat → Int) (b : Bool) (hp : a.eval p = Pt x y b) (h : ∀ W g, Fresh w W g → Blk W g 28 (c17 x y b) → wpList Tryz.prog ops Q rest (a.put o.dst (.pointer (some ⟨g, 0, none⟩))) W) : wpList Tryz.prog ops Q (o :: rest) a w :=
  wpList_plain hgd fun _ hK => wp_box hp ho (hK _ _ (h _ _ (fresh_of _ _ _) (Blk.new w 28 _)))
theorem bld26one (hgd : o.guard = none) (p : Array (Nat × Operand)) (ho : o.op = .build 26 p) (hp : (p.map fun (i, q) => (i, a.eval q)).toList = [(0, .int .u32 1)])
    (h : wpList Tryz.prog ops Q rest (a.put o.dst (N8 oneF)) w) : wpList Tryz.prog ops Q (o :: rest) a w :=
  wpList_build hgd 26 p ho (by rw [hp, built26one]; rfl) (by rw [hp, built26one]; exact h)
theorem bld41z (hgd : o.guard = none) (p : Array (Nat × Operand)) (ho : o.op = .build 41 p) (hp : (p.map fun (i, q) => (i, a.eval q)).toList = [])
    (h : wpList Tryz.prog ops Q rest (a.put o.dst (J zF zF zF)) w) : wpList Tryz.prog ops Q (o :: rest) a w :=
  wpList_build hgd 41 p ho (by rw [hp, built41z]; rfl) (by rw [hp, built41z]; exact h)
theorem bld28t (hgd : o.guard = none) (p : Array (Nat × Operand)) (ho : o.op = .build 28 p) (hp : (p.map fun (i, q) => (i, a.eval q)).toList = [(2, .bool true)])
    (h : wpList Tryz.prog ops Q rest (a.put o.dst (Pt zF zF true)) w) : wpList Tryz.prog ops Q (o :: rest) a w :=
  wpList_build hgd 28 p ho (by rw [hp, built28t]; rfl) (by rw [hp, built28t]; exact h)
/-- Stores: what was put is forgotten but for its size. -/
theorem sto26 (hgd : o.guard = none) (p v : Operand) (ho : o.op = .store 26 p v) (g : Nat) (x : Nat → Int) (hx : a.eval p = .pointer (some ⟨g, 0, none⟩)) (hv : a.eval v = N8 x) (old : Array Value) (hc : Blk w g 26 old) (hs : old.size = 8) (hu : UU x)
    (h : ∀ W x', UU x' → Stored w W g → Blk W g 26 (c8 x') → wpList Tryz.prog ops Q rest (a.put o.dst undef) W) : wpList Tryz.prog ops Q (o :: rest) a w :=
  wpList_store_row hgd 26 p v ho g (c8 x) hx hv 26 old hc (size26.trans rfl) hs (c8_one x) (h _ x hu (stored_of _ _ _) (hc.setRow _))
theorem sto41 (hgd : o.guard = none) (p v : Operand) (ho : o.op = .store 41 p v) (g : Nat) (x y z : Nat → Int) (hx : a.eval p = .pointer (some ⟨g, 0, none⟩)) (hv : a.eval v = J x y z) (old : Array Value) (hc : Blk w g 41 old) (hs : old.size = 24) (hu : UU x) (hu1 : UU y) (hu2 : UU z)
    (h : ∀ W x' y' z', UU x' → UU y' → UU z' → Stored w W g → Blk W g 41 (c24 x' y' z') → wpList Tryz.prog ops Q rest (a.put o.dst undef) W) : wpList Tryz.prog ops Q (o :: rest) a w :=
  st41 hgd p v ho g x y z hx hv old hc hs (h _ x y z hu hu1 hu2 (stored_of _ _ _) (hc.setRow _))
theorem sto28 (hgd : o.guard = none) (p v : Operand) (ho : o.op = .store 28 p v) (g : Nat) (x y : Nat → Int) (b : Bool) (hx : a.eval p = .pointer (some ⟨g, 0, none⟩)) (hv : a.eval v = Pt x y b) (old : Array Value) (hc : Blk w g 28 old) (hs : old.size = 17) (hu : UU x) (hu1 : UU y)
    (h : ∀ W x' y' b', UU x' → UU y' → Stored w W g → Blk W g 28 (c17 x' y' b') → wpList Tryz.prog ops Q rest (a.put o.dst undef) W) : wpList Tryz.prog ops Q (o :: rest) a w :=
  st28 hgd p v ho g x y b hx hv old hc hs (h _ x y b hu hu1 (stored_of _ _ _) (hc.setRow _))
theorem ldg26 (hw : Region.wanted o (yielded ops a.tmps) = true) (x : Operand) (ho : o.op = .load 26 x) (g off : Nat) (f : Nat → Int) (hx : a.eval x = .pointer (some ⟨g, off, none⟩)) (hc : w.rangeAt g off (c8 f).toList)
    (h : wpList Tryz.prog ops Q rest (a.put o.dst (N8 f)) w) : wpList Tryz.prog ops Q (o :: rest) a w :=
  wpList_step fun _ hK => by
    rw [if_pos hw]
    exact wp_load_mid 26 x ho g off hx (c8 f).toList _ hc Tryz.underlying26 rfl size26 (hK _ _ h)
theorem ld4 (hgd : o.guard = none) (x : Operand) (ho : o.op = .load 4 x) (g off : Nat) (b : Bool) (cs : Array Value) (t : TypeId) (hx : a.eval x = .pointer (some ⟨g, off, none⟩)) (hc : Blk w g t cs) (hv : cs[off]? = some (.bool b))
    (h : wpList Tryz.prog ops Q rest (a.put o.dst (.bool b)) w) : wpList Tryz.prog ops Q (o :: rest) a w :=
  wpList_plain hgd fun K hK => by
    have h1 := hK _ _ h
    have h2 : w.cell? ⟨g, off, none⟩ = some (.bool b) := (hc.cell off).trans hv
    unfold Oper.wp execOp
    simp only [ho, hx]
    go_simp
    exact h1
end
section
variable {ops : Array Oper} {rest : List Oper} {o : Oper} {a : Act} {W : World} {Q : Act → Prop}
theorem q_ld26 (hgd : o.guard = none) (x : Operand) (ho : o.op = .load 26 x) (g off : Nat) (f : Nat → Int) (hx : a.eval x = .pointer (some ⟨g, off, none⟩)) (hc : ∀ y : Bel W, y.w.rangeAt g off (c8 f).toList)
    (h : wpQuiet Tryz.prog ops (fun w' => ∃ y : Bel W, w' = y.w) Q rest (a.put o.dst (N8 f))) : wpQuiet Tryz.prog ops (fun w' => ∃ y : Bel W, w' = y.w) Q (o :: rest) a := by
  refine wpQuiet_step fun K hK => ?_
  have hw : Region.wanted o (yielded ops a.tmps) = true := by unfold Region.wanted; rw [hgd]
  rw [if_pos hw]
  refine ⟨N8 f, fun w ⟨y, hy⟩ => ?_, hK _ h⟩
  subst hy
  unfold Oper.quietAt execOp
  simp only [ho, hx, Instr.loadAt, Instr.sureAddr, Sem.run_bind, Sem.run_pure, Result.andThen_ok, run_loadVar_mid y.w g off 26 (c8 f).toList _ (hc y) Tryz.underlying26 rfl size26]
  exact ⟨rfl, rfl⟩
end
theorem Blk.bel {W : World} {g : Nat} {t : TypeId} {cs : Array Value} (h : Blk W g t cs) (y : Bel W) : Blk y.w g t cs := h.down y.h



end Go.Proofs.YtiegapnfbeemcaaGreatDoor

namespace Go.Proofs.YtiegapnfbeemcaaGreatDoor
set_option maxRecDepth 100000
open Go.RowKit

/-- Kinds by numbers: (0, 0) a number, (1, 0) a point by three numbers, (2, 0) a plain point, (3, 0) a truth value, (t, off) with t above 3: where a variable of type t lies, off cells on. -/
abbrev Kd := Nat × Nat
def TT (w : World) (g t : Nat) : Prop :=
  (t = 26 ∧ ∃ f, UU f ∧ Blk w g 26 (c8 f)) ∨ (t = 41 ∧ ∃ x y z, UU x ∧ UU y ∧ UU z ∧ Blk w g 41 (c24 x y z)) ∨ (t = 28 ∧ ∃ x y b, UU x ∧ UU y ∧ Blk w g 28 (c17 x y b))
def VV (B : Nat) (k : Kd) (v : Value) (w : World) : Prop :=
  (k = (0, 0) ∧ ∃ f, UU f ∧ v = N8 f) ∨ (k = (1, 0) ∧ ∃ x y z, UU x ∧ UU y ∧ UU z ∧ v = J x y z) ∨ (k = (2, 0) ∧ ∃ x y b, UU x ∧ UU y ∧ v = Pt x y b) ∨ (k = (3, 0) ∧ ∃ b, v = .bool b) ∨
  (4 ≤ k.1 ∧ ∃ g, B ≤ g ∧ v = .pointer (some ⟨g, k.2, none⟩) ∧ TT w g k.1)

section
variable {B t off g : Nat} {v : Value} {w w' : World}
theorem VV.n (h : VV B (0, 0) v w) : ∃ f, UU f ∧ v = N8 f := by
  rcases h with ⟨_, h⟩ | ⟨h, _⟩ | ⟨h, _⟩ | ⟨h, _⟩ | ⟨h, _⟩
  · exact h
  all_goals simp at h
theorem VV.j (h : VV B (1, 0) v w) : ∃ x y z, UU x ∧ UU y ∧ UU z ∧ v = J x y z := by
  rcases h with ⟨h, _⟩ | ⟨_, h⟩ | ⟨h, _⟩ | ⟨h, _⟩ | ⟨h, _⟩
  case inr.inl => exact h
  all_goals simp at h
theorem VV.p (h : VV B (2, 0) v w) : ∃ x y b, UU x ∧ UU y ∧ v = Pt x y b := by
  rcases h with ⟨h, _⟩ | ⟨h, _⟩ | ⟨_, h⟩ | ⟨h, _⟩ | ⟨h, _⟩
  case inr.inr.inl => exact h
  all_goals simp at h
theorem VV.b (h : VV B (3, 0) v w) : ∃ b, v = .bool b := by
  rcases h with ⟨h, _⟩ | ⟨h, _⟩ | ⟨h, _⟩ | ⟨_, h⟩ | ⟨h, _⟩
  case inr.inr.inr.inl => exact h
  all_goals simp at h
theorem VV.at (ht : 4 ≤ t) (h : VV B (t, off) v w) : ∃ g, B ≤ g ∧ v = .pointer (some ⟨g, off, none⟩) ∧ TT w g t := by
  rcases h with ⟨h, _⟩ | ⟨h, _⟩ | ⟨h, _⟩ | ⟨h, _⟩ | ⟨_, h⟩
  case inr.inr.inr.inr => exact h
  all_goals (simp only [Prod.mk.injEq] at h; omega)
theorem VV.of_n {f : Nat → Int} (h : UU f) : VV B (0, 0) (N8 f) w := .inl ⟨rfl, f, h, rfl⟩
theorem VV.of_j {x y z : Nat → Int} (h : UU x) (h1 : UU y) (h2 : UU z) : VV B (1, 0) (J x y z) w := .inr (.inl ⟨rfl, x, y, z, h, h1, h2, rfl⟩)
theorem VV.of_p {x y : Nat → Int} {b : Bool} (h : UU x) (h1 : UU y) : VV B (2, 0) (Pt x y b) w := .inr (.inr (.inl ⟨rfl, x, y, b, h, h1, rfl⟩))
theorem VV.of_b {b : Bool} : VV B (3, 0) (.bool b) w := .inr (.inr (.inr (.inl ⟨rfl, b, rfl⟩)))
theorem VV.of_at (ht : 4 ≤ t) (hg : B ≤ g) (h : TT w g t) : VV B (t, off) (.pointer (some ⟨g, off, none⟩)) w := .inr (.inr (.inr (.inr ⟨ht, g, hg, rfl, h⟩)))
theorem TT.n (h : TT w g 26) : ∃ f, UU f ∧ Blk w g 26 (c8 f) := by
  rcases h with ⟨_, h⟩ | ⟨h, _⟩ | ⟨h, _⟩
  · exact h
  all_goals simp at h
theorem TT.j (h : TT w g 41) : ∃ x y z, UU x ∧ UU y ∧ UU z ∧ Blk w g 41 (c24 x y z) := by
  rcases h with ⟨h, _⟩ | ⟨_, h⟩ | ⟨h, _⟩
  case inr.inl => exact h
  all_goals simp at h
theorem TT.p (h : TT w g 28) : ∃ x y b, UU x ∧ UU y ∧ Blk w g 28 (c17 x y b) := by
  rcases h with ⟨h, _⟩ | ⟨h, _⟩ | ⟨_, h⟩
  case inr.inr => exact h
  all_goals simp at h
theorem TT.of_n {f : Nat → Int} (h : UU f) (hb : Blk w g 26 (c8 f)) : TT w g 26 := .inl ⟨rfl, f, h, hb⟩
theorem TT.of_j {x y z : Nat → Int} (h : UU x) (h1 : UU y) (h2 : UU z) (hb : Blk w g 41 (c24 x y z)) : TT w g 41 := .inr (.inl ⟨rfl, x, y, z, h, h1, h2, hb⟩)
theorem TT.of_p {x y : Nat → Int} {b : Bool} (h : UU x) (h1 : UU y) (hb : Blk w g 28 (c17 x y b)) : TT w g 28 := .inr (.inr ⟨rfl, x, y, b, h, h1, hb⟩)
/-- The step from world to world. -/
def RR (B : Nat) (w w' : World) : Prop := Below B w w' ∧ ∀ g t, B ≤ g → TT w g t → TT w' g t
theorem RR.refl (B : Nat) (w : World) : RR B w w := ⟨Below.refl _ _, fun _ _ _ h => h⟩
theorem RR.trans {w'' : World} (h : RR B w w') (k : RR B w' w'') : RR B w w'' := ⟨h.1.trans k.1, fun g t hg hh => k.2 g t hg (h.2 g t hg hh)⟩
theorem VV.mono {k : Kd} (h : VV B k v w) (hr : RR B w w') : VV B k v w' := by
  rcases h with h | h | h | h | ⟨ht, g, hg, hv, h⟩
  · exact .inl h
  · exact .inr (.inl h)
  · exact .inr (.inr (.inl h))
  · exact .inr (.inr (.inr (.inl h)))
  · exact .inr (.inr (.inr (.inr ⟨ht, g, hg, hv, hr.2 _ _ hg h⟩)))
theorem TT.map (h : TT w g t) (hm : ∀ t cs, Blk w g t cs → Blk w' g t cs) : TT w' g t := by
  rcases h with ⟨rfl, f, h, hb⟩ | ⟨rfl, x, y, z, h, h1, h2, hb⟩ | ⟨rfl, x, y, b, h, h1, hb⟩
  · exact .of_n h (hm _ _ hb)
  · exact .of_j h h1 h2 (hm _ _ hb)
  · exact .of_p h h1 (hm _ _ hb)
theorem TT.blk (h : TT w g t) : ∃ cs, Blk w g t cs := by
  rcases h with ⟨rfl, f, h, hb⟩ | ⟨rfl, x, y, z, h, h1, h2, hb⟩ | ⟨rfl, x, y, b, h, h1, hb⟩
  · exact ⟨_, hb⟩
  · exact ⟨_, hb⟩
  · exact ⟨_, hb⟩
theorem rr_alloc (hB : B ≤ w.heap.size) (o : Obj) : RR B w (w.alloc o) := ⟨(Below.refl B w).alloc hB o, fun _ _ _ h => h.map fun _ _ hb => hb.alloc o⟩
theorem rr_below (hB : B ≤ w.heap.size) (h : Below w.heap.size w w') : RR B w w' := ⟨h.mono hB, fun _ _ _ hh => hh.map fun _ _ hb => hb.down h⟩
theorem rr_draw (B : Nat) (w : World) : RR B w { w with drawn := w.drawn + 1 } := ⟨⟨rfl, rfl, rfl, Nat.le_refl _, fun _ _ => rfl⟩, fun _ _ _ hh => hh.map fun _ _ hb => hb⟩
theorem rr_store (hg : B ≤ g) {old cs : Array Value} (hb : Blk w g t old) (hn : TT (w.setRow g cs) g t) : RR B w (w.setRow g cs) :=
  ⟨setRow_below w g cs hg, fun g' t' _ hh => by
    by_cases he : g' = g
    · subst he
      obtain ⟨cs', hb'⟩ := hh.blk
      have : t' = t := by
        unfold Blk at hb hb'
        rw [hb] at hb'
        injection hb' with h1
        injection h1 with h2 h3
        exact h3.symm
      subst this
      exact hn
    · exact hh.map fun _ _ hb => hb.setRow_far he cs⟩
end

def isOne : Value → Bool
  | .int .u32 n => n == 1
  | _ => false
def isYes : Value → Bool
  | .bool b => b
  | _ => false
/-- What a function takes and gives. -/
abbrev Tab := List (Nat × List Kd × Kd)
def lookK (E : List (Nat × Kd)) (t : Nat) : Option Kd := E.lookup t
def opdK (E : Nat → Option Kd) : Operand → Option Kd
  | .tmp t => E t
  | _ => none
def buildK (E : Nat → Option Kd) (t : Nat) : List (Nat × Operand) → Option Kd
  | [] => if t = 41 then some (1, 0) else none
  | [(i, .const v)] => if t = 26 ∧ i = 0 ∧ isOne v = true then some (0, 0) else if t = 28 ∧ i = 2 ∧ isYes v = true then some (2, 0) else none
  | [(i, p), (j, q)] => if t = 28 ∧ i = 0 ∧ j = 1 ∧ opdK E p = some (0, 0) ∧ opdK E q = some (0, 0) then some (2, 0) else none
  | [(i, p), (j, q), (k, r)] => if t = 41 ∧ i = 0 ∧ j = 1 ∧ k = 2 ∧ opdK E p = some (0, 0) ∧ opdK E q = some (0, 0) ∧ opdK E r = some (0, 0) then some (1, 0) else none
  | _ => none
def boxK (t : Nat) (k : Option Kd) : Option Kd :=
  if t = 26 ∧ k = some (0, 0) ∨ t = 41 ∧ k = some (1, 0) ∨ t = 28 ∧ k = some (2, 0) then some (t, 0) else none
def loadK (t : Nat) (k : Option Kd) : Option Kd :=
  if t = 26 ∧ (k = some (26, 0) ∨ k = some (41, 0) ∨ k = some (41, 8) ∨ k = some (41, 16) ∨ k = some (28, 0) ∨ k = some (28, 8)) then some (0, 0)
  else if t = 41 ∧ k = some (41, 0) then some (1, 0) else if t = 4 ∧ k = some (28, 16) then some (3, 0) else none
def storeB (t : Nat) (k k' : Option Kd) : Bool :=
  decide (t = 26 ∧ k = some (26, 0) ∧ k' = some (0, 0) ∨ t = 41 ∧ k = some (41, 0) ∧ k' = some (1, 0) ∨ t = 28 ∧ k = some (28, 0) ∧ k' = some (2, 0))
def fieldK (t : Nat) (k : Option Kd) (i : Nat) : Option Kd :=
  if (t = 41 ∧ k = some (41, 0) ∨ t = 28 ∧ k = some (28, 0)) ∧ i < 3 then some (t, 8 * i) else none
def callK (tab : Tab) (E : Nat → Option Kd) (f : Nat) (l : List Operand) : Option Kd :=
  (tab.find? fun x => x.1 == f && x.2.1.map some == l.map (opdK E)).map (·.2.2)
/-- The kind of what an operation gives ('some none': it gives nothing). -/
def opK (tab : Tab) (E : Nat → Option Kd) : Op → Option (Option Kd)
  | .box t p => (boxK t (opdK E p)).map some
  | .alloc t => if t = 26 ∨ t = 41 ∨ t = 28 then some (some (t, 0)) else none
  | .fieldAddr t p i => (fieldK t (opdK E p) i).map some
  | .load t p => (loadK t (opdK E p)).map some
  | .store t p q => if storeB t (opdK E p) (opdK E q) then some none else none
  | .build t ps => (buildK E t ps.toList).map some
  | .call c => match c.callee with
    | .value (.func f) => (callK tab E f c.args.toList).map some
    | _ => none
  | _ => none
end Go.Proofs.YtiegapnfbeemcaaGreatDoor

namespace Go.Proofs.YtiegapnfbeemcaaGreatDoor
set_option maxRecDepth 100000
open Go.RowKit

def Args (B : Nat) (w : World) : List Kd → List Value → Prop
  | [], [] => True
  | k :: ks, v :: vs => VV B k v w ∧ Args B w ks vs
  | _, _ => False
/-- What a function of the table does. -/
def FnOk (x : Nat × List Kd × Kd) : Prop :=
  (∀ args w, (callFunc x.1 args).run Tryz.prog w = .ok (.enter x.1 args) w) ∧
  ∀ (B : Nat) (args : List Value) (w : World), B ≤ w.heap.size → Args B w x.2.1 args → Calls Tryz.prog x.1 args.toArray w fun e w' => ∃ v, e = .returned v ∧ VV B x.2.2 v w' ∧ Below w.heap.size w w'

theorem args_of {B : Nat} {w : World} {E : Nat → Option Kd} {a : Act} (hO : ∀ p k, opdK E p = some k → VV B k (a.eval p) w) : ∀ (ks : List Kd) (l : List Operand), ks.map some = l.map (opdK E) → Args B w ks (l.map a.eval)
  | [], [], _ => trivial
  | k :: ks, p :: l, h => by
    simp only [List.map_cons, List.cons.injEq] at h
    exact ⟨hO p k h.1.symm, args_of hO ks l h.2⟩
  | [], _ :: _, h => by simp at h
  | _ :: _, [], h => by simp at h

theorem isOne_eq {v : Value} (h : isOne v = true) : v = .int .u32 1 := by
  unfold isOne at h
  split at h
  · rw [eq_of_beq h]
  · cases h
theorem isYes_eq {v : Value} (h : isYes v = true) : v = .bool true := by
  unfold isYes at h
  split at h
  · rw [h]
  · cases h

theorem wp_ld4 {o : Oper} {a : Act} {w : World} {K : Act → World → Prop} {Q : Exit → Act → World → Prop} (x : Operand) (ho : o.op = .load 4 x) (g off : Nat) (b : Bool) (hx : a.eval x = .pointer (some ⟨g, off, none⟩)) (hc : w.cell? ⟨g, off, none⟩ = some (.bool b))
    (h : K (a.put o.dst (.bool b)) w) : o.wp Tryz.prog a w K Q := by
  unfold Oper.wp execOp
  simp only [ho, hx]
  go_simp
  exact h
theorem wp_fa {o : Oper} {a : Act} {w : World} {K : Act → World → Prop} {Q : Exit → Act → World → Prop} (t i : Nat) (x : Operand) (ho : o.op = .fieldAddr t x i) (g : Nat) (hx : a.eval x = .pointer (some ⟨g, 0, none⟩)) (ht : t = 41 ∨ t = 28) (hi : i < 3)
    (h : K (a.put o.dst (.pointer (some ⟨g, 8 * i, none⟩))) w) : o.wp Tryz.prog a w K Q := by
  have hc : i = 0 ∨ i = 1 ∨ i = 2 := by omega
  rcases ht with rfl | rfl <;> rcases hc with rfl | rfl | rfl <;> (unfold Oper.wp execOp; simp only [ho, hx]; go_simp; exact h)

theorem op_sound {B : Nat} {tab : Tab} (hT : ∀ x ∈ tab, FnOk x) {E : Nat → Option Kd} {r : Option Kd} {o : Oper} (h : opK tab E o.op = some r) {a : Act} {w : World}
    (hE : ∀ t k, E t = some k → VV B k (a.tmps.getD t undef) w) (hB : B ≤ w.heap.size) {K : Act → World → Prop} {Q : Exit → Act → World → Prop}
    (hK : ∀ v w', (∀ k, r = some k → VV B k v w') → RR B w w' → K (a.put o.dst v) w') : o.wp Tryz.prog a w K Q := by
  have hO : ∀ p k, opdK E p = some k → VV B k (a.eval p) w := fun p k hp => by
    cases p <;> simp only [opdK] at hp
    case tmp t => exact hE t k hp
    all_goals cases hp
  have hK1 : ∀ k, r = some k → ∀ v w', VV B k v w' → RR B w w' → K (a.put o.dst v) w' := fun k hr v w' hv => hK v w' (fun k' hk' => by rw [hr] at hk'; injection hk' with e; exact e ▸ hv)
  cases ho : o.op <;> rw [ho] at h <;> simp only [opK] at h
  case box t p =>
    obtain ⟨k, hk, rfl⟩ := Option.map_eq_some_iff.1 h
    unfold boxK at hk
    split at hk
    case isFalse => cases hk
    rename_i hc
    injection hk with hk
    subst hk
    rcases hc with ⟨rfl, hp⟩ | ⟨rfl, hp⟩ | ⟨rfl, hp⟩
    · obtain ⟨f, hf, he⟩ := (hO _ _ hp).n
      exact wp_box he ho (hK1 _ rfl _ _ (.of_at (by decide) hB (.of_n hf (Blk.new w 26 _))) (rr_alloc hB _))
    · obtain ⟨x, y, z, h1, h2, h3, he⟩ := (hO _ _ hp).j
      exact wp_box he ho (hK1 _ rfl _ _ (.of_at (by decide) hB (.of_j h1 h2 h3 (Blk.new w 41 _))) (rr_alloc hB _))
    · obtain ⟨x, y, b, h1, h2, he⟩ := (hO _ _ hp).p
      exact wp_box he ho (hK1 _ rfl _ _ (.of_at (by decide) hB (.of_p h1 h2 (Blk.new w 28 _))) (rr_alloc hB _))
  case alloc t =>
    split at h
    case isFalse => cases h
    rename_i hc
    injection h with h
    subst h
    rcases hc with rfl | rfl | rfl
    · exact wp_new zero26 ho (hK1 _ rfl _ _ (.of_at (by decide) hB (.of_n zF_uu (Blk.new w 26 _))) (rr_alloc hB _))
    · exact wp_new zero41 ho (hK1 _ rfl _ _ (.of_at (by decide) hB (.of_j zF_uu zF_uu zF_uu (Blk.new w 41 _))) (rr_alloc hB _))
    · exact wp_new zero28 ho (hK1 _ rfl _ _ (.of_at (by decide) hB (.of_p zF_uu zF_uu (Blk.new w 28 _))) (rr_alloc hB _))
  case fieldAddr t p i =>
    obtain ⟨k, hk, rfl⟩ := Option.map_eq_some_iff.1 h
    unfold fieldK at hk
    split at hk
    case isFalse => cases hk
    rename_i hc
    injection hk with hk
    subst hk
    obtain ⟨hc, hi⟩ := hc
    have h5 : t = 41 ∨ t = 28 := hc.elim (fun h => .inl h.1) (fun h => .inr h.1)
    have h4 : (4 : Nat) ≤ t := by rcases h5 with rfl | rfl <;> decide
    have hp : opdK E p = some (t, 0) := by
      rcases hc with ⟨rfl, hp⟩ | ⟨rfl, hp⟩
      · exact hp
      · exact hp
    obtain ⟨g, hg, he, ht⟩ := (hO _ _ hp).at h4
    exact wp_fa t i p ho g he h5 hi (hK1 _ rfl _ _ (.of_at h4 hg ht) (.refl _ _))
  case load t p =>
    obtain ⟨k, hk, rfl⟩ := Option.map_eq_some_iff.1 h
    unfold loadK at hk
    split at hk
    case isTrue hc =>
      injection hk with hk
      subst hk
      obtain ⟨rfl, hc⟩ := hc
      rcases hc with hp | hp | hp | hp | hp | hp
      all_goals obtain ⟨g, hg, he, ht⟩ := (hO _ _ hp).at (by decide)
      · obtain ⟨f, hf, hb⟩ := ht.n
        exact wp_load_mid 26 p ho g 0 he (c8 f).toList _ (range26 hb) Tryz.underlying26 rfl size26 (hK1 _ rfl _ _ (.of_n hf) (.refl _ _))
      · obtain ⟨x, y, z, h1, h2, h3, hb⟩ := ht.j
        exact wp_load_mid 26 p ho g 0 he (c8 x).toList _ (range41x hb) Tryz.underlying26 rfl size26 (hK1 _ rfl _ _ (.of_n h1) (.refl _ _))
      · obtain ⟨x, y, z, h1, h2, h3, hb⟩ := ht.j
        exact wp_load_mid 26 p ho g 8 he (c8 y).toList _ (range41y hb) Tryz.underlying26 rfl size26 (hK1 _ rfl _ _ (.of_n h2) (.refl _ _))
      · obtain ⟨x, y, z, h1, h2, h3, hb⟩ := ht.j
        exact wp_load_mid 26 p ho g 16 he (c8 z).toList _ (range41z hb) Tryz.underlying26 rfl size26 (hK1 _ rfl _ _ (.of_n h3) (.refl _ _))
      · obtain ⟨x, y, b, h1, h2, hb⟩ := ht.p
        exact wp_load_mid 26 p ho g 0 he (c8 x).toList _ (range28x hb) Tryz.underlying26 rfl size26 (hK1 _ rfl _ _ (.of_n h1) (.refl _ _))
      · obtain ⟨x, y, b, h1, h2, hb⟩ := ht.p
        exact wp_load_mid 26 p ho g 8 he (c8 y).toList _ (range28y hb) Tryz.underlying26 rfl size26 (hK1 _ rfl _ _ (.of_n h2) (.refl _ _))
    case isFalse =>
      split at hk
      case isTrue hc =>
        injection hk with hk
        subst hk
        obtain ⟨rfl, hp⟩ := hc
        obtain ⟨g, hg, he, ht⟩ := (hO _ _ hp).at (by decide)
        obtain ⟨x, y, z, h1, h2, h3, hb⟩ := ht.j
        exact wp_load_row 41 p ho g he 41 _ (0, 0) _ hb Tryz.underlying41 rfl (size41.trans rfl) (hK1 _ rfl _ _ (.of_j h1 h2 h3) (.refl _ _))
      case isFalse =>
        split at hk
        case isFalse => cases hk
        case isTrue hc =>
          injection hk with hk
          subst hk
          obtain ⟨rfl, hp⟩ := hc
          obtain ⟨g, hg, he, ht⟩ := (hO _ _ hp).at (by decide)
          obtain ⟨x, y, b, h1, h2, hb⟩ := ht.p
          exact wp_ld4 p ho g 16 b he (flag28 hb) (hK1 _ rfl _ _ .of_b (.refl _ _))
  case store t p q =>
    split at h
    case isFalse => cases h
    rename_i hc
    injection h with h
    subst h
    have hc := of_decide_eq_true hc
    rcases hc with ⟨rfl, hp, hq⟩ | ⟨rfl, hp, hq⟩ | ⟨rfl, hp, hq⟩
    all_goals obtain ⟨g, hg, he, ht⟩ := (hO _ _ hp).at (by decide)
    · obtain ⟨f0, _, hb⟩ := ht.n
      obtain ⟨f, hf, hv⟩ := (hO _ _ hq).n
      exact wp_store_row 26 p q ho g (c8 f) he hv 26 _ hb (size26.trans rfl) rfl (c8_one f) (hK _ _ (fun k hk => by cases hk) (rr_store hg hb (.of_n hf (hb.setRow _))))
    · obtain ⟨x0, y0, z0, _, _, _, hb⟩ := ht.j
      obtain ⟨x, y, z, h1, h2, h3, hv⟩ := (hO _ _ hq).j
      exact wp_store_row 41 p q ho g (c24 x y z) he hv 41 _ hb (size41.trans rfl) rfl (c24_one x y z) (hK _ _ (fun k hk => by cases hk) (rr_store hg hb (.of_j h1 h2 h3 (hb.setRow _))))
    · obtain ⟨x0, y0, b0, _, _, hb⟩ := ht.p
      obtain ⟨x, y, b, h1, h2, hv⟩ := (hO _ _ hq).p
      exact wp_store_row 28 p q ho g (c17 x y b) he hv 28 _ hb (size28.trans rfl) rfl (c17_one x y b) (hK _ _ (fun k hk => by cases hk) (rr_store hg hb (.of_p h1 h2 (hb.setRow _))))
  case build t ps =>
    obtain ⟨k, hk, rfl⟩ := Option.map_eq_some_iff.1 h
    have hm : (ps.map fun (i, q) => (i, a.eval q)).toList = ps.toList.map (fun (i, q) => (i, a.eval q)) := Array.toList_map ..
    have key : ∃ cs, Tryz.prog.built t (ps.toList.map (fun (i, q) => (i, a.eval q))) = some cs ∧ VV B k (.agg cs) w := by
      revert hk
      generalize ps.toList = l
      intro hk
      unfold buildK at hk
      split at hk
      · split at hk
        case isFalse => cases hk
        rename_i hc
        injection hk with hk
        subst hk; subst hc
        exact ⟨_, built41z, .of_j zF_uu zF_uu zF_uu⟩
      · split at hk
        case isTrue hc =>
          injection hk with hk
          subst hk
          obtain ⟨rfl, rfl, hv⟩ := hc
          rw [isOne_eq hv]
          exact ⟨_, built26one, .of_n oneF_uu⟩
        case isFalse =>
          split at hk
          case isFalse => cases hk
          rename_i hc
          injection hk with hk
          subst hk
          obtain ⟨rfl, rfl, hv⟩ := hc
          rw [isYes_eq hv]
          exact ⟨_, built28t, .of_p zF_uu zF_uu⟩
      · split at hk
        case isFalse => cases hk
        rename_i hc
        injection hk with hk
        subst hk
        obtain ⟨rfl, rfl, rfl, hp, hq⟩ := hc
        obtain ⟨x, h1, e1⟩ := (hO _ _ hp).n
        obtain ⟨y, h2, e2⟩ := (hO _ _ hq).n
        refine ⟨c17 x y false, ?_, .of_p h1 h2⟩
        simp only [List.map_cons, List.map_nil, e1, e2]
        exact built28 x y
      · split at hk
        case isFalse => cases hk
        rename_i hc
        injection hk with hk
        subst hk
        obtain ⟨rfl, rfl, rfl, rfl, hp, hq, hr⟩ := hc
        obtain ⟨x, h1, e1⟩ := (hO _ _ hp).n
        obtain ⟨y, h2, e2⟩ := (hO _ _ hq).n
        obtain ⟨z, h3, e3⟩ := (hO _ _ hr).n
        refine ⟨c24 x y z, ?_, .of_j h1 h2 h3⟩
        simp only [List.map_cons, List.map_nil, e1, e2, e3]
        exact built41 x y z
      · cases hk
    obtain ⟨cs, hcs, hv⟩ := key
    exact wp_build t ps ho (by rw [hm, hcs]; rfl) (by rw [hm, hcs]; exact hK1 _ rfl _ _ hv (.refl _ _))
  case call c =>
    split at h
    case h_2 => cases h
    rename_i f hc
    obtain ⟨k, hk, rfl⟩ := Option.map_eq_some_iff.1 h
    unfold callK at hk
    obtain ⟨x, hx, rfl⟩ := Option.map_eq_some_iff.1 hk
    have hmem := List.mem_of_find?_eq_some hx
    have hpred := List.find?_some hx
    simp only [Bool.and_eq_true, beq_iff_eq] at hpred
    obtain ⟨hf, hks⟩ := hpred
    obtain ⟨hrun, hcon⟩ := hT x hmem
    subst hf
    have hA := args_of (a := a) hO _ _ hks
    have := hcon B _ w hB hA
    unfold Oper.wp execOp
    simp only [ho, resolve, hc, Act.eval, Deferred.ofValue, Sem.run_bind, Sem.run_pure, Result.andThen_ok, invoke]
    rw [hrun]
    have he : (#[] ++ Array.map a.eval c.args ++ #[] : Array Value) = (List.map a.eval c.args.toList).toArray := by
      rw [Array.append_empty, Array.empty_append, ← Array.toList_map]
    rw [he]
    refine this.mono fun e w' hh => ?_
    obtain ⟨v, rfl, hv, hb⟩ := hh
    exact hK1 _ rfl _ _ hv (rr_below hB hb)
  all_goals cases h
end Go.Proofs.YtiegapnfbeemcaaGreatDoor

namespace Go.Proofs.YtiegapnfbeemcaaGreatDoor
set_option maxRecDepth 100000
open Go.RowKit

abbrev Ks := List (Option (Nat × Kd))
def depsOf (acc : Ks) (o : Oper) : List (Nat × Kd) := o.after.toList.filterMap fun e => if Region.binds .any e = true then acc.getD e.on none else none
def newK (d : Nat) (acc : Ks) : Bool := acc.all fun x => match x with
  | some (d', _) => d' != d
  | none => true
def stepK (tab : Tab) (N : Nat) (E : List (Nat × Kd)) (acc : Ks) (o : Oper) : Option (Option (Nat × Kd)) :=
  if o.guard.isNone && o.after.toList.all (fun e => !Region.binds .any e || decide (e.on < acc.length)) then
    match opK tab (fun t => (depsOf acc o ++ E).lookup t) o.op, o.dst with
    | some (some k), some d => if d < N ∧ E.lookup d = none ∧ newK d acc = true then some (some (d, k)) else none
    | some none, none => some none
    | _, _ => none
  else none
def regK (tab : Tab) (N : Nat) (E : List (Nat × Kd)) : List Oper → Ks → Option Ks
  | [], acc => some acc
  | o :: rest, acc => match stepK tab N E acc o with
    | some x => regK tab N E rest (acc ++ [x])
    | none => none

theorem lookup_mem {t : Nat} {k : Kd} : ∀ {l : List (Nat × Kd)}, l.lookup t = some k → (t, k) ∈ l
  | [], h => by cases h
  | (s, k') :: l, h => by
    unfold List.lookup at h
    split at h
    · rename_i hb
      have := eq_of_beq hb
      injection h with h
      subst h; subst this
      exact List.mem_cons_self
    · exact List.mem_cons_of_mem _ (lookup_mem h)

structure OpSpec (tab : Tab) (N : Nat) (E : List (Nat × Kd)) (ks : Ks) (i : Nat) (o : Oper) : Prop where
  guard : o.guard = none
  low : ∀ e ∈ o.after, Region.binds .any e = true → e.on < i
  out : ∃ r, opK tab (fun t => (depsOf (ks.take i) o ++ E).lookup t) o.op = some r ∧
    ((∃ k d, r = some k ∧ o.dst = some d ∧ ks[i]? = some (some (d, k)) ∧ d < N ∧ E.lookup d = none ∧ newK d (ks.take i) = true) ∨ (r = none ∧ o.dst = none ∧ ks[i]? = some none))

theorem newK_ne {d : Nat} {acc : Ks} (h : newK d acc = true) {j d' : Nat} {k : Kd} (hj : acc[j]? = some (some (d', k))) : d' ≠ d := by
  have := List.all_eq_true.1 h _ (List.mem_of_getElem? hj)
  simpa using this

theorem regK_spec {tab : Tab} {N : Nat} {E : List (Nat × Kd)} {ks : Ks} : ∀ (l : List Oper) (acc : Ks), regK tab N E l acc = some ks →
    ks.length = acc.length + l.length ∧ ks.take acc.length = acc ∧ ∀ j o, l[j]? = some o → OpSpec tab N E ks (acc.length + j) o
  | [], acc, h => by
    injection h with h
    subst h
    exact ⟨by simp, by simp, fun j o ho => by simp at ho⟩
  | o :: l, acc, h => by
    unfold regK at h
    split at h
    case h_2 => cases h
    rename_i x hx
    obtain ⟨h1, h2, h3⟩ := regK_spec l (acc ++ [x]) h
    simp only [List.length_append, List.length_cons, List.length_nil, Nat.zero_add] at h1 h2 h3
    have hpre : ks.take acc.length = acc := by
      have := congrArg (List.take acc.length) h2
      rw [List.take_take, Nat.min_eq_left (by omega)] at this
      rw [this]; simp
    have hat : ks[acc.length]? = some x := by
      have : (ks.take (acc.length + 1))[acc.length]? = some x := by rw [h2]; simp
      rwa [List.getElem?_take_of_lt (by omega)] at this
    refine ⟨by rw [h1, List.length_cons]; omega, hpre, fun j o' ho' => ?_⟩
    cases j with
    | succ j =>
      have := h3 j o' (by simpa using ho')
      rwa [show acc.length + 1 + j = acc.length + (j + 1) by omega] at this
    | zero =>
      have : o = o' := by simpa using ho'
      subst this
      unfold stepK at hx
      split at hx
      case isFalse => cases hx
      rename_i hc
      rw [Bool.and_eq_true] at hc
      refine ⟨Option.isNone_iff_eq_none.1 hc.1, fun e he hb => ?_, ?_⟩
      · have := List.all_eq_true.1 hc.2 e (Array.mem_toList_iff.2 he)
        simp only [hb, Bool.not_true, Bool.false_or, decide_eq_true_eq] at this
        exact this
      · rw [Nat.add_zero, hpre, hat]
        split at hx
        · rename_i k d hk hd
          split at hx
          case isFalse => cases hx
          rename_i hcc
          injection hx with hx
          exact ⟨_, hk, .inl ⟨k, d, rfl, hd, by rw [← hx], hcc.1, hcc.2.1, hcc.2.2⟩⟩
        · rename_i hk hd
          injection hx with hx
          exact ⟨_, hk, .inr ⟨rfl, hd, by rw [← hx]⟩⟩
        · cases hx

/-- What holds in the midst: of the operations in L what they gave is of its kind. -/
structure IV (B N : Nat) (df : List Deferred) (w0 : World) (E : List (Nat × Kd)) (ks : Ks) (L : Nat → Prop) (a : Act) (w : World) : Prop where
  size : a.tmps.size = N
  defers : a.defers = df
  big : B ≤ w.heap.size
  step : RR B w0 w
  old : ∀ t k, E.lookup t = some k → VV B k (a.tmps.getD t undef) w
  new : ∀ i d k, L i → ks[i]? = some (some (d, k)) → VV B k (a.tmps.getD d undef) w

theorem IV.mono {B N : Nat} {df : List Deferred} {w0 : World} {E : List (Nat × Kd)} {ks : Ks} {L L' : Nat → Prop} {a : Act} {w : World} (h : IV B N df w0 E ks L a w) (hl : ∀ i, L' i → L i) : IV B N df w0 E ks L' a w :=
  ⟨h.size, h.defers, h.big, h.step, h.old, fun i d k hi hk => h.new i d k (hl i hi) hk⟩

section
variable {B N : Nat} {df : List Deferred} {w0 : World} {E : List (Nat × Kd)} {ks : Ks} {tab : Tab} {l : List Oper}
theorem step_sound (hT : ∀ x ∈ tab, FnOk x) {i : Nat} {o : Oper} (hs : OpSpec tab N E ks i o)
    {L : Nat → Prop} (hd : ∀ e ∈ o.after, Region.binds .any e = true → L e.on) {a : Act} {w : World} (hI : IV B N df w0 E ks L a w)
    (hother : ∀ j, j < ks.length → ∃ o', OpSpec tab N E ks j o')
    {K : Act → World → Prop} {Q : Exit → Act → World → Prop} (hK : ∀ a' w', IV B N df w0 E ks (fun j => L j ∨ j = i) a' w' → K a' w') : o.wp Tryz.prog a w K Q := by
  obtain ⟨r, hr, hout⟩ := hs.out
  refine op_sound (B := B) hT hr (fun t k ht => ?_) hI.big (fun v w' hv hR => hK _ _ ?_)
  · rw [List.lookup_append] at ht
    cases hl : (depsOf (ks.take i) o).lookup t with
    | none => rw [hl] at ht; exact hI.old t k (by simpa using ht)
    | some k' =>
      rw [hl] at ht
      have hkk : k' = k := by simpa using ht
      subst hkk
      have hm := lookup_mem hl
      unfold depsOf at hm
      obtain ⟨e, he, hee⟩ := List.mem_filterMap.1 hm
      split at hee
      case isFalse => cases hee
      rename_i hb
      have hlt := hs.low e (Array.mem_toList_iff.1 he) hb
      have h2 : ks[e.on]? = some (some (t, k')) := by
        rw [List.getD_eq_getElem?_getD, List.getElem?_take_of_lt hlt] at hee
        cases hq : ks[e.on]? with
        | none => rw [hq] at hee; cases hee
        | some y => rw [hq] at hee; simp only [Option.getD_some] at hee; rw [hee]
      exact hI.new e.on t k' (hd e (Array.mem_toList_iff.1 he) hb) h2
  · have hbig : B ≤ w'.heap.size := Nat.le_trans hI.big hR.1.size
    rcases hout with ⟨k, d, rfl, hdst, hki, hdN, hdE, hdn⟩ | ⟨rfl, hdst, hki⟩
    · have hput : ∀ t, (a.put o.dst v).tmps.getD t undef = if t = d then v else a.tmps.getD t undef := fun t => by
        rw [hdst]
        show (a.tmps.setIfInBounds d v).getD t undef = _
        rw [Array.getD_eq_getD_getElem?, Array.getD_eq_getD_getElem?, Array.getElem?_setIfInBounds]
        by_cases htd : d = t
        · subst htd
          rw [if_pos rfl, if_pos rfl, if_pos (by rw [hI.size]; exact hdN)]; rfl
        · rw [if_neg htd, if_neg (fun h => htd h.symm)]
      refine ⟨?_, ?_, hbig, hI.step.trans hR, fun t k' ht => ?_, fun j d' k' hj hk' => ?_⟩
      · rw [hdst]; show (a.tmps.setIfInBounds d v).size = N; rw [Array.size_setIfInBounds]; exact hI.size
      · rw [hdst]; exact hI.defers
      · rw [hput, if_neg (fun h => by rw [h, hdE] at ht; cases ht)]
        exact (hI.old t k' ht).mono hR
      · rw [hput]
        by_cases hji : j = i
        · subst hji
          rw [hki] at hk'
          injection hk' with hk'
          injection hk' with hk'
          injection hk' with e1 e2
          subst e1; subst e2
          rw [if_pos rfl]
          exact hv _ rfl
        · have hne : d' ≠ d := by
            rcases Nat.lt_or_ge j i with h | h
            · exact newK_ne hdn (by rw [List.getElem?_take_of_lt h]; exact hk')
            · have hjl : j < ks.length := (List.getElem?_eq_some_iff.1 hk').1
              obtain ⟨o', ho'⟩ := hother j hjl
              obtain ⟨r', _, hc⟩ := ho'.out
              rcases hc with ⟨k2, d2, _, _, hk2, _, _, hn2⟩ | ⟨_, _, hk2⟩
              · rw [hk2] at hk'
                injection hk' with hk'
                injection hk' with hk'
                injection hk' with e1 e2
                subst e1
                exact fun e => newK_ne hn2 (j := i) (by rw [List.getElem?_take_of_lt (by omega)]; exact hki) e.symm
              · rw [hk2] at hk'; cases hk'
          rw [if_neg hne]
          rcases hj with hj | hj
          · exact (hI.new j d' k' hj hk').mono hR
          · exact absurd hj hji
    · have hput : a.put o.dst v = a := by rw [hdst]; rfl
      rw [hput]
      refine ⟨hI.size, hI.defers, hbig, hI.step.trans hR, fun t k' ht => (hI.old t k' ht).mono hR, fun j d' k' hj hk' => ?_⟩
      rcases hj with hj | hj
      · exact (hI.new j d' k' hj hk').mono hR
      · subst hj; rw [hki] at hk'; cases hk'

theorem wanted_none {o : Oper} (h : o.guard = none) (y : Nat → Option Bool) : Region.wanted o y = true := by
  unfold Region.wanted; rw [h]

theorem IV.full {L : Nat → Prop} {a : Act} {w : World} (h : IV B N df w0 E ks L a w) (hl : ∀ i, i < ks.length → L i) : IV B N df w0 E ks (fun _ => True) a w :=
  ⟨h.size, h.defers, h.big, h.step, h.old, fun i d k _ hk => h.new i d k (hl i (List.getElem?_eq_some_iff.1 hk).1) hk⟩

theorem seq_sound (hT : ∀ x ∈ tab, FnOk x) {l : List Oper} (hks : regK tab N E l [] = some ks) {ops : Array Oper} {Q : Exit → Act → World → Prop}
    (hQ : ∀ a w, IV B N df w0 E ks (fun _ => True) a w → Q .normal a w) : ∀ (r : List Oper) (j : Nat), l.drop j = r → ∀ a w, IV B N df w0 E ks (fun i => i < j) a w → wpList Tryz.prog ops Q r a w
  | [], j, hj, a, w, h => by
    have hlen := (regK_spec l [] hks).1
    have : l.length ≤ j := List.drop_eq_nil_iff.1 hj
    exact hQ a w (h.full fun i hi => by simp at hlen; omega)
  | o :: r, j, hj, a, w, h => by
    obtain ⟨hlen, _, hsp⟩ := regK_spec l [] hks
    have ho : l[j]? = some o := by
      have : (l.drop j)[0]? = some o := by rw [hj]; rfl
      rwa [List.getElem?_drop, Nat.add_zero] at this
    have hs := hsp j o ho
    simp only [List.length_nil, Nat.zero_add] at hs hlen
    have hr : l.drop (j + 1) = r := by
      rw [← List.drop_drop, hj]; rfl
    refine wpList_plain hs.guard fun K hK => step_sound hT hs hs.low h (fun i hi => ?_) (fun a' w' h' => hK _ _ (seq_sound hT hks hQ r (j + 1) hr a' w' (h'.mono fun i hi => by omega)))
    have hil : i < l.length := by omega
    have := hsp i l[i] (List.getElem?_eq_getElem hil)
    simp only [List.length_nil, Nat.zero_add] at this
    exact ⟨_, this⟩

theorem getD_lt {x : Array Bool} {i : Nat} (h : x.getD i true = false) : i < x.size := by
  rcases Nat.lt_or_ge i x.size with h1 | h1
  · exact h1
  · rw [Array.getD_eq_getD_getElem?, Array.getElem?_eq_none h1] at h; cases h
theorem getD_two {x : Array Bool} {i : Nat} (h : i < x.size) (d d' : Bool) : x.getD i d = x.getD i d' := by
  rw [Array.getD_eq_getD_getElem?, Array.getD_eq_getD_getElem?, Array.getElem?_eq_getElem h]; rfl

theorem all_listed (hks : ∃ ks, regK tab N E l [] = some ks) {listed : Array Bool} (hsz : listed.size = l.length) (hr : Region.ready .any l.toArray listed = []) :
    ∀ i, i < l.length → listed.getD i false = true := by
  obtain ⟨ks, hks⟩ := hks
  obtain ⟨hlen, _, hsp⟩ := regK_spec l [] hks
  intro i
  induction i using Nat.strongRecOn with
  | ind i ih =>
    intro hi
    cases hb : listed.getD i false with
    | true => rfl
    | false =>
      exfalso
      have hs := hsp i l[i] (List.getElem?_eq_getElem hi)
      simp only [List.length_nil, Nat.zero_add] at hs
      have : i ∈ Region.ready .any l.toArray listed := mem_ready.2 ⟨by rw [getD_two (by omega) true false]; exact hb, l[i], by simp, fun e he hbi => ih e.on (hs.low e he hbi) (by have := hs.low e he hbi; omega)⟩
      rw [hr] at this
      cases this

theorem count_step {x : Array Bool} {i : Nat} (hi : i < x.size) (h : x.getD i true = false) : (x.setIfInBounds i true).toList.count false + 1 = x.toList.count false := by
  have hl : i < x.toList.length := by simpa using hi
  have hv : x.toList[i] = false := by
    rw [Array.getD_eq_getD_getElem?, Array.getElem?_eq_getElem hi] at h
    simpa using h
  rw [Array.toList_setIfInBounds, List.count_set hl]
  have hpos : 0 < x.toList.count false := List.count_pos_iff.2 (hv ▸ List.getElem_mem hl)
  simp only [hv, beq_self_eq_true, if_true]
  have : (true == false) = false := rfl
  rw [this]
  simp only [Bool.false_eq_true, if_false]
  omega

theorem any_sound (hT : ∀ x ∈ tab, FnOk x) {l : List Oper} (hks : regK tab N E l [] = some ks) {Q : Exit → Act → World → Prop}
    (hQ : ∀ a w, IV B N df w0 E ks (fun _ => True) a w → Q .normal a w) : ∀ (fuel : Nat) (listed : Array Bool) (a : Act) (w : World), listed.size = l.length → listed.toList.count false ≤ fuel →
    IV B N df w0 E ks (fun i => listed.getD i false = true) a w → wpAny Tryz.prog .any l.toArray Q fuel listed a w := by
  obtain ⟨hlen, _, hsp⟩ := regK_spec l [] hks
  simp only [List.length_nil, Nat.zero_add] at hlen hsp
  have hend : ∀ (listed : Array Bool) a w, listed.size = l.length → Region.ready .any l.toArray listed = [] → IV B N df w0 E ks (fun i => listed.getD i false = true) a w → Q .normal a w := fun listed a w hsz hr h =>
    hQ a w (h.full fun i hi => all_listed ⟨ks, hks⟩ hsz hr i (by omega))
  intro fuel
  induction fuel with
  | zero =>
    intro listed a w hsz hc h
    have hr : Region.ready .any l.toArray listed = [] := by
      refine List.eq_nil_iff_forall_not_mem.2 fun i hi => ?_
      have h0 := (mem_ready.1 hi).1
      have := count_step (getD_lt h0) h0
      omega
    exact ⟨hr, hend listed a w hsz hr h⟩
  | succ fuel ih =>
    intro listed a w hsz hc h
    refine ⟨fun hr => hend listed a w hsz hr h, fun i hi => ?_⟩
    obtain ⟨h0, o, ho, hall⟩ := mem_ready.1 hi
    have hs := hsp i o (by simpa using ho)
    refine wpOp_step ho fun K hK => ?_
    rw [if_pos (wanted_none hs.guard _)]
    refine step_sound hT hs hall h (fun j hj => ?_) (fun a' w' h' => hK _ _ (ih _ a' w' (by simpa using hsz) (by have := count_step (getD_lt h0) h0; omega) (h'.mono fun j hj => ?_)))
    · have hjl : j < l.length := by omega
      exact ⟨_, hsp j l[j] (List.getElem?_eq_getElem hjl)⟩
    · by_cases hji : j = i
      · exact .inr hji
      · refine .inl ?_
        rw [Array.getD_eq_getD_getElem?, Array.getElem?_setIfInBounds, if_neg (fun e => hji e.symm)] at hj
        rw [Array.getD_eq_getD_getElem?]; exact hj
end
end Go.Proofs.YtiegapnfbeemcaaGreatDoor
