/-
  Worlds, words, tails: the ground of the walks. No condition.
-/
import Derived.WalkKit
import Derived.Deep.Draws
import Derived.Test.YtiegapnfbeemcaaGreatDoorProg
import Derived.BigQuiet
import Derived.Deep.QuietTactic
import Derived.WalkSmall
import Derived.Deep.Quiet
import Derived.StillTail
import Derived.Below
import Derived.Laws.OwnMore
import Derived.Deep.AppendLies
import Derived.Maps.AppendAt
import Derived.RegionTactic
import Derived.OwnWalk
namespace Go.Proofs.YtiegapnfbeemcaaGreatDoor
open Go.RowKit

/-- Block g is the cells cs of type t, none frozen. -/
def Blk (w : World) (g : Nat) (t : TypeId) (cs : Array Value) : Prop := w.heap[g]? = some (.cells cs t (0, 0))

section
variable {w w' : World} {g : Nat} {t : TypeId} {cs : Array Value}
theorem Blk.lt (h : Blk w g t cs) : g < w.heap.size := by
  rcases Nat.lt_or_ge g w.heap.size with hlt | hge
  · exact hlt
  · unfold Blk at h; rw [Array.getElem?_eq_none hge] at h; cases h
theorem Blk.cell (h : Blk w g t cs) (i : Nat) : w.cell? ⟨g, i, none⟩ = cs[i]? := cell_of_row w g i cs t (0, 0) h
theorem Blk.frozen (h : Blk w g t cs) (i : Nat) : w.frozen? ⟨g, i, none⟩ = false := by
  unfold Blk at h
  simp [World.frozen?, h]
theorem Blk.new (w : World) (t : TypeId) (cs : Array Value) : Blk (w.alloc (.cells cs t)) w.heap.size t cs := heap_alloc_new w _
theorem Blk.drew (h : Blk w g t cs) : Blk w.drew g t cs := h
theorem Blk.drewN (h : Blk w g t cs) (n : Nat) : Blk (w.drewN n) g t cs := h
theorem Blk.alloc (h : Blk w g t cs) (o : Obj) : Blk (w.alloc o) g t cs := (Below.heap_alloc w o g h.lt).trans h
theorem Blk.set_ (h : Blk w g t cs) (i : Nat) (u : Value) : Blk (w.setCell ⟨g, i, none⟩ u) g t (cs.setIfInBounds i u) := by
  unfold Blk at h ⊢
  simp [World.setCell, Array.getElem?_modify, h]
theorem Blk.far (h : Blk w g t cs) {p : Addr} (hp : g ≠ p.block) (u : Value) : Blk (w.setCell p u) g t cs := (Below.heap_setCell w p u g hp).trans h
theorem Blk.below {B : Nat} (h : Blk w g t cs) (hb : Below B w w') (hg : g < B) : Blk w' g t cs := (hb.block g hg).trans h
end

/-- Block g is an array of n words of 32 bits, word j being f j. -/
def ArrU (w : World) (g : Nat) (t : TypeId) (n : Nat) (f : Nat → Int) : Prop :=
  ∃ cs, Blk w g t cs ∧ cs.size = n ∧ ∀ j, j < n → cs[j]? = some (.int .u32 (f j))

section
variable {w w' : World} {g n : Nat} {t : TypeId} {f f' : Nat → Int}
theorem ArrU.lt (h : ArrU w g t n f) : g < w.heap.size := let ⟨_, h, _, _⟩ := h; h.lt
theorem ArrU.cell (h : ArrU w g t n f) {j : Nat} (hj : j < n) : w.cell? ⟨g, j, none⟩ = some (.int .u32 (f j)) := by
  obtain ⟨cs, hb, _, hc⟩ := h
  rw [hb.cell, hc j hj]
theorem ArrU.frozen (h : ArrU w g t n f) (j : Nat) : w.frozen? ⟨g, j, none⟩ = false := let ⟨_, hb, _, _⟩ := h; hb.frozen j
theorem ArrU.drewN (h : ArrU w g t n f) (k : Nat) : ArrU (w.drewN k) g t n f := h
theorem ArrU.alloc (h : ArrU w g t n f) (o : Obj) : ArrU (w.alloc o) g t n f := let ⟨cs, hb, h⟩ := h; ⟨cs, hb.alloc o, h⟩
theorem ArrU.far (h : ArrU w g t n f) {p : Addr} (hp : g ≠ p.block) (u : Value) : ArrU (w.setCell p u) g t n f := let ⟨cs, hb, h⟩ := h; ⟨cs, hb.far hp u, h⟩
theorem ArrU.below {B : Nat} (h : ArrU w g t n f) (hb : Below B w w') (hg : g < B) : ArrU w' g t n f := let ⟨cs, h1, h⟩ := h; ⟨cs, h1.below hb hg, h⟩
theorem ArrU.congr (h : ArrU w g t n f) (he : ∀ j, j < n → f j = f' j) : ArrU w g t n f' := let ⟨cs, h1, h2, h3⟩ := h; ⟨cs, h1, h2, fun j hj => by rw [h3 j hj, he j hj]⟩
theorem ArrU.set_ (h : ArrU w g t n f) (i : Nat) (x : Int) (he : ∀ j, j < n → f' j = if j = i then x else f j) : ArrU (w.setCell ⟨g, i, none⟩ (.int .u32 x)) g t n f' := by
  obtain ⟨cs, h1, h2, h3⟩ := h
  refine ⟨_, h1.set_ i _, by simp [h2], fun j hj => ?_⟩
  rw [he j hj, Array.getElem?_setIfInBounds]
  by_cases hij : i = j
  · subst hij; simp [h2, hj]
  · rw [if_neg hij, h3 j hj, if_neg (fun e => hij e.symm)]
end

/-- n bytes lie at ⟨g, o⟩: the list l. -/
structure Bytes (w : World) (g o : Nat) (l : List Int) : Prop where
  cell : ∀ j, j < l.length → w.cell? ⟨g, o + j, none⟩ = some (.int .u8 (l.getD j 0))
  byte : ∀ x ∈ l, 0 ≤ x ∧ x ≤ 255

theorem byte_getD {l : List Int} (h : ∀ x ∈ l, 0 ≤ x ∧ x ≤ 255) (j : Nat) : 0 ≤ l.getD j 0 ∧ l.getD j 0 ≤ 255 := by
  by_cases hj : j < l.length
  · rw [List.getD_eq_getElem?_getD, List.getElem?_eq_getElem hj]; exact h _ (List.getElem_mem hj)
  · rw [List.getD_eq_getElem?_getD, List.getElem?_eq_none (by omega)]; exact ⟨by decide, by decide⟩
section
variable {w w' : World} {g o : Nat} {l : List Int}
theorem Bytes.drewN (h : Bytes w g o l) (k : Nat) : Bytes (w.drewN k) g o l := ⟨h.cell, h.byte⟩
theorem Bytes.keep (h : Bytes w g o l) (hk : w'.heap[g]? = w.heap[g]?) : Bytes w' g o l :=
  ⟨fun j hj => (World.cell?_of_block (a := ⟨g, o + j, none⟩) hk).trans (h.cell j hj), h.byte⟩
theorem Bytes.below {B : Nat} (h : Bytes w g o l) (hb : Below B w w') (hg : g < B) : Bytes w' g o l := h.keep (hb.block g hg)
end
end Go.Proofs.YtiegapnfbeemcaaGreatDoor

namespace Go.Proofs.YtiegapnfbeemcaaGreatDoor
open Go.RowKit

/-- A word of 32 bits. -/
def U32 (x : Int) : Prop := 0 ≤ x ∧ x ≤ 4294967295

def rot (x i : Int) : Int := bits .or .u32 (x * 2 ^ (i % 32).toNat % 4294967296) (x / 2 ^ (32 - i % 32).toNat)
def pp1 (x : Int) : Int := bits .xor .u32 (bits .xor .u32 x (rot x 15)) (rot x 23)
def pp0 (x : Int) : Int := bits .xor .u32 (bits .xor .u32 x (rot x 9)) (rot x 17)

theorem u32_bits (op : BinOp) (x y : Int) : U32 (bits op .u32 x y) := by
  unfold U32 bits
  have h : ∀ n : Int, 0 ≤ IntKind.u32.wrap n ∧ IntKind.u32.wrap n ≤ 4294967295 := fun n => by
    simp [IntKind.wrap, IntKind.bits, IntKind.signed]; omega
  split <;> exact h _
theorem u32_rot (x i : Int) : U32 (rot x i) := u32_bits _ _ _

theorem leftRotate_any (p : Value) (x i : Int) (w : World) (hi : 0 ≤ i) :
    Calls Tryz.prog 81 #[p, .int .u32 x, .int .u32 i] w fun e w' => e = .returned (.int .u32 (rot x i)) ∧ w = w' := by
  go_enter Tryz.func81, Tryz.ntmps81
  go_wp2
  go_ret
  exact ⟨rfl, rfl⟩

theorem rotate_any (x i : Int) (w : World) (hi : 0 ≤ i) :
    Calls Tryz.prog 53 #[.int .u32 x, .int .i64 i] w fun e w' => e = .returned (.int .u32 (rot x i)) ∧ ∃ n, w' = w.drewN n := by
  go_enter Tryz.func53, Tryz.ntmps53
  go_wp2
  go_quiet (fail)
  go_wp2
  go_ret
  exact ⟨rfl, _, rfl⟩
theorem ip1_any (p : Value) (x : Int) (w : World) :
    Calls Tryz.prog 80 #[p, .int .u32 x] w fun e w' => e = .returned (.int .u32 (pp1 x)) ∧ w = w' := by
  go_enter Tryz.func80, Tryz.ntmps80
  go_wp2_with (go_at_call 81; refine (leftRotate_any _ _ _ _ (by omega)).mono ?_; rintro e w' ⟨rfl, rfl⟩)
  go_ret
  exact ⟨rfl, rfl⟩
theorem ip0_any (p : Value) (x : Int) (w : World) :
    Calls Tryz.prog 84 #[p, .int .u32 x] w fun e w' => e = .returned (.int .u32 (pp0 x)) ∧ w = w' := by
  go_enter Tryz.func84, Tryz.ntmps84
  go_wp2_with (go_at_call 81; refine (leftRotate_any _ _ _ _ (by omega)).mono ?_; rintro e w' ⟨rfl, rfl⟩)
  go_ret
  exact ⟨rfl, rfl⟩
theorem sp1_any (x : Int) (w : World) :
    Calls Tryz.prog 52 #[.int .u32 x] w fun e w' => e = .returned (.int .u32 (pp1 x)) ∧ ∃ n, w' = w.drewN n := by
  go_enter Tryz.func52, Tryz.ntmps52
  go_wp2_with (go_at_call 53; refine (rotate_any _ _ _ (by omega)).mono ?_; rintro e w' ⟨rfl, n, rfl⟩)
  go_ret
  exact ⟨rfl, _, rfl⟩
theorem sp0_any (x : Int) (w : World) :
    Calls Tryz.prog 54 #[.int .u32 x] w fun e w' => e = .returned (.int .u32 (pp0 x)) ∧ ∃ n, w' = w.drewN n := by
  go_enter Tryz.func54, Tryz.ntmps54
  go_wp2_with (go_at_call 53; refine (rotate_any _ _ _ (by omega)).mono ?_; rintro e w' ⟨rfl, n, rfl⟩)
  go_ret
  exact ⟨rfl, _, rfl⟩
def xor3 (x y z : Int) : Int := bits .xor .u32 (bits .xor .u32 x y) z
theorem ff0_any (p : Value) (x y z : Int) (w : World) :
    Calls Tryz.prog 82 #[p, .int .u32 x, .int .u32 y, .int .u32 z] w fun e w' => e = .returned (.int .u32 (xor3 x y z)) ∧ w = w' := by
  go_enter Tryz.func82, Tryz.ntmps82
  go_wp2
  go_ret
  exact ⟨rfl, rfl⟩
theorem gg0_any (p : Value) (x y z : Int) (w : World) :
    Calls Tryz.prog 83 #[p, .int .u32 x, .int .u32 y, .int .u32 z] w fun e w' => e = .returned (.int .u32 (xor3 x y z)) ∧ w = w' := by
  go_enter Tryz.func83, Tryz.ntmps83
  go_wp2
  go_ret
  exact ⟨rfl, rfl⟩
def maj (x y z : Int) : Int := bits .or .u32 (bits .or .u32 (bits .and .u32 x y) (bits .and .u32 x z)) (bits .and .u32 y z)
theorem ff1_any (p : Value) (x y z : Int) (w : World) :
    Calls Tryz.prog 85 #[p, .int .u32 x, .int .u32 y, .int .u32 z] w fun e w' => e = .returned (.int .u32 (maj x y z)) ∧ w = w' := by
  go_enter Tryz.func85, Tryz.ntmps85
  go_wp2
  go_ret
  exact ⟨rfl, rfl⟩
def cho (x y z : Int) : Int := bits .or .u32 (bits .and .u32 x y) (bits .and .u32 (bits .xor .u32 IntKind.u32.max x) z)
theorem gg1_any (p : Value) (x y z : Int) (w : World) :
    Calls Tryz.prog 86 #[p, .int .u32 x, .int .u32 y, .int .u32 z] w fun e w' => e = .returned (.int .u32 (cho x y z)) ∧ w = w' := by
  have hs : IntKind.u32.signed = false := rfl
  go_enter Tryz.func86, Tryz.ntmps86
  go_wp2
  go_ret
  exact ⟨rfl, rfl⟩

/-- A word of four bytes, the highest first. -/
def wd (b0 b1 b2 b3 : Int) : Int := bits .or .u32 (bits .or .u32 (bits .or .u32 (b0 * 16777216) (b1 * 65536)) (b2 * 256)) b3

theorem u32_of_bv (x y : BitVec 32) (op : BitVec 32 → BitVec 32 → BitVec 32) : BitVec.ofInt 32 (IntKind.u32.wrap ((op x y).toNat : Int)) = op x y := by
  rw [IntKind.wrap_u32']
  generalize op x y = z
  apply BitVec.eq_of_toNat_eq
  have := z.isLt
  simp
  omega
theorem bits_or_bv (x y : Int) : BitVec.ofInt 32 (bits .or .u32 x y) = BitVec.ofInt 32 x ||| BitVec.ofInt 32 y := u32_of_bv _ _ (· ||| ·)
theorem or_comm32 (x y : Int) : bits .or .u32 x y = bits .or .u32 y x := by
  show IntKind.u32.wrap ((BitVec.ofInt 32 x ||| BitVec.ofInt 32 y).toNat : Int) = IntKind.u32.wrap ((BitVec.ofInt 32 y ||| BitVec.ofInt 32 x).toNat : Int)
  rw [BitVec.or_comm]
theorem or_assoc32 (x y z : Int) : bits .or .u32 (bits .or .u32 x y) z = bits .or .u32 x (bits .or .u32 y z) := by
  show IntKind.u32.wrap ((BitVec.ofInt 32 (bits .or .u32 x y) ||| BitVec.ofInt 32 z).toNat : Int) = IntKind.u32.wrap ((BitVec.ofInt 32 x ||| BitVec.ofInt 32 (bits .or .u32 y z)).toNat : Int)
  rw [bits_or_bv, bits_or_bv, BitVec.or_assoc]
theorem wd_low (b0 b1 b2 b3 : Int) : bits .or .u32 (bits .or .u32 (bits .or .u32 b3 (b2 * 256)) (b1 * 65536)) (b0 * 16777216) = wd b0 b1 b2 b3 := by
  unfold wd
  rw [or_comm32 _ (b0 * 16777216), or_comm32 _ (b1 * 65536), or_comm32 b3, or_assoc32, or_assoc32]

theorem word_any (g o n c : Nat) (b0 b1 b2 b3 : Int) (w : World) (hn : 4 ≤ n) (hb0 : 0 ≤ b0 ∧ b0 ≤ 255) (hb1 : 0 ≤ b1 ∧ b1 ≤ 255) (hb2 : 0 ≤ b2 ∧ b2 ≤ 255) (hb3 : 0 ≤ b3 ∧ b3 ≤ 255)
    (h0 : w.cell? ⟨g, o, none⟩ = some (.int .u8 b0)) (h1 : w.cell? ⟨g, o + 1, none⟩ = some (.int .u8 b1)) (h2 : w.cell? ⟨g, o + 2, none⟩ = some (.int .u8 b2)) (h3 : w.cell? ⟨g, o + 3, none⟩ = some (.int .u8 b3)) :
    Calls Tryz.prog 51 #[.slice (some ⟨g, o, none⟩) n c] w fun e w' => e = .returned (.int .u32 (wd b0 b1 b2 b3)) ∧ ∃ m, w' = w.drewN m := by
  have i0 : (0 : Int) < (n : Int) := by omega
  have i1 : (1 : Int) < (n : Int) := by omega
  have i2 : (2 : Int) < (n : Int) := by omega
  have i3 : (3 : Int) < (n : Int) := by omega
  go_enter Tryz.func51, Tryz.ntmps51
  go_wp2
  go_quiet (fail)
  go_wp2
  go_ret
  exact ⟨rfl, _, rfl⟩
theorem uint32_any (g o n c : Nat) (b0 b1 b2 b3 : Int) (w : World) (hn : 4 ≤ n) (hb0 : 0 ≤ b0 ∧ b0 ≤ 255) (hb1 : 0 ≤ b1 ∧ b1 ≤ 255) (hb2 : 0 ≤ b2 ∧ b2 ≤ 255) (hb3 : 0 ≤ b3 ∧ b3 ≤ 255) (hg : g < w.heap.size)
    (h0 : w.cell? ⟨g, o, none⟩ = some (.int .u8 b0)) (h1 : w.cell? ⟨g, o + 1, none⟩ = some (.int .u8 b1)) (h2 : w.cell? ⟨g, o + 2, none⟩ = some (.int .u8 b2)) (h3 : w.cell? ⟨g, o + 3, none⟩ = some (.int .u8 b3)) :
    Calls Tryz.prog 79 #[.agg #[], .slice (some ⟨g, o, none⟩) n c] w fun e w' => e = .returned (.int .u32 (wd b0 b1 b2 b3)) ∧ Below w.heap.size w w' := by
  have i0 : (0 : Int) < (n : Int) := by omega
  have i1 : (1 : Int) < (n : Int) := by omega
  have i2 : (2 : Int) < (n : Int) := by omega
  have i3 : (3 : Int) < (n : Int) := by omega
  have k0 := fun o1 => (World.cell?_alloc_lt w o1 ⟨g, o, none⟩ hg).trans h0
  have k1 := fun o1 => (World.cell?_alloc_lt w o1 ⟨g, o + 1, none⟩ hg).trans h1
  have k2 := fun o1 => (World.cell?_alloc_lt w o1 ⟨g, o + 2, none⟩ hg).trans h2
  have k3 := fun o1 => (World.cell?_alloc_lt w o1 ⟨g, o + 3, none⟩ hg).trans h3
  go_enter Tryz.func79, Tryz.ntmps79
  go_wp2
  go_quiet (fail)
  go_wp2
  go_ret
  exact ⟨by rw [← wd_low]; rfl, below_drewN ((Below.refl _ _).alloc (Nat.le_refl _) _) _⟩
theorem bytesOf_any (x : Int) (w : World) (hx : 0 ≤ x ∧ x ≤ 4294967295) :
    Calls Tryz.prog 26 #[.int .u32 x] w fun e w' => e = .returned (.slice (some ⟨w.heap.size, 0, none⟩) 4 4) ∧
      w.alloc (.cells #[.int .u8 (x / 16777216), .int .u8 (x / 65536 % 256), .int .u8 (x / 256 % 256), .int .u8 (x % 256)] 5) = w' := by
  go_enter Tryz.func26, Tryz.ntmps26
  go_wp2
  go_ret
  exact ⟨rfl, rfl⟩
end Go.Proofs.YtiegapnfbeemcaaGreatDoor

namespace Go.Proofs.YtiegapnfbeemcaaGreatDoor

section
variable {P : Program} {md : Region.Mode} {ops : Array Oper} {C : World → Prop}

def headQ (P : Program) (md : Region.Mode) (ops : Array Oper) (C : World → Prop) (n : Nat) (L : Array Bool → Act → Prop) : Nat → Array Bool → Act → Prop
  | 0, listed, a => L listed a
  | f + 1, listed, a =>
    Region.ready md ops listed ≠ [] ∧ ∀ i ∈ Region.ready md ops listed, i < n ∧ qOp P ops C i (headQ P md ops C n L f (listed.setIfInBounds i true)) a

theorem wpAny_of_headQ {n g : Nat} {L : Array Bool → Act → Prop} {Q' : Exit → Act → World → Prop} (hL : ∀ listed a w, C w → L listed a → wpAny P md ops Q' g listed a w) :
    ∀ (f : Nat) (listed : Array Bool) (a : Act) (w : World), C w → headQ P md ops C n L f listed a → wpAny P md ops Q' (f + g) listed a w
  | 0, listed, a, w, hw, h => by rw [Nat.zero_add]; exact hL _ _ _ hw h
  | f + 1, listed, a, w, hw, h => by
    rw [show f + 1 + g = (f + g) + 1 by omega]
    exact ⟨fun h0 => absurd h0 h.1, fun i hi => wpOp_of_qOp hw (fun a' w' hw' h' => wpAny_of_headQ hL f _ a' w' hw' h') (h.2 i hi).2⟩

theorem headQ_first {n i : Nat} {oi : Oper} {v : Value} {L : Array Bool → Act → Prop} (hi : ops[i]? = some oi) (hsel : ∀ (j : Nat) (o : Oper) cs b, ops[j]? = some o → o.op ≠ .select cs b)
    (hs : Region.sinkB md ops n = true) (hc : Region.chainB md ops n = true) (hn : n < ops.size) (hin : i < n)
    (hdone : ∀ listed a, L listed a → ∀ j ∈ Region.ready md ops listed, n ≤ j) :
    ∀ (f : Nat) (listed : Array Bool) (a : Act), HeadInv md ops n listed →
      (∀ j oj, ops[j]? = some oj → j ≠ i → listed.getD j true = false → (∀ e ∈ oj.after, Region.binds md e = true → e.on ≠ i) → oi.apart ops oj = true) →
      i ∈ Region.ready md ops listed → YieldsIn P ops C oi v a →
      headQ P md ops C n L f (listed.setIfInBounds i true) (a.put oi.dst v) → headQ P md ops C n L (f + 1) listed a := by
  intro f
  induction f with
  | zero =>
    intro listed a inv _ hr hy H
    have hun := (mem_ready.1 hr).1
    refine ⟨fun h => (by rw [h] at hr; cases hr), fun j hj => ?_⟩
    have hjn : j < n := by
      rcases Nat.lt_or_ge j n with h | h
      · exact h
      · exact absurd hj (tail_waits hs hc hn inv _ i rfl hin hun j h)
    refine ⟨hjn, ?_⟩
    by_cases hji : j = i
    · subst hji; exact hy.qOp hi H
    · have := hdone _ _ H j (ready_mono hj hji)
      omega
  | succ f ih =>
    intro listed a inv hfree hr hy H
    have hun := (mem_ready.1 hr).1
    refine ⟨fun h => (by rw [h] at hr; cases hr), fun j hj => ?_⟩
    have hjn : j < n := by
      rcases Nat.lt_or_ge j n with h | h
      · exact h
      · exact absurd hj (tail_waits hs hc hn inv _ i rfl hin hun j h)
    refine ⟨hjn, ?_⟩
    by_cases hji : j = i
    · subst hji; exact hy.qOp hi H
    · have h1 := (H.2 j (ready_mono hj hji)).2
      obtain ⟨hjun, oj, hoj, hall⟩ := mem_ready.1 hj
      have hnot : ∀ e ∈ oj.after, Region.binds md e = true → e.on ≠ i := fun e he hb heq => by
        have h1 := hall e he hb
        rw [heq, getD_both hun] at h1
        cases h1
      have h2 := qOp_put hoj (hfree j oj hoj hji hjun hnot) (fun cs b => hsel i oi cs b hi) (fun cs b => hsel j oj cs b hoj) hy h1
      have hfree' : ∀ k ok, ops[k]? = some ok → k ≠ i → (listed.setIfInBounds j true).getD k true = false →
          (∀ e ∈ ok.after, Region.binds md e = true → e.on ≠ i) → oi.apart ops ok = true := fun k ok hk hki hun hno => by
        refine hfree k ok hk hki ?_ hno
        by_cases hjk : j = k
        · subst hjk; exact hjun
        · rw [getD_set_ne true hjk] at hun; exact hun
      refine qOp_mono (fun a' h3 => ih (listed.setIfInBounds j true) a' (inv.set hj hjn) hfree' (ready_mono hr (Ne.symm hji)) h3.1 ?_) h2
      rw [Array.setIfInBounds_comm _ _ hji]
      exact h3.2

theorem headQ_lex {n g : Nat} {Lq : Act → Prop} (hsel : Region.noSelect ops = true) (hs : Region.sinkB md ops n = true) (hc : Region.chainB md ops n = true) (hn : n < ops.size) :
    ∀ (l : List Oper) (k : Nat) (listed : Array Bool) (a : Act), (∀ j, j < l.length → l[j]? = ops[k + j]?) → k + l.length = n → HeadInv md ops n listed →
    Region.lexHead md ops g l.length k listed = true → wpQuiet P ops C Lq l a →
    headQ P md ops C n (fun listed' a' => Region.seqB md ops g n listed' = true ∧ Lq a') l.length listed a
  | [], k, listed, a, _, hk, _, hB, h => by
    have : k = n := by simpa using hk
    subst this
    exact ⟨by simpa [Region.lexHead] using hB, h⟩
  | o :: l, k, listed, a, hl, hk, inv, hB, h => by
    have h0 : ops[k]? = some o := by simpa using (hl 0 (by simp)).symm
    simp only [List.length_cons, Region.lexHead, Bool.and_eq_true] at hB
    obtain ⟨⟨hr, hf⟩, hB'⟩ := hB
    have hkn : k < n := by simp only [List.length_cons] at hk; omega
    have hr' : k ∈ Region.ready md ops listed := by simpa using hr
    have hst : qOp P ops C k (wpQuiet P ops C Lq l) a := by unfold qOp; simp only [h0]; exact h
    obtain ⟨v, hy, hK⟩ := yieldsIn_of_qOp h0 hst
    exact headQ_first h0 (Region.noSelect_spec hsel) hs hc hn hkn (fun listed' a' hL => seqB_ready hL.1) l.length listed a inv (Region.free_spec h0 hf) hr' hy
      (headQ_lex hsel hs hc hn l (k + 1) _ _ (fun j hj => by have := hl (j + 1) (by simp; omega); simpa [Nat.add_assoc, Nat.add_comm 1 j] using this) (by simp only [List.length_cons] at hk; omega) (inv.set hr' hkn) hB' hK)

theorem region_quiet_tail_in {id : Nat} {Q : Exit → Act → World → Prop} {a : Act} {w : World} {l : List Oper} (n : Nat) (hC : C { w with drawn := w.drawn + 1 })
    (hm : P.follows .mixedOrders = true) (hB : Region.lexTailB .any l.toArray n = true)
    (h : wpQuiet P l.toArray C (fun a' => ∀ w', C w' → wpList P l.toArray Q (l.drop n) a' w') (l.take n) a) : (Code.region id l.toArray true).wp P Q a w := by
  simp only [Region.lexTailB, Bool.and_eq_true, decide_eq_true_eq] at hB
  obtain ⟨⟨⟨⟨hsel, hn⟩, hs⟩, hc⟩, hlex⟩ := hB
  have hn' : n < l.length := by simpa using hn
  have htl : (l.take n).length = n := by simp; omega
  have hdl : (l.drop n).length = l.toArray.size - n := by simp
  have inv0 : HeadInv .any l.toArray n (Array.replicate l.toArray.size false) :=
    ⟨by simp, fun j oj _ hl => (by rw [getD_replicate_false] at hl; cases hl), fun t _ ht => getD_in (by simpa using ht) (getD_replicate_false _ _)⟩
  have H := headQ_lex (md := .any) (g := l.toArray.size - n) hsel hs hc hn (l.take n) 0 _ a (fun j hj => by
    have hj' : j < n := by rw [htl] at hj; exact hj
    simp [hj']) (by simpa using htl) inv0 (by rw [htl]; exact hlex) h
  refine wp_region_any hm ?_
  have := wpAny_of_headQ (Q' := Q) (g := l.toArray.size - n) (fun listed a' w' hw' hL => by
    have := wpAny_of_seq (md := .any) (Q' := Q) (l.drop n) n listed a' w' (fun j => by simp [List.getElem?_drop]) (by rw [hdl]; exact hL.1) (hL.2 w' hw')
    rwa [hdl] at this) _ _ _ _ hC H
  rw [htl, show n + (l.toArray.size - n) = l.toArray.size by omega] at this
  exact this

theorem region_quiet_tail {id : Nat} {Q : Exit → Act → World → Prop} {a : Act} {w : World} {l : List Oper} (n : Nat)
    (hm : P.follows .mixedOrders = true) (hB : Region.lexTailB .any l.toArray n = true)
    (h : wpQuiet P l.toArray (fun w' => ∃ n, w' = w.drewN n) (fun a' => ∀ w', (∃ n, w' = w.drewN n) → wpList P l.toArray Q (l.drop n) a' w') (l.take n) a) : (Code.region id l.toArray true).wp P Q a w :=
  region_quiet_tail_in (C := fun w' => ∃ n, w' = w.drewN n) n ⟨1, rfl⟩ hm hB h
end
end Go.Proofs.YtiegapnfbeemcaaGreatDoor

namespace Go.Proofs.YtiegapnfbeemcaaGreatDoor
open Go.RowKit

theorem block_of_add (a : Addr) (n : Nat) : (a.add n).block = a.block := by unfold Addr.add; split <;> rfl
theorem add_of_add (a : Addr) (i j : Nat) : (a.add i).add j = a.add (i + j) := by
  unfold Addr.add
  by_cases hi : i = 0 <;> by_cases hj : j = 0 <;> simp [hi, hj, Nat.add_assoc]

def Reads (w : World) (B size : Nat) (A : Option Addr) (n : Nat) (xs : List Value) : Prop :=
  xs.length = n * size ∧ (0 < n → ∃ ad, A = some ad ∧ ad.block < B ∧ ∀ j u, xs[j]? = some u → w.cell? (ad.add j) = some u)

section
variable {w w' : World} {B B' size n : Nat} {A : Option Addr} {xs : List Value}
theorem Reads.none_ : Reads w B size A 0 [] := ⟨by simp, fun h => absurd h (by omega)⟩
theorem Reads.at_ {k : Nat} (h : Reads w B 1 A n xs) (hk : k < n) : ∃ ad u, A = some ad ∧ ad.block < B ∧ xs[k]? = some u ∧ w.cell? (ad.add k) = some u := by
  obtain ⟨ad, e, hb, hc⟩ := h.2 (by omega)
  have hl : k < xs.length := by have := h.1; omega
  exact ⟨ad, xs[k], e, hb, List.getElem?_eq_getElem hl, hc k _ (List.getElem?_eq_getElem hl)⟩
theorem Reads.keep (h : Reads w B size A n xs) (hk : ∀ p : Addr, p.block < B → w'.cell? p = w.cell? p) : Reads w' B size A n xs :=
  ⟨h.1, fun hn => by
    obtain ⟨ad, e, hb, hc⟩ := h.2 hn
    exact ⟨ad, e, hb, fun j u hu => (hk _ (by rw [block_of_add]; exact hb)).trans (hc j u hu)⟩⟩
theorem Reads.more (h : Reads w B size A n xs) (hB : B ≤ B') : Reads w B' size A n xs :=
  ⟨h.1, fun hn => by
    obtain ⟨ad, e, hb, hc⟩ := h.2 hn
    exact ⟨ad, e, by omega, hc⟩⟩
theorem Reads.below (h : Reads w B size A n xs) (hb : Below B w w') : Reads w' B size A n xs := h.keep fun _ hp => hb.cell hp
theorem Reads.drew (h : Reads w B size A n xs) : Reads w.drew B size A n xs := h
theorem Reads.drewN (h : Reads w B size A n xs) (k : Nat) : Reads (w.drewN k) B size A n xs := h
theorem Reads.alloc (h : Reads w B size A n xs) (hB : B ≤ w.heap.size) (o : Obj) : Reads (w.alloc o) B size A n xs := h.keep fun p hp => World.cell?_alloc_lt w o p (by omega)
theorem Reads.setCell (h : Reads w B size A n xs) {p : Addr} (hB : B ≤ p.block) (u : Value) : Reads (w.setCell p u) B size A n xs :=
  h.keep fun q hq => World.cell?_setCell_other w p q u (fun e => by subst e; omega)
theorem Reads.grown (h : Reads w B size A n xs) {row : Option Nat} (hg : w.grownBy w' row) (hB : B ≤ w.heap.size) (hr : ∀ g, row = some g → B ≤ g) : Reads w' B size A n xs :=
  h.keep fun p hp => World.cell?_of_block (hg.block p.block (by omega) (fun e => by have := hr _ e.symm; omega))
theorem Reads.cut (h : Reads w B size A n xs) {k cap : Nat} (hk : k ≤ n) (hc : n ≤ cap) :
    Reads w B size (if cap = k then A else A.map (·.add (k * size))) (n - k) (xs.drop (k * size)) := by
  refine ⟨by rw [List.length_drop, h.1, Nat.sub_mul], fun hn => ?_⟩
  obtain ⟨ad, rfl, hb, hcell⟩ := h.2 (by omega)
  rw [if_neg (by omega)]
  refine ⟨ad.add (k * size), rfl, by rw [block_of_add]; exact hb, fun j u hu => ?_⟩
  rw [add_of_add]
  exact hcell _ u (by rw [← hu, List.getElem?_drop])
theorem Reads.of_own {base : Nat} {e : TypeId} {c : Nat} (h : w.ownsRow base e size (.slice A n c) n xs) : Reads w w.heap.size size A n xs := by
  refine ⟨h.1, fun hn => ?_⟩
  obtain ⟨g, cap, hv, _, hlt⟩ := h.form hn
  have hA : A = some ⟨g, 0, none⟩ := by injection hv
  subst hA
  exact ⟨_, rfl, hlt, h.cells (g := g) rfl⟩
end

section
variable {B : Nat}

theorem Reads.lit (w : World) (t : TypeId) (cs : Array Value) (hB : w.heap.size + 1 ≤ B) : Reads (w.alloc (.cells cs t)) B 1 (some ⟨w.heap.size, 0, none⟩) cs.size cs.toList :=
  ⟨by simp, fun _ => ⟨_, rfl, hB, fun j u hu => by
    have h := (Blk.new w t cs).cell j
    have e : (⟨w.heap.size, 0, none⟩ : Addr).add j = ⟨w.heap.size, j, none⟩ := by
      unfold Addr.add; by_cases h0 : j = 0 <;> simp [h0]
    rw [e, h]
    simpa using hu⟩⟩
theorem Reads.ofBytes {w : World} {g o B : Nat} {l : List Int} (h : Bytes w g o l) (hg : g < B) : Reads w B 1 (some ⟨g, o, none⟩) l.length (l.map (Value.int .u8)) :=
  ⟨by simp, fun _ => ⟨_, rfl, hg, fun j u hu => by
    have e : (⟨g, o, none⟩ : Addr).add j = ⟨g, o + j, none⟩ := by
      unfold Addr.add; by_cases h0 : j = 0 <;> simp [h0]
    have hj : j < l.length := by
      rcases Nat.lt_or_ge j l.length with h1 | h1
      · exact h1
      · rw [List.getElem?_eq_none (by simpa using h1)] at hu; cases hu
    rw [e, h.cell j hj]
    rw [List.getElem?_map, List.getElem?_eq_getElem hj] at hu
    simp only [Option.map_some] at hu
    rw [← hu, List.getD_eq_getElem?_getD, List.getElem?_eq_getElem hj]
    rfl⟩⟩
theorem ints_one (l : List Int) : ∀ u ∈ l.map (Value.int .u8), u.oneCell' = true := ints_oneCell _ _
end

section
variable {P : Program} (w : World)

theorem run_append_of_nil (base : Nat) (t ty e : TypeId) (i : TypeInfo) (size : Nat) (ht : P.underlying t = some (.slice e)) (hi : P.info? e = some i)
    (v : Value) (n : Nat) (xs : List Value) (hown : w.ownsRow base e size v n xs) (c : Nat) : (Builtin.append_ #[t, t] ty #[v, .slice none 0 c]).run P w = .ok v w := by
  rcases hown.2 with ⟨rfl, rfl⟩ | ⟨g, cap, cur, rfl, _, _, hnc, _⟩
  · simp [Builtin.append_, run_underlying ht, sizeOf, typeInfo, hi, Builtin.lenOf, Builtin.firstCells]
  · simp [Builtin.append_, run_underlying ht, sizeOf, typeInfo, hi, Builtin.lenOf, Builtin.firstCells, hnc, storeCells]

theorem run_append_any (base : Nat) (t ty e : TypeId) (i : TypeInfo) (z : Value) (size bytes : Nat) (ht : P.underlying t = some (.slice e)) (hi : P.info? e = some i) (hz : i.zero = some z)
    (hsize : i.size = size) (hby : i.bytes = bytes) (hzs : z.cells.size = size) (hsz : 0 < size)
    (v : Value) (n : Nat) (xs : List Value) (hown : w.ownsRow base e size v n xs)
    (B : Nat) (A : Option Addr) (m c : Nat) (news : List Value) (hr : Reads w B size A m news) (h1 : ∀ u ∈ news, u.oneCell' = true)
    (h63 : n + m ≤ maxLen) (hbytes : (n + m) * bytes ≤ 140737488355328) (hbase : base ≤ w.heap.size) :
    ∃ v' w', (Builtin.append_ #[t, t] ty #[v, .slice A m c]).run P w = .ok v' w' ∧ w'.ownsRow base e size v' (n + m) (xs ++ news) ∧ w.grownBy w' v.ownBlock ∧
      (v'.ownBlock = v.ownBlock ∨ v'.ownBlock = some w.heap.size) := by
  rcases A with _ | ad
  · have hm : m = 0 := by
      rcases Nat.eq_zero_or_pos m with h0 | h0
      · exact h0
      · obtain ⟨ad, h, _⟩ := hr.2 h0
        cases h
    subst hm
    have hn : news = [] := List.eq_nil_of_length_eq_zero (by simpa using hr.1)
    subst hn
    exact ⟨v, w, run_append_of_nil w base t ty e i size ht hi v n xs hown c, by simpa using hown, World.grownBy.refl w _, .inl rfl⟩
  · have hcells : ∀ j u, news[j]? = some u → w.cell? (ad.add j) = some u := by
      intro j u hu
      rcases Nat.eq_zero_or_pos m with h0 | h0
      · subst h0
        have hn : news = [] := List.eq_nil_of_length_eq_zero (by simpa using hr.1)
        subst hn
        simp at hu
      · obtain ⟨ad', h, _, hc⟩ := hr.2 h0
        injection h with h
        subst h
        exact hc j u hu
    obtain ⟨v', w', hrun, h2, h3, _, h5⟩ := run_append_own_at (P := P) w base t ty e i z size bytes ht hi hz hsize hby hzs hsz v n xs hown ad m c news hr.1 hcells h1 h63 hbytes hbase
    exact ⟨v', w', hrun, h2, h3, h5⟩

theorem wp_append_any {o : Oper} {a : Act} {K : Act → World → Prop} {Q : Exit → Act → World → Prop} (s x : Operand) (t : TypeId)
    (ho : o.op = .call { callee := .builtin .append, args := #[s, x], argTypes := #[t, t] })
    (base : Nat) (e : TypeId) (i : TypeInfo) (z : Value) (size bytes : Nat) (ht : P.underlying t = some (.slice e)) (hi : P.info? e = some i) (hz : i.zero = some z)
    (hsize : i.size = size) (hby : i.bytes = bytes) (hzs : z.cells.size = size) (hsz : 0 < size)
    (v : Value) (n : Nat) (xs : List Value) (hs : a.eval s = v) (hown : w.ownsRow base e size v n xs)
    (B : Nat) (A : Option Addr) (m c : Nat) (news : List Value) (hx : a.eval x = .slice A m c) (hr : Reads w B size A m news) (h1 : ∀ u ∈ news, u.oneCell' = true)
    (h63 : n + m ≤ maxLen) (hbytes : (n + m) * bytes ≤ 140737488355328) (hbase : base ≤ w.heap.size)
    (h : ∀ v' w', w'.ownsRow base e size v' (n + m) (xs ++ news) → w.grownBy w' v.ownBlock → (v'.ownBlock = v.ownBlock ∨ v'.ownBlock = some w.heap.size) → K (a.put o.dst v') w') : o.wp P a w K Q := by
  obtain ⟨v', w', hrun, h2, h3, h4⟩ := run_append_any (P := P) w base t o.type e i z size bytes ht hi hz hsize hby hzs hsz v n xs hown B A m c news hr h1 h63 hbytes hbase
  unfold Oper.wp execOp
  simp only [ho, resolve, invoke, builtin, Sem.run_bind, Sem.run_pure, Result.andThen_ok, List.map_toArray, List.map_cons, List.map_nil, hs, hx, hrun]
  exact h v' w' h2 h3 h4

theorem wpList_append_any {ops : Array Oper} {rest : List Oper} {o : Oper} {a : Act} {Q : Exit → Act → World → Prop} (hgd : o.guard = none) (s x : Operand) (t : TypeId)
    (ho : o.op = .call { callee := .builtin .append, args := #[s, x], argTypes := #[t, t] })
    (base : Nat) (e : TypeId) (i : TypeInfo) (z : Value) (size bytes : Nat) (ht : P.underlying t = some (.slice e)) (hi : P.info? e = some i) (hz : i.zero = some z)
    (hsize : i.size = size) (hby : i.bytes = bytes) (hzs : z.cells.size = size) (hsz : 0 < size)
    (v : Value) (n : Nat) (xs : List Value) (hs : a.eval s = v) (hown : w.ownsRow base e size v n xs)
    (B : Nat) (A : Option Addr) (m c : Nat) (news : List Value) (hx : a.eval x = .slice A m c) (hr : Reads w B size A m news) (h1 : ∀ u ∈ news, u.oneCell' = true)
    (h63 : n + m ≤ maxLen) (hbytes : (n + m) * bytes ≤ 140737488355328) (hbase : base ≤ w.heap.size)
    (h : ∀ v' w', w'.ownsRow base e size v' (n + m) (xs ++ news) → w.grownBy w' v.ownBlock → (v'.ownBlock = v.ownBlock ∨ v'.ownBlock = some w.heap.size) → wpList P ops Q rest (a.put o.dst v') w') : wpList P ops Q (o :: rest) a w :=
  wpList_plain hgd fun _ hK => wp_append_any w s x t ho base e i z size bytes ht hi hz hsize hby hzs hsz v n xs hs hown B A m c news hx hr h1 h63 hbytes hbase fun v' w' h2 h3 h4 => hK _ _ (h v' w' h2 h3 h4)

theorem step_append_any {ops : Array Oper} {o : Oper} {a : Act} {K : Act → World → Prop} {Q : Exit → Act → World → Prop} {E : Prop} (hgd : o.guard = none) (s x : Operand) (t : TypeId)
    (ho : o.op = .call { callee := .builtin .append, args := #[s, x], argTypes := #[t, t] })
    (base : Nat) (e : TypeId) (i : TypeInfo) (z : Value) (size bytes : Nat) (ht : P.underlying t = some (.slice e)) (hi : P.info? e = some i) (hz : i.zero = some z)
    (hsize : i.size = size) (hby : i.bytes = bytes) (hzs : z.cells.size = size) (hsz : 0 < size)
    (v : Value) (n : Nat) (xs : List Value) (hs : a.eval s = v) (hown : w.ownsRow base e size v n xs)
    (B : Nat) (A : Option Addr) (m c : Nat) (news : List Value) (hx : a.eval x = .slice A m c) (hr : Reads w B size A m news) (h1 : ∀ u ∈ news, u.oneCell' = true)
    (h63 : n + m ≤ maxLen) (hbytes : (n + m) * bytes ≤ 140737488355328) (hbase : base ≤ w.heap.size)
    (h : ∀ v' w', w'.ownsRow base e size v' (n + m) (xs ++ news) → w.grownBy w' v.ownBlock → (v'.ownBlock = v.ownBlock ∨ v'.ownBlock = some w.heap.size) → K (a.put o.dst v') w') :
    if Region.wanted o (yielded ops a.tmps) = true then Oper.wp P o a w K Q else E := by
  have hw : Region.wanted o (yielded ops a.tmps) = true := by simp [Region.wanted, hgd]
  rw [if_pos hw]
  exact wp_append_any w s x t ho base e i z size bytes ht hi hz hsize hby hzs hsz v n xs hs hown B A m c news hx hr h1 h63 hbytes hbase h
end
end Go.Proofs.YtiegapnfbeemcaaGreatDoor
