/- The word functions of the SM3 hash and of its reference: turning, mixing. No condition but that the numbers are words. -/
import Derived.Test.YtmhjbkkbbhioeaaProg
import Derived.WalkKit
import Derived.BigQuiet
import Derived.Deep.QuietTactic
import Derived.WalkSmall
namespace Go.Proofs.Ytmhjbkkbbhioeaa
open Go.RowKit

/-- A word of 32 bits. -/
def U32 (x : Int) : Prop := 0 ≤ x ∧ x ≤ 4294967295

def rot (x i : Int) : Int := bits .or .u32 (x * 2 ^ (i % 32).toNat % 4294967296) (x / 2 ^ (32 - i % 32).toNat)
def pp1 (x : Int) : Int := bits .xor .u32 (bits .xor .u32 x (rot x 15)) (rot x 23)
def pp0 (x : Int) : Int := bits .xor .u32 (bits .xor .u32 x (rot x 9)) (rot x 17)

theorem u32_bits (op : BinOp) (x y : Int) : U32 (bits op .u32 x y) := by
  unfold U32 bits
  have h : ∀ n : Int, 0 ≤ IntKind.u32.wrap n ∧ IntKind.u32.wrap n ≤ 4294967295 := fun n => by
    simp [IntKind.wrap, IntKind.bits, IntKind.signed]; omega
  split <;> exact h _
theorem u32_rot (x i : Int) : U32 (rot x i) := u32_bits _ _ _

theorem leftRotate_any (p : Value) (x i : Int) (w : World) (hi : 0 ≤ i) :
    Calls Try.prog 44 #[p, .int .u32 x, .int .u32 i] w fun e w' => e = .returned (.int .u32 (rot x i)) ∧ w = w' := by
  go_enter Try.func44, Try.ntmps44
  go_wp2
  go_ret
  exact ⟨rfl, rfl⟩

theorem rotate_any (x i : Int) (w : World) (hi : 0 ≤ i) :
    Calls Try.prog 36 #[.int .u32 x, .int .i64 i] w fun e w' => e = .returned (.int .u32 (rot x i)) ∧ ∃ n, w' = w.drewN n := by
  go_enter Try.func36, Try.ntmps36
  go_wp2
  go_quiet (fail)
  go_wp2
  go_ret
  exact ⟨rfl, _, rfl⟩
theorem ip1_any (p : Value) (x : Int) (w : World) :
    Calls Try.prog 43 #[p, .int .u32 x] w fun e w' => e = .returned (.int .u32 (pp1 x)) ∧ w = w' := by
  go_enter Try.func43, Try.ntmps43
  go_wp2_with (go_at_call 44; refine (leftRotate_any _ _ _ _ (by omega)).mono ?_; rintro e w' ⟨rfl, rfl⟩)
  go_ret
  exact ⟨rfl, rfl⟩
theorem ip0_any (p : Value) (x : Int) (w : World) :
    Calls Try.prog 47 #[p, .int .u32 x] w fun e w' => e = .returned (.int .u32 (pp0 x)) ∧ w = w' := by
  go_enter Try.func47, Try.ntmps47
  go_wp2_with (go_at_call 44; refine (leftRotate_any _ _ _ _ (by omega)).mono ?_; rintro e w' ⟨rfl, rfl⟩)
  go_ret
  exact ⟨rfl, rfl⟩
theorem sp1_any (x : Int) (w : World) :
    Calls Try.prog 35 #[.int .u32 x] w fun e w' => e = .returned (.int .u32 (pp1 x)) ∧ ∃ n, w' = w.drewN n := by
  go_enter Try.func35, Try.ntmps35
  go_wp2_with (go_at_call 36; refine (rotate_any _ _ _ (by omega)).mono ?_; rintro e w' ⟨rfl, n, rfl⟩)
  go_ret
  exact ⟨rfl, _, rfl⟩
theorem sp0_any (x : Int) (w : World) :
    Calls Try.prog 37 #[.int .u32 x] w fun e w' => e = .returned (.int .u32 (pp0 x)) ∧ ∃ n, w' = w.drewN n := by
  go_enter Try.func37, Try.ntmps37
  go_wp2_with (go_at_call 36; refine (rotate_any _ _ _ (by omega)).mono ?_; rintro e w' ⟨rfl, n, rfl⟩)
  go_ret
  exact ⟨rfl, _, rfl⟩
def xor3 (x y z : Int) : Int := bits .xor .u32 (bits .xor .u32 x y) z
theorem ff0_any (p : Value) (x y z : Int) (w : World) :
    Calls Try.prog 45 #[p, .int .u32 x, .int .u32 y, .int .u32 z] w fun e w' => e = .returned (.int .u32 (xor3 x y z)) ∧ w = w' := by
  go_enter Try.func45, Try.ntmps45
  go_wp2
  go_ret
  exact ⟨rfl, rfl⟩
theorem gg0_any (p : Value) (x y z : Int) (w : World) :
    Calls Try.prog 46 #[p, .int .u32 x, .int .u32 y, .int .u32 z] w fun e w' => e = .returned (.int .u32 (xor3 x y z)) ∧ w = w' := by
  go_enter Try.func46, Try.ntmps46
  go_wp2
  go_ret
  exact ⟨rfl, rfl⟩
def maj (x y z : Int) : Int := bits .or .u32 (bits .or .u32 (bits .and .u32 x y) (bits .and .u32 x z)) (bits .and .u32 y z)
theorem ff1_any (p : Value) (x y z : Int) (w : World) :
    Calls Try.prog 48 #[p, .int .u32 x, .int .u32 y, .int .u32 z] w fun e w' => e = .returned (.int .u32 (maj x y z)) ∧ w = w' := by
  go_enter Try.func48, Try.ntmps48
  go_wp2
  go_ret
  exact ⟨rfl, rfl⟩
def cho (x y z : Int) : Int := bits .or .u32 (bits .and .u32 x y) (bits .and .u32 (bits .xor .u32 IntKind.u32.max x) z)
theorem gg1_any (p : Value) (x y z : Int) (w : World) :
    Calls Try.prog 49 #[p, .int .u32 x, .int .u32 y, .int .u32 z] w fun e w' => e = .returned (.int .u32 (cho x y z)) ∧ w = w' := by
  have hs : IntKind.u32.signed = false := rfl
  go_enter Try.func49, Try.ntmps49
  go_wp2
  go_ret
  exact ⟨rfl, rfl⟩

/-- A word of four bytes, the highest first. -/
def wd (b0 b1 b2 b3 : Int) : Int := bits .or .u32 (bits .or .u32 (bits .or .u32 (b0 * 16777216) (b1 * 65536)) (b2 * 256)) b3

theorem u32_of_bv (x y : BitVec 32) (op : BitVec 32 → BitVec 32 → BitVec 32) : BitVec.ofInt 32 (IntKind.u32.wrap ((op x y).toNat : Int)) = op x y := by
  rw [IntKind.wrap_u32']
  generalize op x y = z
  apply BitVec.eq_of_toNat_eq
  have := z.isLt
  simp
  omega
theorem bits_or_bv (x y : Int) : BitVec.ofInt 32 (bits .or .u32 x y) = BitVec.ofInt 32 x ||| BitVec.ofInt 32 y := u32_of_bv _ _ (· ||| ·)
theorem or_comm32 (x y : Int) : bits .or .u32 x y = bits .or .u32 y x := by
  show IntKind.u32.wrap ((BitVec.ofInt 32 x ||| BitVec.ofInt 32 y).toNat : Int) = IntKind.u32.wrap ((BitVec.ofInt 32 y ||| BitVec.ofInt 32 x).toNat : Int)
  rw [BitVec.or_comm]
theorem or_assoc32 (x y z : Int) : bits .or .u32 (bits .or .u32 x y) z = bits .or .u32 x (bits .or .u32 y z) := by
  show IntKind.u32.wrap ((BitVec.ofInt 32 (bits .or .u32 x y) ||| BitVec.ofInt 32 z).toNat : Int) = IntKind.u32.wrap ((BitVec.ofInt 32 x ||| BitVec.ofInt 32 (bits .or .u32 y z)).toNat : Int)
  rw [bits_or_bv, bits_or_bv, BitVec.or_assoc]
theorem wd_low (b0 b1 b2 b3 : Int) : bits .or .u32 (bits .or .u32 (bits .or .u32 b3 (b2 * 256)) (b1 * 65536)) (b0 * 16777216) = wd b0 b1 b2 b3 := by
  unfold wd
  rw [or_comm32 _ (b0 * 16777216), or_comm32 _ (b1 * 65536), or_comm32 b3, or_assoc32, or_assoc32]

theorem word_any (g o n c : Nat) (b0 b1 b2 b3 : Int) (w : World) (hn : 4 ≤ n) (hb0 : 0 ≤ b0 ∧ b0 ≤ 255) (hb1 : 0 ≤ b1 ∧ b1 ≤ 255) (hb2 : 0 ≤ b2 ∧ b2 ≤ 255) (hb3 : 0 ≤ b3 ∧ b3 ≤ 255)
    (h0 : w.cell? ⟨g, o, none⟩ = some (.int .u8 b0)) (h1 : w.cell? ⟨g, o + 1, none⟩ = some (.int .u8 b1)) (h2 : w.cell? ⟨g, o + 2, none⟩ = some (.int .u8 b2)) (h3 : w.cell? ⟨g, o + 3, none⟩ = some (.int .u8 b3)) :
    Calls Try.prog 34 #[.slice (some ⟨g, o, none⟩) n c] w fun e w' => e = .returned (.int .u32 (wd b0 b1 b2 b3)) ∧ ∃ m, w' = w.drewN m := by
  have i0 : (0 : Int) < (n : Int) := by omega
  have i1 : (1 : Int) < (n : Int) := by omega
  have i2 : (2 : Int) < (n : Int) := by omega
  have i3 : (3 : Int) < (n : Int) := by omega
  go_enter Try.func34, Try.ntmps34
  go_wp2
  go_quiet (fail)
  go_wp2
  go_ret
  exact ⟨rfl, _, rfl⟩
theorem uint32_any (g o n c : Nat) (b0 b1 b2 b3 : Int) (w : World) (hn : 4 ≤ n) (hb0 : 0 ≤ b0 ∧ b0 ≤ 255) (hb1 : 0 ≤ b1 ∧ b1 ≤ 255) (hb2 : 0 ≤ b2 ∧ b2 ≤ 255) (hb3 : 0 ≤ b3 ∧ b3 ≤ 255) (hg : g < w.heap.size)
    (h0 : w.cell? ⟨g, o, none⟩ = some (.int .u8 b0)) (h1 : w.cell? ⟨g, o + 1, none⟩ = some (.int .u8 b1)) (h2 : w.cell? ⟨g, o + 2, none⟩ = some (.int .u8 b2)) (h3 : w.cell? ⟨g, o + 3, none⟩ = some (.int .u8 b3)) :
    Calls Try.prog 42 #[.agg #[], .slice (some ⟨g, o, none⟩) n c] w fun e w' => e = .returned (.int .u32 (wd b0 b1 b2 b3)) ∧ Below w.heap.size w w' := by
  have i0 : (0 : Int) < (n : Int) := by omega
  have i1 : (1 : Int) < (n : Int) := by omega
  have i2 : (2 : Int) < (n : Int) := by omega
  have i3 : (3 : Int) < (n : Int) := by omega
  have k0 := fun o1 => (World.cell?_alloc_lt w o1 ⟨g, o, none⟩ hg).trans h0
  have k1 := fun o1 => (World.cell?_alloc_lt w o1 ⟨g, o + 1, none⟩ hg).trans h1
  have k2 := fun o1 => (World.cell?_alloc_lt w o1 ⟨g, o + 2, none⟩ hg).trans h2
  have k3 := fun o1 => (World.cell?_alloc_lt w o1 ⟨g, o + 3, none⟩ hg).trans h3
  go_enter Try.func42, Try.ntmps42
  go_wp2
  go_quiet (fail)
  go_wp2
  go_ret
  exact ⟨by rw [← wd_low]; rfl, below_drewN ((Below.refl _ _).alloc (Nat.le_refl _) _) _⟩
theorem bytesOf_any (x : Int) (w : World) (hx : 0 ≤ x ∧ x ≤ 4294967295) :
    Calls Try.prog 23 #[.int .u32 x] w fun e w' => e = .returned (.slice (some ⟨w.heap.size, 0, none⟩) 4 4) ∧
      w.alloc (.cells #[.int .u8 (x / 16777216), .int .u8 (x / 65536 % 256), .int .u8 (x / 256 % 256), .int .u8 (x % 256)] 5) = w' := by
  go_enter Try.func23, Try.ntmps23
  go_wp2
  go_ret
  exact ⟨rfl, rfl⟩
end Go.Proofs.Ytmhjbkkbbhioeaa
