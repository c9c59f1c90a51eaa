/- The package's tables as they are laid; the words of a round, exactly. No condition. -/
import Derived.Test.YtkfagcpboehjjaaDoorArr
import Derived.Test.YtkfagcpboehjjaaDoorTail
import Derived.Test.YtkfagcpboehjjaaDoorPlain
import Derived.LoopTactic
import Derived.Lib.Hide
import Derived.BigQuiet
import Derived.Deep.QuietTactic
namespace Go.Proofs.YtkfagcpboehjjaaDoor
set_option maxRecDepth 100000
open Go.RowKit

theorem u8_bits (op : BinOp) (x y : Int) : 0 ≤ bits op .u8 x y ∧ bits op .u8 x y ≤ 255 := by
  unfold bits
  have h : ∀ n : Int, 0 ≤ IntKind.u8.wrap n ∧ IntKind.u8.wrap n ≤ 255 := fun n => by
    simp [IntKind.wrap, IntKind.bits, IntKind.signed]; omega
  split <;> exact h _
theorem and255_eq {y : Int} (hy : U32 y) : bits .and .u32 y 255 = y % 256 := by
  obtain ⟨m, rfl⟩ : ∃ m : Nat, y = m := ⟨y.toNat, by unfold U32 at hy; omega⟩
  have hm : m < 4294967296 := by unfold U32 at hy; omega
  have e : bits .and .u32 (m : Int) 255 = IntKind.u32.wrap ((BitVec.ofInt 32 (m : Int) &&& BitVec.ofInt 32 255).toNat : Int) := rfl
  have h1 : (BitVec.ofInt 32 (m : Int) &&& BitVec.ofInt 32 255).toNat = m % 256 := by
    rw [BitVec.toNat_and, show (BitVec.ofInt 32 255).toNat = 2 ^ 8 - 1 from rfl, Nat.and_two_pow_sub_one_eq_mod, show BitVec.ofInt 32 (m : Int) = BitVec.ofNat 32 m by simp, BitVec.toNat_ofNat, Nat.mod_eq_of_lt hm]
  rw [e, h1, IntKind.wrap_u32']
  omega
theorem getD_lt {l : List Int} {n : Nat} (hl : l.length = n) (h : (l.all fun x => decide (0 ≤ x ∧ x ≤ 4294967295)) = true) (j : Nat) (hj : j < n) : U32 (l.getD j 0) := by
  rw [List.getD_eq_getElem?_getD, List.getElem?_eq_getElem (by omega)]
  have hj' : j < l.length := by omega
  have h1 := List.all_eq_true.1 h l[j] (List.getElem_mem hj')
  simpa [U32] using h1
theorem FK_u32 (j : Nat) (hj : j < 4) : U32 (FK.getD j 0) := getD_lt (n := 4) rfl (by kernel_rfl) j hj
theorem CK_u32 (j : Nat) (hj : j < 32) : U32 (CK.getD j 0) := getD_lt (n := 32) (by kernel_rfl) (by kernel_rfl) j hj

/-- The package's tables hold what its text lays. -/
structure Tabs (w : World) : Prop where
  fk : ∀ j, j < 4 → w.cell? ⟨0, j, none⟩ = some (.int .u32 (FK.getD j 0))
  ck : ∀ j, j < 32 → w.cell? ⟨1, j, none⟩ = some (.int .u32 (CK.getD j 0))
  s0 : ∀ j, j < 256 → w.cell? ⟨2, j, none⟩ = some (.int .u32 (T0.getD j 0))
  s1 : ∀ j, j < 256 → w.cell? ⟨3, j, none⟩ = some (.int .u32 (T1.getD j 0))
  s2 : ∀ j, j < 256 → w.cell? ⟨4, j, none⟩ = some (.int .u32 (T2.getD j 0))
  s3 : ∀ j, j < 256 → w.cell? ⟨5, j, none⟩ = some (.int .u32 (T3.getD j 0))
  sb : ∀ j, j < 256 → w.cell? ⟨6, j, none⟩ = some (.int .u8 (SB.getD j 0))
theorem Tabs.keep {w w' : World} (h : Tabs w) (hk : ∀ p : Addr, p.block < 7 → w'.cell? p = w.cell? p) : Tabs w' :=
  ⟨fun j hj => (hk _ (by simp)).trans (h.fk j hj), fun j hj => (hk _ (by simp)).trans (h.ck j hj), fun j hj => (hk _ (by simp)).trans (h.s0 j hj), fun j hj => (hk _ (by simp)).trans (h.s1 j hj),
   fun j hj => (hk _ (by simp)).trans (h.s2 j hj), fun j hj => (hk _ (by simp)).trans (h.s3 j hj), fun j hj => (hk _ (by simp)).trans (h.sb j hj)⟩
theorem Tabs.below {w w' : World} {B : Nat} (h : Tabs w) (hb : Below B w w') (hB : 7 ≤ B) : Tabs w' := h.keep fun p hp => hb.cell (by omega)

def rl13 (x : Int) : Int := bits .or .u32 (x * 8192 % 4294967296) (x / 524288)
def rl23 (x : Int) : Int := bits .or .u32 (x * 8388608 % 4294967296) (x / 512)
theorem rl13_eq (x : Int) : rl13 x = rot x 13 := rfl
theorem rl23_eq (x : Int) : rl23 x = rot x 23 := rfl
theorem rl13_any (x : Int) (w : World) : Calls Tryd.prog 77 #[.int .u32 x, .int .u8 13] w fun e w' => e = .returned (.int .u32 (rl13 x)) ∧ w = w' := by
  go_enter Tryd.func77, Tryd.ntmps77
  go_wp2
  go_ret
  exact ⟨rfl, rfl⟩
theorem rl23_any (x : Int) (w : World) : Calls Tryd.prog 77 #[.int .u32 x, .int .u8 23] w fun e w' => e = .returned (.int .u32 (rl23 x)) ∧ w = w' := by
  go_enter Tryd.func77, Tryd.ntmps77
  go_wp2
  go_ret
  exact ⟨rfl, rfl⟩
def l0V (x : Int) : Int := bits .xor .u32 (bits .xor .u32 x (rl13 x)) (rl23 x)
theorem l0_any (x : Int) (w : World) : Calls Tryd.prog 67 #[.int .u32 x] w fun e w' => e = .returned (.int .u32 (l0V x)) ∧ w = w' := by
  go_enter Tryd.func67, Tryd.ntmps67
  go_wp2_with fail
  refine (rl13_any _ _).mono ?_
  rintro e w' ⟨rfl, rfl⟩
  go_wp2_with fail
  refine (rl23_any _ _).mono ?_
  rintro e w' ⟨rfl, rfl⟩
  go_wp2_with fail
  go_ret
  exact ⟨rfl, rfl⟩
def pV (x0 x1 x2 x3 : Int) : Int := bits .xor .u32 (bits .xor .u32 (bits .xor .u32 (x0 * 16777216) (x1 * 65536)) (x2 * 256)) x3
theorem p_any (x : Int) (w : World) (hx : U32 x) (ht : Tabs w) : Calls Tryd.prog 68 #[.int .u32 x] w fun e w' => e = .returned (.int .u32 (pI x)) ∧ ∃ n, w' = w.drewN n := by
  have hx' := hx
  unfold U32 at hx
  have a1 := and255_eq (y := x / 65536) (by unfold U32; omega)
  have a2 := and255_eq (y := x / 256) (by unfold U32; omega)
  have a3 := and255_eq hx'
  obtain ⟨i0, q0⟩ : ∃ i : Int, i = x / 16777216 := ⟨_, rfl⟩
  obtain ⟨i1, q1⟩ : ∃ i : Int, i = bits .and .u32 (x / 65536) 255 := ⟨_, rfl⟩
  obtain ⟨i2, q2⟩ : ∃ i : Int, i = bits .and .u32 (x / 256) 255 := ⟨_, rfl⟩
  obtain ⟨i3, q3⟩ : ∃ i : Int, i = bits .and .u32 x 255 := ⟨_, rfl⟩
  have c0 := ht.sb i0.toNat (by omega)
  have c1 := ht.sb i1.toNat (by omega)
  have c2 := ht.sb i2.toNat (by omega)
  have c3 := ht.sb i3.toNat (by omega)
  have k0 := Sx_byte i0
  have k1 := Sx_byte i1
  have k2 := Sx_byte i2
  have k3 := Sx_byte i3
  have hv : pV (Sx i0) (Sx i1) (Sx i2) (Sx i3) = pI x := by rw [q0, q1, q2, q3, a1, a2, a3]; rfl
  have HV := Lib.hid hv
  unfold Sx at k0 k1 k2 k3 HV
  generalize SB.getD i0.toNat 0 = b0 at *
  generalize SB.getD i1.toNat 0 = b1 at *
  generalize SB.getD i2.toNat 0 = b2 at *
  generalize SB.getD i3.toNat 0 = b3 at *
  have l0 : i0 < 256 := by omega
  have m0 : 0 ≤ i0 := by omega
  have l1 : i1 < 256 := by omega
  have m1 : 0 ≤ i1 := by omega
  have l2 : i2 < 256 := by omega
  have m2 : 0 ≤ i2 := by omega
  have l3 : i3 < 256 := by omega
  have m3 : 0 ≤ i3 := by omega
  obtain ⟨z0, z0'⟩ := k0
  obtain ⟨z1, z1'⟩ := k1
  obtain ⟨z2, z2'⟩ := k2
  obtain ⟨z3, z3'⟩ := k3
  have r0 := q0.symm
  have r1 := q1.symm
  have r2 := q2.symm
  have r3 := q3.symm
  clear ht q0 q1 q2 q3 a1 a2 a3 hv
  go_enter Tryd.func68, Tryd.ntmps68
  go_wp2
  go_quiet (fail)
  go_wp2
  go_ret
  exact ⟨by rw [← HV.out]; rfl, _, rfl⟩
def feV (x y : Int) : Int := bits .xor .u32 x (l0V (pI y))
theorem feV_eq (x y : Int) : feV x y = keyI x y := rfl
theorem feistel0_any (x0 x1 x2 x3 x4 : Int) (w : World) (ht : Tabs w) :
    Calls Tryd.prog 55 #[.int .u32 x0, .int .u32 x1, .int .u32 x2, .int .u32 x3, .int .u32 x4] w fun e w' => e = .returned (.int .u32 (keyI x0 (xr (xr (xr x1 x2) x3) x4))) ∧ ∃ n, w' = w.drewN n := by
  go_enter Tryd.func55, Tryd.ntmps55
  go_wp2_with fail
  refine (p_any _ _ (u32_bits _ _ _) ht).mono ?_
  rintro e w' ⟨rfl, n, rfl⟩
  go_wp2_with fail
  refine (l0_any _ _).mono ?_
  rintro e w' ⟨rfl, rfl⟩
  go_wp2_with fail
  go_ret
  exact ⟨rfl, n, rfl⟩
end Go.Proofs.YtkfagcpboehjjaaDoor
