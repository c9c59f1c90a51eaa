/- The package's tables, whatever they hold; the words of a round; a block out of bytes and into bytes. No condition but that the tables' cells are numbers of their kinds. -/
import Derived.Test.YteioblloppcjoaaDoorArr
import Derived.Test.YteioblloppcjoaaDoorTail
import Derived.LoopTactic
import Derived.Lib.Hide
import Derived.BigQuiet
import Derived.Deep.QuietTactic
namespace Go.Proofs.YteioblloppcjoaaDoor
set_option maxRecDepth 100000
open Go.RowKit

/-- A word of 32 bits. -/
def U32 (x : Int) : Prop := 0 ≤ x ∧ x ≤ 4294967295
theorem u32_bits (op : BinOp) (x y : Int) : U32 (bits op .u32 x y) := by
  unfold U32 bits
  have h : ∀ n : Int, 0 ≤ IntKind.u32.wrap n ∧ IntKind.u32.wrap n ≤ 4294967295 := fun n => by
    simp [IntKind.wrap, IntKind.bits, IntKind.signed]; omega
  split <;> exact h _

theorem and255 (y : Int) : 0 ≤ bits .and .u32 y 255 ∧ bits .and .u32 y 255 < 256 := by
  have e : bits .and .u32 y 255 = IntKind.u32.wrap ((BitVec.ofInt 32 y &&& BitVec.ofInt 32 255).toNat : Int) := rfl
  have h : (BitVec.ofInt 32 y &&& BitVec.ofInt 32 255).toNat ≤ 255 := by
    rw [BitVec.toNat_and]
    exact Nat.le_trans Nat.and_le_right (by decide)
  rw [e]
  generalize (BitVec.ofInt 32 y &&& BitVec.ofInt 32 255).toNat = m at h
  simp [IntKind.wrap, IntKind.bits, IntKind.signed]
  omega
/-- The package's tables: each cell is a number of its kind. -/
structure Tabs (w : World) : Prop where
  fk : ∀ j, j < 4 → ∃ x, U32 x ∧ w.cell? ⟨0, j, none⟩ = some (.int .u32 x)
  ck : ∀ j, j < 32 → ∃ x, U32 x ∧ w.cell? ⟨1, j, none⟩ = some (.int .u32 x)
  s0 : ∀ j, j < 256 → ∃ x, U32 x ∧ w.cell? ⟨2, j, none⟩ = some (.int .u32 x)
  s1 : ∀ j, j < 256 → ∃ x, U32 x ∧ w.cell? ⟨3, j, none⟩ = some (.int .u32 x)
  s2 : ∀ j, j < 256 → ∃ x, U32 x ∧ w.cell? ⟨4, j, none⟩ = some (.int .u32 x)
  s3 : ∀ j, j < 256 → ∃ x, U32 x ∧ w.cell? ⟨5, j, none⟩ = some (.int .u32 x)
  sb : ∀ j, j < 256 → ∃ x, (0 ≤ x ∧ x ≤ 255) ∧ w.cell? ⟨6, j, none⟩ = some (.int .u8 x)
theorem Tabs.keep {w w' : World} (h : Tabs w) (hk : ∀ p : Addr, p.block < 7 → w'.cell? p = w.cell? p) : Tabs w' :=
  ⟨fun j hj => let ⟨x, hx, hc⟩ := h.fk j hj; ⟨x, hx, (hk _ (by simp)).trans hc⟩, fun j hj => let ⟨x, hx, hc⟩ := h.ck j hj; ⟨x, hx, (hk _ (by simp)).trans hc⟩,
   fun j hj => let ⟨x, hx, hc⟩ := h.s0 j hj; ⟨x, hx, (hk _ (by simp)).trans hc⟩, fun j hj => let ⟨x, hx, hc⟩ := h.s1 j hj; ⟨x, hx, (hk _ (by simp)).trans hc⟩,
   fun j hj => let ⟨x, hx, hc⟩ := h.s2 j hj; ⟨x, hx, (hk _ (by simp)).trans hc⟩, fun j hj => let ⟨x, hx, hc⟩ := h.s3 j hj; ⟨x, hx, (hk _ (by simp)).trans hc⟩,
   fun j hj => let ⟨x, hx, hc⟩ := h.sb j hj; ⟨x, hx, (hk _ (by simp)).trans hc⟩⟩
theorem Tabs.below {w w' : World} {B : Nat} (h : Tabs w) (hb : Below B w w') (hB : 7 ≤ B) : Tabs w' := h.keep fun p hp => hb.cell (by omega)

/-- Some word comes back; the world is the same; or drawn from. -/
def SomeU (w : World) (e : Ending) (w' : World) : Prop := ∃ y, U32 y ∧ e = .returned (.int .u32 y) ∧ w = w'
def SomeUd (w : World) (e : Ending) (w' : World) : Prop := ∃ y, U32 y ∧ e = .returned (.int .u32 y) ∧ ∃ n, w' = w.drewN n

theorem rl_any (x i : Int) (w : World) (hi : 0 ≤ i) (hi2 : i ≤ 31) :
    Calls Tryd.prog 34 #[.int .u32 x, .int .u8 i] w (SomeU w) := by
  go_enter Tryd.func34, Tryd.ntmps34
  go_wp2
  go_ret
  exact ⟨_, u32_bits _ _ _, rfl, rfl⟩
theorem l0_any (x : Int) (w : World) :
    Calls Tryd.prog 28 #[.int .u32 x] w (SomeU w) := by
  go_enter Tryd.func28, Tryd.ntmps28
  go_wp2_with (go_at_call 34; refine (rl_any _ _ _ (by omega) (by omega)).mono ?_; rintro e w' ⟨y, hy, rfl, rfl⟩)
  go_ret
  exact ⟨_, u32_bits _ _ _, rfl, rfl⟩
theorem p_any (x : Int) (w : World) (hx : U32 x) (ht : Tabs w) :
    Calls Tryd.prog 29 #[.int .u32 x] w (SomeUd w) := by
  unfold U32 at hx
  have a1 := and255 (x / 65536)
  have a2 := and255 (x / 256)
  have a3 := and255 x
  obtain ⟨x0, b0, c0⟩ := ht.sb (x / 16777216).toNat (by omega)
  obtain ⟨x1, b1, c1⟩ := ht.sb (bits .and .u32 (x / 65536) 255).toNat (by omega)
  obtain ⟨x2, b2, c2⟩ := ht.sb (bits .and .u32 (x / 256) 255).toNat (by omega)
  obtain ⟨x3, b3, c3⟩ := ht.sb (bits .and .u32 x 255).toNat (by omega)
  clear ht
  have l0 : x / 16777216 < 256 := by omega
  have l1 : 0 ≤ x / 16777216 := by omega
  go_enter Tryd.func29, Tryd.ntmps29
  go_wp2
  go_quiet (fail)
  go_wp2
  go_ret
  exact ⟨_, u32_bits _ _ _, rfl, _, rfl⟩
theorem feistel0_any (x0 x1 x2 x3 x4 : Int) (w : World) (ht : Tabs w) :
    Calls Tryd.prog 25 #[.int .u32 x0, .int .u32 x1, .int .u32 x2, .int .u32 x3, .int .u32 x4] w (SomeUd w) := by
  go_enter Tryd.func25, Tryd.ntmps25
  go_wp2_with (first | (go_at_call 29; refine (p_any _ _ (u32_bits _ _ _) ht).mono ?_; rintro e w' ⟨y, hy, rfl, n, rfl⟩) | (go_at_call 28; refine (l0_any _ _).mono ?_; rintro e w' ⟨z, hz, rfl, rfl⟩))
  go_ret
  exact ⟨_, u32_bits _ _ _, rfl, n, rfl⟩
end Go.Proofs.YteioblloppcjoaaDoor
