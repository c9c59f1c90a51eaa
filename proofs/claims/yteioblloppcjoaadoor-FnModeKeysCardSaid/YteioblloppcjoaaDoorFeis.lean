/- A step of the keys: one word, whatever the order. No condition but that the tables' cells are numbers of their kinds. -/
import Derived.Test.YteioblloppcjoaaDoorPerm
namespace Go.Proofs.YteioblloppcjoaaDoor
set_option maxRecDepth 100000
open Go.RowKit

def rl13 (x : Int) : Int := bits .or .u32 (x * 8192 % 4294967296) (x / 524288)
def rl23 (x : Int) : Int := bits .or .u32 (x * 8388608 % 4294967296) (x / 512)
def l0V (x : Int) : Int := bits .xor .u32 (bits .xor .u32 x (rl13 x)) (rl23 x)
def pV (x0 x1 x2 x3 : Int) : Int := bits .xor .u32 (bits .xor .u32 (bits .xor .u32 (x0 * 16777216) (x1 * 65536)) (x2 * 256)) x3

theorem rl13_any (x : Int) (w : World) : Calls Tryd.prog 34 #[.int .u32 x, .int .u8 13] w fun e w' => e = .returned (.int .u32 (rl13 x)) ∧ w = w' := by
  go_enter Tryd.func34, Tryd.ntmps34
  go_wp2
  go_ret
  exact ⟨rfl, rfl⟩
theorem rl23_any (x : Int) (w : World) : Calls Tryd.prog 34 #[.int .u32 x, .int .u8 23] w fun e w' => e = .returned (.int .u32 (rl23 x)) ∧ w = w' := by
  go_enter Tryd.func34, Tryd.ntmps34
  go_wp2
  go_ret
  exact ⟨rfl, rfl⟩
theorem l0_ex (x : Int) (w : World) : Calls Tryd.prog 28 #[.int .u32 x] w fun e w' => e = .returned (.int .u32 (l0V x)) ∧ w = w' := by
  go_enter Tryd.func28, Tryd.ntmps28
  go_wp2_with fail
  refine (rl13_any _ _).mono ?_
  rintro e w' ⟨rfl, rfl⟩
  go_wp2_with fail
  refine (rl23_any _ _).mono ?_
  rintro e w' ⟨rfl, rfl⟩
  go_wp2_with fail
  go_ret
  exact ⟨rfl, rfl⟩
theorem p_ex (x : Int) (w : World) (hx : U32 x) (ht : Tabs w) : ∃ y, U32 y ∧ ∀ k, Calls Tryd.prog 29 #[.int .u32 x] (w.drewN k) fun e w' => e = .returned (.int .u32 y) ∧ ∃ n, w' = (w.drewN k).drewN n := by
  unfold U32 at hx
  have a1 := and255 (x / 65536)
  have a2 := and255 (x / 256)
  have a3 := and255 x
  obtain ⟨x0, ⟨b0, b0'⟩, c0⟩ := ht.sb (x / 16777216).toNat (by omega)
  obtain ⟨x1, ⟨b1, b1'⟩, c1⟩ := ht.sb (bits .and .u32 (x / 65536) 255).toNat (by omega)
  obtain ⟨x2, ⟨b2, b2'⟩, c2⟩ := ht.sb (bits .and .u32 (x / 256) 255).toNat (by omega)
  obtain ⟨x3, ⟨b3, b3'⟩, c3⟩ := ht.sb (bits .and .u32 x 255).toNat (by omega)
  clear ht
  have l0 : x / 16777216 < 256 := by omega
  have l1 : 0 ≤ x / 16777216 := by omega
  refine ⟨pV x0 x1 x2 x3, u32_bits _ _ _, fun k => ?_⟩
  go_enter Tryd.func29, Tryd.ntmps29
  go_wp2
  go_quiet (fail)
  go_wp2
  go_ret
  exact ⟨rfl, _, rfl⟩
theorem feistel0_ex (x0 x1 x2 x3 x4 : Int) (w : World) (ht : Tabs w) :
    ∃ y, U32 y ∧ ∀ k, Calls Tryd.prog 25 #[.int .u32 x0, .int .u32 x1, .int .u32 x2, .int .u32 x3, .int .u32 x4] (w.drewN k) fun e w' => e = .returned (.int .u32 y) ∧ ∃ n, w' = (w.drewN k).drewN n := by
  obtain ⟨y, hy, hc⟩ := p_ex (bits .xor .u32 (bits .xor .u32 (bits .xor .u32 x1 x2) x3) x4) w (u32_bits _ _ _) ht
  refine ⟨bits .xor .u32 x0 (l0V y), u32_bits _ _ _, fun k => ?_⟩
  go_enter Tryd.func25, Tryd.ntmps25
  go_wp2_with fail
  refine (hc k).mono ?_
  rintro e w' ⟨rfl, n, rfl⟩
  go_wp2_with fail
  refine (l0_ex y _).mono ?_
  rintro e w' ⟨rfl, rfl⟩
  go_wp2_with fail
  go_ret
  exact ⟨rfl, n, by simp⟩
end Go.Proofs.YteioblloppcjoaaDoor
