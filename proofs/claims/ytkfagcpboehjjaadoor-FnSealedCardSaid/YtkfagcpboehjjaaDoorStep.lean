/- The plain side of a round: the four tables' words, four steps. No condition. -/
import Derived.Test.YtkfagcpboehjjaaDoorCopy
namespace Go.Proofs.YtkfagcpboehjjaaDoor
set_option maxRecDepth 100000
open Go.RowKit

theorem u32_stepI (a b : Int) : U32 (stepI a b) := u32_xr _ _
/-- What a step reads of the four tables. -/
theorem tab_facts {w : World} (ht : Tabs w) {x : Int} (hx : U32 x) : ∃ t0 t1 t2 t3 : Int,
    (w.cell? ⟨2, (bits .and .u32 x 255).toNat, none⟩ = some (.int .u32 t0) ∧ w.cell? ⟨3, (bits .and .u32 (x / 256) 255).toNat, none⟩ = some (.int .u32 t1) ∧ w.cell? ⟨4, (bits .and .u32 (x / 65536) 255).toNat, none⟩ = some (.int .u32 t2) ∧ w.cell? ⟨5, (bits .and .u32 (x / 16777216) 255).toNat, none⟩ = some (.int .u32 t3)) ∧
    (0 ≤ bits .and .u32 x 255 ∧ 0 ≤ bits .and .u32 (x / 256) 255 ∧ 0 ≤ bits .and .u32 (x / 65536) 255 ∧ 0 ≤ bits .and .u32 (x / 16777216) 255) ∧
    (bits .and .u32 x 255 < 256 ∧ bits .and .u32 (x / 256) 255 < 256 ∧ bits .and .u32 (x / 65536) 255 < 256 ∧ bits .and .u32 (x / 16777216) 255 < 256) ∧
    Hid (∀ v, bits .xor .u32 (bits .xor .u32 (bits .xor .u32 (bits .xor .u32 v t0) t1) t2) t3 = stepI v x) := by
  have hx' := hx
  unfold U32 at hx'
  have a0 := and255_eq hx
  have a1 := and255_eq (y := x / 256) (by unfold U32; omega)
  have a2 := and255_eq (y := x / 65536) (by unfold U32; omega)
  have a3 := and255_eq (y := x / 16777216) (by unfold U32; omega)
  have e3 : x / 16777216 % 256 = x / 16777216 := by omega
  rw [a0, a1, a2, a3]
  refine ⟨T0.getD (x % 256).toNat 0, T1.getD (x / 256 % 256).toNat 0, T2.getD (x / 65536 % 256).toNat 0, T3.getD (x / 16777216 % 256).toNat 0, ⟨ht.s0 _ (by omega), ht.s1 _ (by omega), ht.s2 _ (by omega), ht.s3 _ (by omega)⟩, ⟨by omega, by omega, by omega, by omega⟩, ⟨by omega, by omega, by omega, by omega⟩, Lib.hid fun v => ?_⟩
  rw [e3]
  rfl

theorem perm1 (a b c d : Int) : xr (xr (xr a b) c) d = xr (xr (xr b c) a) d := by
  congr 1
  rw [xr_comm (xr b c) a, ← xr_assoc]
theorem perm2 (a b c d : Int) : xr (xr (xr a b) c) d = xr (xr (xr c a) b) d := by
  congr 1
  rw [xr_comm (xr a b) c, xr_assoc]
/-- Four steps of the rounds. -/
theorem four_steps {x rk : Nat → Int} {k : Nat} {v0 v1 v2 v3 s0 s1 s2 s3 x0 x1 x2 x3 z0 z1 z2 z3 : Int}
    (h0 : v0 = fei stepI x rk (4 * k)) (h1 : v1 = fei stepI x rk (4 * k + 1)) (h2 : v2 = fei stepI x rk (4 * k + 2)) (h3 : v3 = fei stepI x rk (4 * k + 3))
    (k0 : s0 = rk (4 * k)) (k1 : s1 = rk (4 * k + 1)) (k2 : s2 = rk (4 * k + 2)) (k3 : s3 = rk (4 * k + 3))
    (a0 : x0 = xr (xr (xr v1 v2) v3) s0) (b0 : z0 = stepI v0 x0) (a1 : x1 = xr (xr (xr z0 v2) v3) s1) (b1 : z1 = stepI v1 x1)
    (a2 : x2 = xr (xr (xr z0 z1) v3) s2) (b2 : z2 = stepI v2 x2) (a3 : x3 = xr (xr (xr z1 z2) z0) s3) (b3 : z3 = stepI v3 x3) :
    z0 = fei stepI x rk (4 * (k + 1) + 0) ∧ z1 = fei stepI x rk (4 * (k + 1) + 1) ∧ z2 = fei stepI x rk (4 * (k + 1) + 2) ∧ z3 = fei stepI x rk (4 * (k + 1) + 3) := by
  have e0 : fei stepI x rk (4 * (k + 1) + 0) = z0 := by
    rw [show 4 * (k + 1) + 0 = 4 * k + 4 by omega, fei_next, ← h0, ← h1, ← h2, ← h3, ← k0, b0, a0]
  have e1 : fei stepI x rk (4 * (k + 1) + 1) = z1 := by
    rw [show 4 * (k + 1) + 1 = 4 * k + 1 + 4 by omega, fei_next, show 4 * k + 1 + 1 = 4 * k + 2 by omega, show 4 * k + 1 + 2 = 4 * k + 3 by omega, show 4 * k + 1 + 3 = 4 * (k + 1) + 0 by omega, e0, ← h1, ← h2, ← h3, ← k1, b1, a1, perm1 z0]
  have e2 : fei stepI x rk (4 * (k + 1) + 2) = z2 := by
    rw [show 4 * (k + 1) + 2 = 4 * k + 2 + 4 by omega, fei_next, show 4 * k + 2 + 1 = 4 * k + 3 by omega, show 4 * k + 2 + 2 = 4 * (k + 1) + 0 by omega, show 4 * k + 2 + 3 = 4 * (k + 1) + 1 by omega, e0, e1, ← h2, ← h3, ← k2, b2, a2, perm2 z0 z1 v3]
  have e3 : fei stepI x rk (4 * (k + 1) + 3) = z3 := by
    rw [show 4 * (k + 1) + 3 = 4 * k + 3 + 4 by omega, fei_next, show 4 * k + 3 + 1 = 4 * (k + 1) + 0 by omega, show 4 * k + 3 + 2 = 4 * (k + 1) + 1 by omega, show 4 * k + 3 + 3 = 4 * (k + 1) + 2 by omega, e0, e1, e2, ← h3, ← k3, b3, a3, perm1 z0 z1 z2]
  exact ⟨e0.symm, e1.symm, e2.symm, e3.symm⟩
end Go.Proofs.YtkfagcpboehjjaaDoor
