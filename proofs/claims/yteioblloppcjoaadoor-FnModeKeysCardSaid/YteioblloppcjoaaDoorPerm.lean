/- A block's words out of its bytes, its bytes out of its words. No condition but where things lie. -/
import Derived.Test.YteioblloppcjoaaDoorOnly
import Derived.IntWalk
namespace Go.Proofs.YteioblloppcjoaaDoor
set_option maxRecDepth 100000
open Go.RowKit

/-- Nothing comes back; only the blocks S have turned; R holds. -/
def Done (S : List Nat) (R : World → Prop) (w : World) (e : Ending) (w' : World) : Prop := e = .returned (.tuple #[]) ∧ Only S w w' ∧ R w'

/-- The four places of a word's bytes. -/
theorem quad (k n : Nat) (hk : k < 4) (hn : 16 ≤ n) : ∃ p0 p1 p2 p3 : Nat, IntKind.i64.wrap ((k : Int) * 4) = (p0 : Int) ∧ IntKind.i64.wrap ((p0 : Int) + 1) = (p1 : Int) ∧ IntKind.i64.wrap ((p0 : Int) + 2) = (p2 : Int) ∧ IntKind.i64.wrap ((p0 : Int) + 3) = (p3 : Int) ∧
    (p0 < 16 ∧ p1 < 16 ∧ p2 < 16 ∧ p3 < 16) ∧ (p0 : Int) < (n : Int) ∧ (p1 : Int) < (n : Int) ∧ (p2 : Int) < (n : Int) ∧ (p3 : Int) < (n : Int) :=
  ⟨4 * k, 4 * k + 1, 4 * k + 2, 4 * k + 3, by rw [IntWalk.i64_in _ (by omega)]; omega, by rw [IntWalk.i64_in _ (by omega)]; omega, by rw [IntWalk.i64_in _ (by omega)]; omega, by rw [IntWalk.i64_in _ (by omega)]; omega, by omega, by omega, by omega, by omega, by omega⟩

/-- They are four. -/
theorem quad_ne {k p0 p1 p2 p3 : Nat} (hk : k < 4) (e0 : IntKind.i64.wrap ((k : Int) * 4) = (p0 : Int)) (e1 : IntKind.i64.wrap ((p0 : Int) + 1) = (p1 : Int)) (e2 : IntKind.i64.wrap ((p0 : Int) + 2) = (p2 : Int)) (e3 : IntKind.i64.wrap ((p0 : Int) + 3) = (p3 : Int)) :
    (p0 ≠ p1 ∧ p0 ≠ p2 ∧ p0 ≠ p3) ∧ (p1 ≠ p0 ∧ p1 ≠ p2 ∧ p1 ≠ p3) ∧ (p2 ≠ p0 ∧ p2 ≠ p1 ∧ p2 ≠ p3) ∧ (p3 ≠ p0 ∧ p3 ≠ p1 ∧ p3 ≠ p2) := by
  rw [IntWalk.i64_in _ (by omega)] at e0
  rw [IntWalk.i64_in _ (by omega)] at e1 e2 e3
  omega

theorem init_any (g : Nat) (ad : Addr) (n c : Nat) (w : World) (hn : 16 ≤ n) (hg : Wds w g 4) (hs : Src w ad 16) (hl : ad.block < w.heap.size) (hne : ad.block ≠ g) :
    Calls Tryd.prog 24 #[.slice (some ⟨g, 0, none⟩) 4 4, .slice (some ad) n c] w (Done [g] (fun w' => Wds w' g 4) w) := by
  go_enter Tryd.func24, Tryd.ntmps24
  go_wp2_with fail
  go_loopw [4] (fun i wr => ∃ k : Nat, k ≤ 4 ∧ i = .int .i64 k ∧ Only [g] w wr ∧ Wds wr g 4) (fun i _ => 4 - (intOf i).toNat)
  case atStart => exact ⟨0, by omega, rfl, Only.refl _ _, hg⟩
  case round =>
    obtain ⟨k, hk, rfl, ho, hw⟩ := hrel
    by_cases hlt : k < 4
    · obtain ⟨p0, p1, p2, p3, e0, e1, e2, e3, ⟨q0, q1, q2, q3⟩, m0, m1, m2, m3⟩ := quad k n hlt hn
      have hs' := hs.only ho hl (by simpa using hne)
      obtain ⟨x0, b0, c0⟩ := hs' p0 q0
      obtain ⟨x1, b1, c1⟩ := hs' p1 q1
      obtain ⟨x2, b2, c2⟩ := hs' p2 q2
      obtain ⟨x3, b3, c3⟩ := hs' p3 q3
      have hz := hw.frozen k
      obtain ⟨y, by_, cy⟩ := hw.at_ hlt
      clear hs'
      have l1 : (k : Int) < 4 := by omega
      go_wp2_with fail
      refine region_quiet_tail 36 (by kernel_rfl) (by kernel_rfl) ?_
      simp only [List.take_succ_cons, List.take_zero, List.drop_succ_cons, List.drop_zero]
      repeat (quiet_step (fail))
      refine wpQuiet_nil ?_
      intro _ hw'
      obtain ⟨nq, rfl⟩ := hw'
      go_wp2_with fail
      go_roundw
      case rel => exact ⟨k + 1, by omega, by go_num, (ho.drewN nq).setCell (by simp) _, (hw.drewN nq).set_ k (u32_bits _ _ _)⟩
      case measure => simp [intOf]; omega
    · go_wp2_with fail
      simp [bodyPost, results, Tryd.results24]
      exact ⟨rfl, ho, hw⟩

theorem final_any (gr g : Nat) (w : World) (hr : Bys w gr 16) (hg : Wds w g 4) (hne : g ≠ gr) :
    Calls Tryd.prog 26 #[.slice (some ⟨gr, 0, none⟩) 16 16, .slice (some ⟨g, 0, none⟩) 4 4] w (Done [gr] (fun w' => Bys w' gr 16) w) := by
  have hne2 : gr ≠ g := fun e => hne e.symm
  go_enter Tryd.func26, Tryd.ntmps26
  go_wp2_with fail
  go_loopw [4] (fun i wr => ∃ k : Nat, k ≤ 4 ∧ i = .int .i64 k ∧ Only [gr] w wr ∧ Bys wr gr 16) (fun i _ => 4 - (intOf i).toNat)
  case atStart => exact ⟨0, by omega, rfl, Only.refl _ _, hr⟩
  case round =>
    obtain ⟨k, hk, rfl, ho, hw⟩ := hrel
    by_cases hlt : k < 4
    · obtain ⟨p0, p1, p2, p3, e0, e1, e2, e3, ⟨q0, q1, q2, q3⟩, m0, m1, m2, m3⟩ := quad k 16 hlt (Nat.le_refl _)
      obtain ⟨⟨d01, d02, d03⟩, ⟨d10, d12, d13⟩, ⟨d20, d21, d23⟩, d30, d31, d32⟩ := quad_ne hlt e0 e1 e2 e3
      have hg' := hg.only ho (by simpa using hne)
      obtain ⟨x, bx, cx⟩ := hg'.at_ hlt
      unfold U32 at bx
      have z0 := hw.frozen p0
      have z1 := hw.frozen p1
      have z2 := hw.frozen p2
      have z3 := hw.frozen p3
      obtain ⟨y0, _, c0⟩ := hw.at_ q0
      obtain ⟨y1, _, c1⟩ := hw.at_ q1
      obtain ⟨y2, _, c2⟩ := hw.at_ q2
      obtain ⟨y3, _, c3⟩ := hw.at_ q3
      clear hg'
      have l1 : (k : Int) < 4 := by omega
      go_wp2_with fail
      go_roundw
      case rel => exact ⟨k + 1, by omega, by go_num, (((ho.setCell (by simp) _).setCell (by simp) _).setCell (by simp) _).setCell (by simp) _, (((hw.set_ p0 (by omega)).set_ p1 (by omega)).set_ p2 (by omega)).set_ p3 (by omega)⟩
      case measure => simp [intOf]; omega
    · go_wp2_with fail
      simp [bodyPost, results, Tryd.results26]
      exact ⟨rfl, ho, hw⟩
end Go.Proofs.YteioblloppcjoaaDoor
