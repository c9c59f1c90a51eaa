/-
  Whether the secret fits. No condition.
-/
import Derived.Test.YtiegapnfbeemcaaGreatDoorA65
namespace Go.Proofs.YtiegapnfbeemcaaGreatDoor
set_option maxRecDepth 100000
open Go.RowKit

theorem fits_any (A : Option Addr) (n c : Nat) (p : List Int) (w : World) (hr : Reads w w.heap.size 1 A n (p.map (Value.int .u8))) (hc : n ≤ c) :
    Calls Tryz.prog 4 #[.slice A n c] w fun e w' => ∃ b, e = .returned (.bool b) ∧ (b = true → n = 32) ∧ w = w' := by
  by_cases h32 : n = 32
  · subst h32
    obtain ⟨ad, rfl, hadb, h30⟩ := reads_byte hr (k := 30) (by omega)
    obtain ⟨ad', e', _, h31⟩ := reads_byte hr (k := 31) (by omega)
    injection e' with e'
    subst e'
    have lc : (30 : Int) ≤ (c : Int) := by omega
    have lc2 : ¬ (c = 0) := by omega
    simp [Addr.add] at h30 h31
    go_enter Tryz.func4, Tryz.ntmps4
    go_wp2_with fail
    · go_ret
      exact ⟨_, rfl, fun _ => trivial, rfl⟩
    all_goals
      go_loopw [23] (fun i wr => ∃ k : Nat, k ≤ 30 ∧ i = .int .i64 (k : Int) ∧ w = wr) (fun i _ => 30 - (intOf i).toNat)
      case atStart => exact ⟨0, by omega, rfl, rfl⟩
      case round =>
        obtain ⟨k, hk, rfl, rfl⟩ := hrel
        by_cases hlt : k < 30
        · obtain ⟨ad2, e2, _, hk2⟩ := reads_byte hr (k := k) (by omega)
          injection e2 with e2
          subst e2
          have lk : (k : Int) < 30 := by omega
          go_wp2_with fail
          · go_ret
            exact ⟨_, rfl, fun _ => trivial, rfl⟩
          · go_roundw
            case rel => exact ⟨k + 1, by omega, by go_num, trivial⟩
            case measure => simp [intOf]; omega
        · obtain rfl : k = 30 := by omega
          go_wp2_with fail
          go_ret
          exact ⟨_, rfl, fun _ => trivial, rfl⟩
  · have l1 : ((n : Int) == 32) = false := by simp; omega
    have l2 : ((n : Int) != 32) = true := by simp; omega
    have l3 : ¬ ((n : Int) = 32) := by omega
    go_enter Tryz.func4, Tryz.ntmps4
    go_wp2_with fail
    go_ret
    exact ⟨false, rfl, fun h => (by cases h), rfl⟩
end Go.Proofs.YtiegapnfbeemcaaGreatDoor

namespace Go.Proofs.YtiegapnfbeemcaaGreatDoor
set_option maxRecDepth 100000
open Go.RowKit

set_option maxHeartbeats 2000000 in
theorem law_out (Ad Am Au : Option Addr) (nd cd nm cm nu cu : Nat) (d : List Int) (w : World) (hd : Reads w w.heap.size 1 Ad nd (d.map (Value.int .u8))) (hcd : nd ≤ cd)
    (h : ¬ (nd ≤ 2147483647 ∧ nm ≤ 2147483647 ∧ nu ≤ 2147483647) ∨ ¬ (nm ≤ 300 ∧ 0 < nu ∧ nu < 8192)) :
    Calls Tryz.prog 3 #[.slice Ad nd cd, .slice Am nm cm, .slice Au nu cu] w fun e w' => e = .returned (.bool true) ∧ Below w.heap.size w w' := by
  by_cases s1 : nd ≤ 2147483647
  case neg =>
    have l1 : (2147483647 : Int) < (nd : Int) := by omega
    go_enter Tryz.func3, Tryz.ntmps3
    go_wp2_with fail
    go_ret
    exact ⟨rfl, Below.refl _ _⟩
  have l1 : ¬ ((2147483647 : Int) < (nd : Int)) := by omega
  by_cases s2 : nm ≤ 2147483647
  case neg =>
    have l2 : (2147483647 : Int) < (nm : Int) := by omega
    go_enter Tryz.func3, Tryz.ntmps3
    go_wp2_with fail
    go_ret
    exact ⟨rfl, Below.refl _ _⟩
  have l2 : ¬ ((2147483647 : Int) < (nm : Int)) := by omega
  by_cases s3 : nu ≤ 2147483647
  case neg =>
    have l3 : (2147483647 : Int) < (nu : Int) := by omega
    go_enter Tryz.func3, Tryz.ntmps3
    go_wp2_with fail
    go_ret
    exact ⟨rfl, Below.refl _ _⟩
  have l3 : ¬ ((2147483647 : Int) < (nu : Int)) := by omega
  by_cases t1 : nm ≤ 300
  case neg =>
    have l4 : (300 : Int) < (nm : Int) := by omega
    go_enter Tryz.func3, Tryz.ntmps3
    go_wp2_with (go_at_call 4; refine (fits_any Ad nd cd d w hd hcd).mono ?_; rintro e w' ⟨b, rfl, hb, rfl⟩)
    all_goals (go_ret; exact ⟨rfl, Below.refl _ _⟩)
  have l4 : ¬ ((300 : Int) < (nm : Int)) := by omega
  by_cases t2 : nu = 0
  case pos =>
    subst t2
    go_enter Tryz.func3, Tryz.ntmps3
    go_wp2_with (go_at_call 4; refine (fits_any Ad nd cd d w hd hcd).mono ?_; rintro e w' ⟨b, rfl, hb, rfl⟩)
    all_goals (go_ret; exact ⟨rfl, Below.refl _ _⟩)
  have l5 : ¬ ((nu : Int) = 0) := by omega
  have l6 : ((nu : Int) == 0) = false := by simpa using l5
  have l7 : (8192 : Int) ≤ (nu : Int) := by omega
  go_enter Tryz.func3, Tryz.ntmps3
  go_wp2_with (go_at_call 4; refine (fits_any Ad nd cd d w hd hcd).mono ?_; rintro e w' ⟨b, rfl, hb, rfl⟩)
  all_goals (go_ret; exact ⟨rfl, Below.refl _ _⟩)
end Go.Proofs.YtiegapnfbeemcaaGreatDoor
