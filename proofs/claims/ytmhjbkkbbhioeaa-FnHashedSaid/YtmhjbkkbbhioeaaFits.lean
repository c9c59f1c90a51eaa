/- Whether the steps are of a size at all. No condition. -/
import Derived.Test.YtmhjbkkbbhioeaaSteps
import Derived.WalkKit
import Derived.LoopTactic
namespace Go.Proofs.Ytmhjbkkbbhioeaa
open Go.RowKit

theorem add_odd (a : Addr) (k : Nat) : a.add (k * 2 + 1) = ⟨(a.add (k * 2)).block, (a.add (k * 2)).off + 1, none⟩ := by
  unfold Addr.add
  by_cases h : k = 0
  · subst h; rfl
  · rw [if_neg (by omega), if_neg (by omega)]; rfl

theorem fits2_any (o : Int) (A : Option Addr) (L C : Nat) (w : World) :
    Calls Try.prog 25 #[.agg #[.int .i64 o, .slice A L C]] w fun e w' => e = .returned (.bool (decide (¬ (2147483647 : Int) < (L : Int)))) ∧ Below w.heap.size w w' := by
  have hb : Below w.heap.size w (w.alloc (.cells #[.int .i64 o, .slice A L C] 35)) := (Below.refl _ _).alloc (Nat.le_refl _) _
  by_cases h : (2147483647 : Int) < (L : Int)
  · go_enter Try.func25, Try.ntmps25
    go_wp2_with fail
    go_ret
    exact ⟨by simp [h], hb⟩
  · go_enter Try.func25, Try.ntmps25
    go_wp2_with fail
    go_ret
    exact ⟨by simp, hb⟩

theorem fits1_any (ad : Option Addr) (n c : Nat) (O : Nat → Int) (A : Nat → Option Addr) (L C : Nat → Nat) (lr : Nat → List Int) (w : World) (hp : Steps w ad n O A L C lr) :
    Calls Try.prog 14 #[.slice ad n c] w fun e w' => ∃ t, e = .returned (.bool t) ∧ Below w.heap.size w w' := by
  by_cases h1 : (2147483647 : Int) < (n : Int)
  · go_enter Try.func14, Try.ntmps14
    go_wp2_with fail
    go_ret
    exact ⟨_, rfl, Below.refl _ _⟩
  have hn := hp.few
  unfold maxLen at hn
  go_enter Try.func14, Try.ntmps14
  go_wp2_with fail
  go_loopw [10] (fun i wr => ∃ k : Nat, k ≤ n ∧ i = .int .i64 k ∧ Below w.heap.size w wr) (fun i _ => n - (intOf i).toNat)
  case atStart => exact ⟨0, Nat.zero_le _, rfl, Below.refl _ _⟩
  case round =>
    obtain ⟨k, hk, rfl, hb⟩ := hrel
    by_cases hlt : k < n
    · obtain ⟨a, rfl, hab, h2, h3⟩ := (hp.below hb).cell k hlt
      have l1 : (k : Int) < (n : Int) := by omega
      rw [add_odd] at h3
      have hba : Below w.heap.size w (wr.alloc (.cells #[.int .i64 (O k), .slice (A k) (L k) (C k)] 35)) := hb.alloc hb.size _
      go_wp2_with fail
      refine (fits2_any (O k) (A k) (L k) (C k) _).mono ?_
      rintro e w1 ⟨rfl, hb1⟩
      have hb2 := hba.trans (hb1.mono hba.size)
      by_cases hL : (2147483647 : Int) < (L k : Int)
      · have hd : decide (¬ (2147483647 : Int) < (L k : Int)) = false := by simp [hL]
        rw [hd]
        go_wp2_with fail
        go_ret
        exact ⟨_, rfl, hb2⟩
      · have hd : decide (¬ (2147483647 : Int) < (L k : Int)) = true := by simp [hL]
        rw [hd]
        go_wp2_with fail
        go_roundw
        case rel => exact ⟨k + 1, hlt, by go_num, hb2⟩
        case measure => simp [intOf]; omega
    · obtain rfl : k = n := by omega
      go_wp2_with fail
      go_ret
      exact ⟨_, rfl, hb⟩
end Go.Proofs.Ytmhjbkkbbhioeaa
