/- FnModeBack's walk. No condition but where things lie. -/
import Derived.Test.YtkfagcpboehjjaaDoorLawm
namespace Go.Proofs.YtkfagcpboehjjaaDoor
set_option maxRecDepth 100000
open Go.RowKit

set_option maxHeartbeats 4000000 in
theorem law_back (m : Int) (K V A : Option Addr) (nk ck nv cv n c : Nat) (kl vl dl : List Int) (w : World) (h : Inp w K V A nk ck nv cv n kl vl dl) :
    Calls Tryd.prog 5 #[.int .i64 m, .slice K nk ck, .slice V nv cv, .slice A n c] w (TrueB w) := by
  by_cases z1 : 2147483647 < nk
  · have z1' : (2147483647 : Int) < (nk : Int) := by omega
    go_enter Tryd.func5, Tryd.ntmps5
    go_wp2_with fail
    go_ret
    exact ⟨rfl, Below.refl _ _⟩
  have z1' : ¬ (2147483647 : Int) < (nk : Int) := by omega
  by_cases z2 : 2147483647 < nv
  · have z2' : (2147483647 : Int) < (nv : Int) := by omega
    go_enter Tryd.func5, Tryd.ntmps5
    go_wp2_with fail
    go_ret
    exact ⟨rfl, Below.refl _ _⟩
  have z2' : ¬ (2147483647 : Int) < (nv : Int) := by omega
  by_cases z3 : 2147483647 < n
  · have z3' : (2147483647 : Int) < (n : Int) := by omega
    go_enter Tryd.func5, Tryd.ntmps5
    go_wp2_with fail
    go_ret
    exact ⟨rfl, Below.refl _ _⟩
  have z3' : ¬ (2147483647 : Int) < (n : Int) := by omega
  by_cases y1 : m < 1
  · go_enter Tryd.func5, Tryd.ntmps5
    go_wp2_with fail
    go_ret
    exact ⟨rfl, Below.refl _ _⟩
  by_cases y2 : 5 ≤ m
  · go_enter Tryd.func5, Tryd.ntmps5
    go_wp2_with fail
    go_ret
    exact ⟨rfl, Below.refl _ _⟩
  by_cases y3 : ¬ nk = 16
  · have y3' : ¬ ((nk : Int) = 16) := by omega
    have y3'' : ((nk : Int) != 16) = true := by simp; omega
    go_enter Tryd.func5, Tryd.ntmps5
    go_wp2_with fail
    go_ret
    exact ⟨rfl, Below.refl _ _⟩
  by_cases y4 : ¬ nv = 16
  · have y4' : ¬ ((nv : Int) = 16) := by omega
    have y4'' : ((nv : Int) != 16) = true := by simp; omega
    go_enter Tryd.func5, Tryd.ntmps5
    go_wp2_with fail
    go_ret
    exact ⟨rfl, Below.refl _ _⟩
  by_cases y5 : 1000 < n
  · have y5' : (1000 : Int) < (n : Int) := by omega
    go_enter Tryd.func5, Tryd.ntmps5
    go_wp2_with fail
    go_ret
    exact ⟨rfl, Below.refl _ _⟩
  have y5' : ¬ (1000 : Int) < (n : Int) := by omega
  obtain rfl : nk = 16 := by omega
  obtain rfl : nv = 16 := by omega
  obtain ⟨m, rfl⟩ : ∃ m' : Nat, m = (m' : Int) := ⟨m.toNat, by omega⟩
  have hm : m = 1 ∨ m = 2 ∨ m = 3 ∨ m = 4 := by omega
  have hl : dl.length = n := by have := h.d.1; simpa using this
  obtain ⟨k, hk, hk0, hk4⟩ : ∃ k, (padL dl).length = 16 * k ∧ 0 < k ∧ k ≤ 63 := ⟨dl.length / 16 + 1, padL_length dl, by omega, by omega⟩
  have HK := Lib.hid hk
  have HL := Lib.hid hl
  clear hk hl
  have hlow : ¬ (m : Int) < 1 := by omega
  have hup : ¬ (5 : Int) ≤ (m : Int) := by omega
  go_enter Tryd.func5, Tryd.ntmps5
  go_wp2_with (first
    | (go_at_call 12; refine (spada_any A n c k dl w HL.out h.d (by omega) HK.out hk0).mono ?_; rintro e w1 ⟨g1, c1, rfl, hc1, hg1, hp1, hb1⟩; have h1 := h.only (Only.of_below hb1 (Nat.le_refl _)))
    | (go_at_call 11; refine (moded_any h1 hk0 hk4 hc1 m hm hp1).mono ?_; rintro e w2 ⟨g2, c2, rfl, hc2, hg2, hp2, hb2⟩; have h2 := h1.only (Only.of_below hb2 (Nat.le_refl _)))
    | (go_at_call 8; refine (impl_back h2 hk0 hk4 HK.out m hm hp2).mono ?_; rintro e w3 ⟨go, cg, rfl, hgo, harr, hb3⟩; have h3 := h2.only (Only.of_below hb3 (Nat.le_refl _)))
    | (go_at_call 9; refine (same_any _ _ _ _ _ _ dl w3 (by have := harr.reads; rw [show (List.range dl.length).map (lF dl) = dl from range_map_getD dl] at this; exact this) h3.d).mono ?_; rintro e w4 ⟨rfl, rfl⟩))
  go_ret
  have s1 := hb1.size
  have s2 := hb2.size
  exact ⟨rfl, (hb1.trans (hb2.mono s1)).trans (hb3.mono (by omega))⟩
end Go.Proofs.YtkfagcpboehjjaaDoor
