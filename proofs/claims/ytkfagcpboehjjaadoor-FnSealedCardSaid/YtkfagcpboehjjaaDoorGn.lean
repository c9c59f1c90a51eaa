/- The reference's hash of GCM: sixteen bytes come back; the next counter, exactly. No condition but where things lie. -/
import Derived.Test.YtkfagcpboehjjaaDoorGm
namespace Go.Proofs.YtkfagcpboehjjaaDoor
set_option maxRecDepth 100000
open Go.RowKit

set_option maxHeartbeats 4000000 in
theorem sghash_any (H : Addr) (ch g k c1 : Nat) (h d : Nat → Int) (w : World) (hH : Src w H 16 h) (hh : Bf h) (hHl : H.block < w.heap.size) (hD : ArrB w g (16 * k) d) (hk : k ≤ 70) (hc1 : 16 * k ≤ c1) :
    Calls Tryd.prog 31 #[.slice (some H) 16 ch, .slice (some ⟨g, 0, none⟩) (16 * k : Nat) c1] w (SomeS 16 w) := by
  have m1 := makeB16
  go_enter Tryd.func31, Tryd.ntmps31
  go_wp2_with fail
  go_loopw [6, 5] (fun i y wr => ∃ j p gy cy : Nat, ∃ f, j ≤ k ∧ Hid (p = 16 * j) ∧ i = .int .i64 p ∧ y = .slice (some ⟨gy, 0, none⟩) 16 cy ∧ 16 ≤ cy ∧ w.heap.size ≤ gy ∧ ArrB wr gy 16 f ∧ Bf f ∧ Only [] w wr) (fun i _ _ => 16 * k - (intOf i).toNat)
  case atStart => exact ⟨0, 0, w.heap.size, 16, _, by omega, Lib.hid rfl, rfl, rfl, Nat.le_refl _, Nat.le_refl _, ArrB.new w 16, fun _ => by show (0 : Int) ≤ 0 ∧ (0 : Int) ≤ 255; omega, (Only.refl _ _).alloc _⟩
  case round =>
    obtain ⟨j, p, gy, cy, f, hj, HP, rfl, rfl, hcy, hgy, hf, hfb, ho⟩ := hrel
    by_cases hlt : j < k
    · as_aux_lemma =>
      have hp := HP.out
      have e1 := IntWalk.i64_in ((p : Int) + 16) (by omega)
      have e2 : ((p : Int) + 16).toNat = p + 16 := by omega
      have b1 : (p : Int) + 16 ≤ (c1 : Int) := by omega
      have b2 : (p : Int) < 16 * (k : Int) := by omega
      have b3 : p + 16 - p = 16 := by omega
      have b4 : ¬ c1 = p := by omega
      have b5 : ((p : Int) + 16 - (p : Int)).toNat = 16 := by omega
      have hsd : Src wr ⟨g, p, none⟩ 16 (blk d j) := (hD.only ho (by simp)).srcb HP hlt
      have lg := (hD.only ho (by simp)).lt
      have lH := Nat.lt_of_lt_of_le hHl ho.size
      clear hp
      go_wp2_with fail
      refine (sxor_any ⟨gy, 0, none⟩ ⟨g, p, none⟩ cy 16 _ f (blk d j) wr (Nat.le_refl _) (hf.src0 (Nat.le_refl _)) hsd hf.lt lg).mono ?_
      rintro e w5 ⟨g5, c5, rfl, hc5, hg5, hx5, ho5⟩
      go_wp2_with fail
      refine (gmul_any ⟨g5, 0, none⟩ H c5 ch _ h w5 (hx5.src0 (Nat.le_refl _)) (xb_bf _ _) ((hH.only ho hHl (by simp)).only ho5 lH (by simp)) hh hx5.lt (Nat.lt_of_lt_of_le lH ho5.size)).mono ?_
      rintro e w6 ⟨g6, c6, f6, rfl, hc6, hg6, hx6, hb6, ho6⟩
      have s5 := ho5.size
      have s0 := ho.size
      go_wp2_with fail
      go_roundw
      case rel => exact ⟨j + 1, p + 16, g6, c6, f6, by omega, Lib.hid (by rw [HP.out]; omega), by go_num, rfl, hc6, by omega, hx6, hb6, (ho.trans ho5).trans ho6⟩
      case measure => have := HP.out; simp [intOf]; omega
    · as_aux_lemma =>
      obtain rfl : j = k := by omega
      have hnl : ¬ (p : Int) < 16 * (j : Int) := by have := HP.out; omega
      go_wp2_with fail
      go_ret
      exact ⟨gy, cy, f, rfl, hcy, hgy, hf, hfb, ho⟩
end Go.Proofs.YtkfagcpboehjjaaDoor
