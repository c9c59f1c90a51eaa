/- FnBits' walk. No condition. -/
import Derived.Test.YtmhjbkkbbhioeaaHigh
import Derived.WalkKit
import Derived.LoopTactic
import Derived.BigQuiet
import Derived.WalkSpells
import Derived.Deep.RegionWith
namespace Go.Proofs.Ytmhjbkkbbhioeaa
open Go.RowKit

/-- The law's row of zeros. -/
def Z16 : Array Value := Array.replicate 16 (.int .u8 0)
theorem make16 (w : World) : (Instr.makeSlice 24 (.int .i64 16) (.int .i64 16)).run Try.prog w = .ok (.slice (some ⟨w.heap.size, 0, none⟩) 16 16) (w.alloc (.cells Z16 5)) := by kernel_rfl

set_option maxHeartbeats 8000000 in
theorem fnbits_any (a0 : Int) (A : Option Addr) (n c : Nat) (l : List Int) (w : World) (h64 : -9223372036854775808 ≤ a0 ∧ a0 ≤ 9223372036854775807) (hr : Reads w w.heap.size 1 A n (l.map (Value.int .u8))) (hby : ∀ x ∈ l, 0 ≤ x ∧ x ≤ 255) (hnc : n ≤ c) (hm : c ≤ maxLen) :
    Calls Try.prog 4 #[.int .i64 a0, .slice A n c] w fun e w' => e = .returned (.bool true) ∧ Below w.heap.size w w' := by
  have hmk := make16
  unfold maxLen at hm
  by_cases h1 : 2147483647 < n
  · have h1' : (2147483647 : Int) < (n : Int) := by omega
    go_enter Try.func4, Try.ntmps4
    go_wp2_with fail
    go_ret
    exact ⟨rfl, Below.refl _ _⟩
  have h1' : ¬ (2147483647 : Int) < (n : Int) := by omega
  by_cases h2 : a0 < 0
  · go_enter Try.func4, Try.ntmps4
    go_wp2_with fail
    go_ret
    exact ⟨rfl, Below.refl _ _⟩
  by_cases h3 : 16 < a0
  · go_enter Try.func4, Try.ntmps4
    go_wp2_with fail
    go_ret
    exact ⟨rfl, Below.refl _ _⟩
  by_cases h4 : n = 16
  case neg =>
    have h4' : ((n : Int) != 16) = true := by simp; omega
    go_enter Try.func4, Try.ntmps4
    go_wp2_with fail
    go_ret
    exact ⟨rfl, Below.refl _ _⟩
  subst h4
  obtain ⟨k, rfl⟩ : ∃ k : Nat, a0 = (k : Int) := ⟨a0.toNat, by omega⟩
  clear h1 h1' h64
  obtain ⟨ad, rfl, hab, hcell⟩ := hr.2 (by omega)
  have hl : l.length = 16 := by have := hr.1; simpa using this
  have hfc : ∀ j, j < 16 → w.cell? (ad.add j) = some (.int .u8 (l.getD j 0)) := fun j hj => hcell j _ (by
    rw [List.getElem?_map, List.getD_eq_getElem?_getD, List.getElem?_eq_getElem (by omega)]; rfl)
  have hby' : ∀ j, j < 16 → 0 ≤ l.getD j 0 ∧ l.getD j 0 ≤ 255 := fun j _ => byte_getD hby j
  have HL := Lib.hid hl
  clear hcell hl
  generalize hf : (fun j => l.getD j 0) = f at *
  have hfc' : ∀ j, j < 16 → w.cell? (ad.add j) = some (.int .u8 (f j)) := fun j hj => by rw [hfc j hj, ← hf]
  have hbf : ∀ j, j < 16 → 0 ≤ f j ∧ f j ≤ 255 := fun j hj => by rw [← hf]; exact hby' j hj
  have HF := Lib.hid hf
  clear hf hfc hby'
  have hA0 : ArrB (w.alloc (.cells Z16 5)) w.heap.size 16 (fun j => if j < 0 then shr1 f j else 0) := ⟨Z16, Blk.new w 5 _, by simp [Z16], fun j hj => by simp [Z16, hj]⟩
  have hb0 : Below w.heap.size w (w.alloc (.cells Z16 5)) := (Below.refl _ _).alloc (Nat.le_refl _) _
  go_enter Try.func4, Try.ntmps4
  go_wp2_with fail
  go_loopw [24] (fun i wr => ∃ m : Nat, m ≤ 16 ∧ i = .int .i64 m ∧ ArrB wr w.heap.size 16 (fun j => if j < m then shr1 f j else 0) ∧ Below w.heap.size w wr) (fun i _ => 16 - (intOf i).toNat)
  case atStart => exact ⟨0, by omega, rfl, hA0, hb0⟩
  case round =>
    clear hA0 hb0
    obtain ⟨m, hm16, rfl, hB, hbel⟩ := hrel
    by_cases hlt : m < 16
    · have a0 := hB.cell (j := m) hlt
      have f0 := hB.frozen m
      have l1 : (m : Int) < 16 := by omega
      have bm := hbf m hlt
      have s0 : wr.cell? (ad.add m) = some (.int .u8 (f m)) := (hbel.cell (by rw [block_of_add]; exact hab)).trans (hfc' m hlt)
      simp only [show ¬ (m < m) by omega, if_false] at a0
      by_cases hz : m = 0
      · subst hz
        rw [show ad.add 0 = ad from rfl] at s0
        have e0 : (0 : Int).toNat = 0 := rfl
        rw [show ((0 : Nat) : Int) = 0 from rfl]
        go_wp2_with fail
        go_roundw
        case rel =>
          exact ⟨1, by omega, rfl, hB.set_ 0 _ fun j hj => by
            by_cases h : j = 0
            · subst h; rw [if_pos (by omega), if_pos rfl]; rfl
            · rw [if_neg (by omega), if_neg h, if_neg (by omega)], hbel.setCell (Nat.le_refl _) _⟩
        case measure => simp [intOf]
      · have hB2 := hB.set_ (f' := fun j => if j = m then f m / 2 else if j < m then shr1 f j else 0) m (f m / 2) (fun j hj => rfl)
        obtain ⟨p, e1, hp⟩ : ∃ p : Nat, IntKind.i64.wrap ((m : Int) - 1) = (p : Int) ∧ p + 1 = m := ⟨m - 1, by rw [IntWalk.i64_in _ (by omega)]; omega, by omega⟩
        have b0 := hB2.cell (j := m) hlt
        have f2 := hB2.frozen m
        simp only [if_true] at b0
        have hbel2 : Below w.heap.size w (wr.setCell ⟨w.heap.size, m, none⟩ (.int .u8 (f m / 2))) := hbel.setCell (Nat.le_refl _) _
        have s1 : (wr.setCell ⟨w.heap.size, m, none⟩ (.int .u8 (f m / 2))).cell? (ad.add p) = some (.int .u8 (f p)) := (hbel2.cell (by rw [block_of_add]; exact hab)).trans (hfc' p (by omega))
        have l2 : (p : Int) < 16 := by omega
        have l3 : (0 : Int) < (m : Int) := by omega
        have HP := Lib.hid hp
        clear hp
        go_wp2_with fail
        refine region_quiet_tail 12 (by kernel_rfl) (by kernel_rfl) ?_
        simp only [List.take_succ_cons, List.take_zero, List.drop_succ_cons, List.drop_zero]
        iterate 12 (quiet_step (fail))
        refine wpQuiet_nil ?_
        intro _ hw'
        obtain ⟨nq2, rfl⟩ := hw'
        go_wp2_with fail
        go_roundw
        case rel =>
          have hp := HP.out
          have bp := hbf p (by omega)
          refine ⟨m + 1, by omega, by go_num, (hB2.drewN nq2).set_ m _ (fun j hj => ?_), ((below_drewN hbel2 nq2).setCell (Nat.le_refl _) _)⟩
          by_cases h : j = m
          · subst h
            rw [if_pos (by omega), if_pos rfl, shift_law bm.1 bm.2]
            unfold shr1
            rw [if_neg hz, show j - 1 = p by omega]
          · rw [if_neg h, if_neg h]
            by_cases h2 : j < m
            · rw [if_pos h2, if_pos (by omega)]
            · rw [if_neg h2, if_neg (by omega)]
        case measure => have := HP.out; simp [intOf]; omega
    · obtain rfl : m = 16 := by omega
      have hB16 : ArrB wr w.heap.size 16 (shr1 f) := hB.congr fun j hj => by rw [if_pos hj]
      have hbd : Below w.heap.size w wr.drew := ⟨hbel.os, hbel.tape, hbel.output, hbel.size, hbel.block⟩
      have hbd2 : Below wr.heap.size wr wr.drew := ⟨rfl, rfl, rfl, Nat.le_refl _, fun _ _ => rfl⟩
      have hk16 : k ≤ 16 := by omega
      have hR : ∀ W, Below w.heap.size w W → Reads W W.heap.size 1 (some ad) 16 (l.map (Value.int .u8)) := fun W h => (hr.below h).more h.size
      have hlk : Hid ((l.take k).length = k) := Lib.hid (by rw [List.length_take, HL.out]; omega)
      have h8 : IntKind.i64.wrap (8 * (k : Int)) = 8 * (k : Int) := IntWalk.i64_in _ (by omega)
      clear hB hlt hm16
      go_wp2_with fail
      go_region_with (first
        | (go_at_call 10; go_must (refine (highbits_any k (some ad) c l wr.drew hk16 hnc hm (hR _ hbd)).mono ?_; rintro e w1 ⟨v1, rfl, hv1, hB1⟩; obtain ⟨A1, c1, e3⟩ := hv1.shaped; rw [hlk.out] at e3; subst e3; have hbe1 := hbd.trans (hB1.mono hbd.size)))
        | (go_at_call 8; have hA3 := hA2.reads; refine (same_any _ _ _ _ _ _ _ w3 hA3 ((hB16.below (hbd2.trans (hB1.mono (Nat.le_refl _))) hB16.lt).below (hB3.mono hB1.size) hB16.lt).reads).mono ?_; rintro e w4 ⟨rfl, rfl⟩)
        | (go_at_call 11; go_must (refine (shifted_any (some ad) c l w1 (hR _ hbe1) hby).mono ?_; rintro e w3 ⟨g2, c2, rfl, hg2, hA2, hB3⟩; rw [HF.out] at hA2))
        | (go_at_call 8; refine (same_first hv1 hlk.out (hR w1 hbe1) hk16).mono ?_; rintro e w2 ⟨rfl, rfl⟩))
      all_goals go_wp2_with fail
      all_goals go_ret
      all_goals exact ⟨rfl, hbe1.trans (hB3.mono hbe1.size)⟩
end Go.Proofs.Ytmhjbkkbbhioeaa
