/- Two rows of sixteen bytes are joined, exactly. No condition but where things lie. -/
import Derived.Test.YtkfagcpboehjjaaDoorSubk
import Derived.Test.YtkfagcpboehjjaaDoorMode

namespace Go.Proofs.YtkfagcpboehjjaaDoor
set_option maxRecDepth 100000
open Go.RowKit

/-- n bytes come back, in a block of their own. -/
def GotB (n : Nat) (F : Nat → Int) (w : World) (e : Ending) (w' : World) : Prop := ∃ g, e = .returned (.slice (some ⟨g, 0, none⟩) n n) ∧ w.heap.size ≤ g ∧ ArrB w' g n F ∧ Only [] w w'

theorem xor_any (A B : Addr) (c d : Nat) (f q : Nat → Int) (w : World) (hA : Src w A 16 f) (hB : Src w B 16 q) (la : A.block < w.heap.size) (lb : B.block < w.heap.size) :
    Calls Tryd.prog 45 #[.slice (some A) 16 c, .slice (some B) 16 d] w (GotB 16 (xb f q) w) := by
  have m1 := makeB16
  go_enter Tryd.func45, Tryd.ntmps45
  go_wp2_with fail
  go_loopw [5] (fun i wr => ∃ k : Nat, k ≤ 16 ∧ i = .int .i64 k ∧ Only [] w wr ∧ ArrB wr w.heap.size 16 (fun j => if j < k then xb f q j else 0)) (fun i _ => 16 - (intOf i).toNat)
  case atStart => exact ⟨0, by omega, rfl, (Only.refl _ _).alloc _, (ArrB.new w 16).congr (by intro j _; simp)⟩
  case round =>
    obtain ⟨k, hk, rfl, ho, hb⟩ := hrel
    by_cases hlt : k < 16
    · obtain ⟨x, cx, HX⟩ : ∃ x, wr.cell? (A.add k) = some (.int .u8 x) ∧ Hid (x = f k) := ⟨_, (hA.only ho la (by simp)) k hlt, Lib.hid rfl⟩
      obtain ⟨y, cy, HY⟩ : ∃ x, wr.cell? (B.add k) = some (.int .u8 x) ∧ Hid (x = q k) := ⟨_, (hB.only ho lb (by simp)) k hlt, Lib.hid rfl⟩
      obtain ⟨old, cold⟩ : ∃ o, wr.cell? ⟨w.heap.size, k, none⟩ = some (.int .u8 o) := ⟨_, hb.cell hlt⟩
      have fz := hb.frozen k
      have l1 : (k : Int) < 16 := by omega
      obtain ⟨z, hz, ez, HZ⟩ : ∃ z, (0 ≤ z ∧ z ≤ 255) ∧ bits .xor .u8 x y = z ∧ Hid (z = bits .xor .u8 x y) := ⟨_, u8_bits _ _ _, rfl, Lib.hid rfl⟩
      go_wp2_with fail
      refine region_quiet_tail 12 (by kernel_rfl) (by kernel_rfl) ?_
      simp only [List.take_succ_cons, List.take_zero, List.drop_succ_cons, List.drop_zero]
      repeat (quiet_step (fail))
      refine wpQuiet_nil ?_
      intro _ hw'
      obtain ⟨nq, rfl⟩ := hw'
      go_wp2_with fail
      go_roundw
      case rel =>
        refine ⟨k + 1, by omega, by go_num, (ho.drewN nq).setCell (p := ⟨w.heap.size, k, none⟩) (fun h => absurd h (Nat.lt_irrefl _)) _, (hb.drewN nq).set_ k z fun j hj => ?_⟩
        by_cases hjk : j = k
        · subst hjk
          rw [if_pos (by omega), if_pos rfl, HZ.out, HX.out, HY.out]
          rfl
        · rw [if_neg hjk]
          by_cases h2 : j < k
          · rw [if_pos (by omega), if_pos h2]
          · rw [if_neg (by omega), if_neg h2]
      case measure => simp [intOf]; omega
    · obtain rfl : k = 16 := by omega
      go_wp2_with fail
      go_ret
      exact ⟨_, rfl, Nat.le_refl _, hb.congr (fun j hj => if_pos hj), ho⟩
end Go.Proofs.YtkfagcpboehjjaaDoor
