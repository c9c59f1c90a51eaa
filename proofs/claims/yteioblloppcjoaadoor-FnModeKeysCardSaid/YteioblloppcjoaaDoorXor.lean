/- Two rows of sixteen bytes are joined; bytes are padded. No condition but where things lie. -/
import Derived.Test.YteioblloppcjoaaDoorSubk

namespace Go.Proofs.YteioblloppcjoaaDoor
set_option maxRecDepth 100000
open Go.RowKit

theorem u8_bits (op : BinOp) (x y : Int) : 0 ≤ bits op .u8 x y ∧ bits op .u8 x y ≤ 255 := by
  unfold bits
  have h : ∀ n : Int, 0 ≤ IntKind.u8.wrap n ∧ IntKind.u8.wrap n ≤ 255 := fun n => by
    simp [IntKind.wrap, IntKind.bits, IntKind.signed]; omega
  split <;> exact h _

/-- n bytes come back, in a block of their own. -/
def GotB (n : Nat) (w : World) (e : Ending) (w' : World) : Prop := ∃ g, e = .returned (.slice (some ⟨g, 0, none⟩) n n) ∧ w.heap.size ≤ g ∧ Bys w' g n ∧ Only [] w w'

theorem xor_any (A B : Addr) (c d : Nat) (w : World) (hA : Src w A 16) (hB : Src w B 16) (la : A.block < w.heap.size) (lb : B.block < w.heap.size) :
    Calls Tryd.prog 22 #[.slice (some A) 16 c, .slice (some B) 16 d] w (GotB 16 w) := by
  have m1 := makeB16
  go_enter Tryd.func22, Tryd.ntmps22
  go_wp2_with fail
  go_loopw [5] (fun i wr => ∃ k : Nat, k ≤ 16 ∧ i = .int .i64 k ∧ Only [] w wr ∧ Bys wr w.heap.size 16) (fun i _ => 16 - (intOf i).toNat)
  case atStart => exact ⟨0, by omega, rfl, (Only.refl _ _).alloc _, Bys.new w 16⟩
  case round =>
    obtain ⟨k, hk, rfl, ho, hb⟩ := hrel
    by_cases hlt : k < 16
    · obtain ⟨x, bx, cx⟩ := (hA.only ho la (by simp)) k hlt
      obtain ⟨y, by_, cy⟩ := (hB.only ho lb (by simp)) k hlt
      obtain ⟨old, _, cold⟩ := hb.at_ hlt
      have fz := hb.frozen k
      have l1 : (k : Int) < 16 := by omega
      obtain ⟨z, hz, ez⟩ : ∃ z, (0 ≤ z ∧ z ≤ 255) ∧ bits .xor .u8 x y = z := ⟨_, u8_bits _ _ _, rfl⟩
      go_wp2_with fail
      refine region_quiet_tail 12 (by kernel_rfl) (by kernel_rfl) ?_
      simp only [List.take_succ_cons, List.take_zero, List.drop_succ_cons, List.drop_zero]
      repeat (quiet_step (fail))
      refine wpQuiet_nil ?_
      intro _ hw'
      obtain ⟨nq, rfl⟩ := hw'
      go_wp2_with fail
      go_roundw
      case rel => exact ⟨k + 1, by omega, by go_num, (ho.drewN nq).setCell (p := ⟨w.heap.size, k, none⟩) (fun h => absurd h (Nat.lt_irrefl _)) _, (hb.drewN nq).set_ k hz⟩
      case measure => simp [intOf]; omega
    · obtain rfl : k = 16 := by omega
      go_wp2_with fail
      go_ret
      exact ⟨_, rfl, Nat.le_refl _, hb, ho⟩
end Go.Proofs.YteioblloppcjoaaDoor
