/- A block's words out of its bytes, its bytes out of its words, exactly. No condition but where things lie. -/
import Derived.Test.YtkfagcpboehjjaaDoorOnly
import Derived.IntWalk
namespace Go.Proofs.YtkfagcpboehjjaaDoor
set_option maxRecDepth 100000
open Go.RowKit

/-- Nothing comes back; only the blocks S have turned; R holds. -/
def Done (S : List Nat) (R : World → Prop) (w : World) (e : Ending) (w' : World) : Prop := e = .returned (.tuple #[]) ∧ Only S w w' ∧ R w'

/-- The four places of a word's bytes. -/
theorem quad (k n : Nat) (hk : k < 4) (hn : 16 ≤ n) : ∃ p0 p1 p2 p3 : Nat, IntKind.i64.wrap ((k : Int) * 4) = (p0 : Int) ∧ IntKind.i64.wrap ((p0 : Int) + 1) = (p1 : Int) ∧ IntKind.i64.wrap ((p0 : Int) + 2) = (p2 : Int) ∧ IntKind.i64.wrap ((p0 : Int) + 3) = (p3 : Int) ∧
    (p0 < 16 ∧ p1 < 16 ∧ p2 < 16 ∧ p3 < 16) ∧ (p0 : Int) < (n : Int) ∧ (p1 : Int) < (n : Int) ∧ (p2 : Int) < (n : Int) ∧ (p3 : Int) < (n : Int) ∧ Hid (p0 = 4 * k ∧ p1 = 4 * k + 1 ∧ p2 = 4 * k + 2 ∧ p3 = 4 * k + 3) :=
  ⟨4 * k, 4 * k + 1, 4 * k + 2, 4 * k + 3, by rw [IntWalk.i64_in _ (by omega)]; omega, by rw [IntWalk.i64_in _ (by omega)]; omega, by rw [IntWalk.i64_in _ (by omega)]; omega, by rw [IntWalk.i64_in _ (by omega)]; omega, by omega, by omega, by omega, by omega, by omega, Lib.hid ⟨rfl, rfl, rfl, rfl⟩⟩
/-- They are four. -/
theorem quad_ne {k p0 p1 p2 p3 : Nat} (h : Hid (p0 = 4 * k ∧ p1 = 4 * k + 1 ∧ p2 = 4 * k + 2 ∧ p3 = 4 * k + 3)) :
    (p0 ≠ p1 ∧ p0 ≠ p2 ∧ p0 ≠ p3) ∧ (p1 ≠ p0 ∧ p1 ≠ p2 ∧ p1 ≠ p3) ∧ (p2 ≠ p0 ∧ p2 ≠ p1 ∧ p2 ≠ p3) ∧ (p3 ≠ p0 ∧ p3 ≠ p1 ∧ p3 ≠ p2) := by
  have := h.out
  omega

theorem init_any (g : Nat) (ad : Addr) (n c : Nat) (f old : Nat → Int) (w : World) (hn : 16 ≤ n) (hg : ArrU w g 46 4 old) (hs : Src w ad 16 f) (hf : Bf f) (hl : ad.block < w.heap.size) (hne : ad.block ≠ g) :
    Calls Tryd.prog 54 #[.slice (some ⟨g, 0, none⟩) 4 4, .slice (some ad) n c] w (Done [g] (fun w' => ArrU w' g 46 4 (wdF f)) w) := by
  go_enter Tryd.func54, Tryd.ntmps54
  go_wp2_with fail
  go_loopw [4] (fun i wr => ∃ k : Nat, k ≤ 4 ∧ i = .int .i64 k ∧ Only [g] w wr ∧ ArrU wr g 46 4 (fun j => if j < k then wdF f j else old j)) (fun i _ => 4 - (intOf i).toNat)
  case atStart => exact ⟨0, by omega, rfl, Only.refl _ _, hg.congr fun j _ => by rw [if_neg (by omega)]⟩
  case round =>
    obtain ⟨k, hk, rfl, ho, hw⟩ := hrel
    by_cases hlt : k < 4
    · obtain ⟨p0, p1, p2, p3, e0, e1, e2, e3, ⟨q0, q1, q2, q3⟩, m0, m1, m2, m3, HP⟩ := quad k n hlt hn
      have hs' := hs.only ho hl (by simpa using hne)
      have c0 := hs' p0 q0
      have c1 := hs' p1 q1
      have c2 := hs' p2 q2
      have c3 := hs' p3 q3
      obtain ⟨b0, b0'⟩ := hf p0
      obtain ⟨b1, b1'⟩ := hf p1
      obtain ⟨b2, b2'⟩ := hf p2
      obtain ⟨b3, b3'⟩ := hf p3
      have hz := hw.frozen k
      have cy := hw.cell hlt
      obtain ⟨y, hy⟩ : ∃ y, y = (if k < k then wdF f k else old k) := ⟨_, rfl⟩
      rw [← hy] at cy
      clear hs' hy
      have l1 : (k : Int) < 4 := by omega
      go_wp2_with fail
      refine region_quiet_tail 36 (by kernel_rfl) (by kernel_rfl) ?_
      simp only [List.take_succ_cons, List.take_zero, List.drop_succ_cons, List.drop_zero]
      repeat (quiet_step (fail))
      refine wpQuiet_nil ?_
      intro _ hw'
      obtain ⟨nq, rfl⟩ := hw'
      go_wp2_with fail
      go_roundw
      case rel =>
        refine ⟨k + 1, by omega, by go_num, (ho.drewN nq).set1 (by simp) k _, (hw.drewN nq).set_ k _ fun j hj => ?_⟩
        obtain ⟨h0, h1, h2, h3⟩ := HP.out
        by_cases e : j = k
        · subst e; rw [if_pos (by omega), if_pos rfl]; unfold wdF wd; rw [← h1, ← h2, ← h3, ← h0]
        · rw [if_neg e]
          by_cases h : j < k
          · rw [if_pos h, if_pos (by omega)]
          · rw [if_neg h, if_neg (by omega)]
      case measure => simp [intOf]; omega
    · obtain rfl : k = 4 := by omega
      go_wp2_with fail
      simp [bodyPost, results, Tryd.results54]
      exact ⟨rfl, ho, hw.congr fun j hj => by rw [if_pos hj]⟩

theorem final_any (gr g : Nat) (x old : Nat → Int) (w : World) (hr : ArrB w gr 16 old) (hg : ArrU w g 46 4 x) (hx : Wf x) (hne : g ≠ gr) :
    Calls Tryd.prog 56 #[.slice (some ⟨gr, 0, none⟩) 16 16, .slice (some ⟨g, 0, none⟩) 4 4] w (Done [gr] (fun w' => ArrB w' gr 16 (byF x)) w) := by
  have hne2 : gr ≠ g := fun e => hne e.symm
  go_enter Tryd.func56, Tryd.ntmps56
  go_wp2_with fail
  go_loopw [4] (fun i wr => ∃ k : Nat, k ≤ 4 ∧ i = .int .i64 k ∧ Only [gr] w wr ∧ ArrB wr gr 16 (fun j => if j < 4 * k then byF x j else old j)) (fun i _ => 4 - (intOf i).toNat)
  case atStart => exact ⟨0, by omega, rfl, Only.refl _ _, hr.congr fun j _ => by rw [if_neg (by omega)]⟩
  case round =>
    obtain ⟨k, hk, rfl, ho, hw⟩ := hrel
    by_cases hlt : k < 4
    · obtain ⟨p0, p1, p2, p3, e0, e1, e2, e3, ⟨q0, q1, q2, q3⟩, m0, m1, m2, m3, HP⟩ := quad k 16 hlt (Nat.le_refl _)
      obtain ⟨⟨d01, d02, d03⟩, ⟨d10, d12, d13⟩, ⟨d20, d21, d23⟩, d30, d31, d32⟩ := quad_ne HP
      have cx := (hg.only ho (by simpa using hne)).cell hlt
      have bx := hx k
      unfold U32 at bx
      have z0 := hw.frozen p0
      have z1 := hw.frozen p1
      have z2 := hw.frozen p2
      have z3 := hw.frozen p3
      obtain ⟨y0, c0⟩ : ∃ y : Int, wr.cell? ⟨gr, p0, none⟩ = some (.int .u8 y) := ⟨_, hw.cell q0⟩
      obtain ⟨y1, c1⟩ : ∃ y : Int, wr.cell? ⟨gr, p1, none⟩ = some (.int .u8 y) := ⟨_, hw.cell q1⟩
      obtain ⟨y2, c2⟩ : ∃ y : Int, wr.cell? ⟨gr, p2, none⟩ = some (.int .u8 y) := ⟨_, hw.cell q2⟩
      obtain ⟨y3, c3⟩ : ∃ y : Int, wr.cell? ⟨gr, p3, none⟩ = some (.int .u8 y) := ⟨_, hw.cell q3⟩
      have l1 : (k : Int) < 4 := by omega
      obtain ⟨X, hX⟩ : ∃ X, X = x k := ⟨_, rfl⟩
      rw [← hX] at cx bx
      have HX := Lib.hid hX
      clear hX
      go_wp2_with fail
      go_roundw
      case rel =>
        refine ⟨k + 1, by omega, by go_num, (((ho.set1 (by simp) p0 _).set1 (by simp) p1 _).set1 (by simp) p2 _).set1 (by simp) p3 _, ?_⟩
        have s4 := (((hw.set_ (f' := fun j => if j = p0 then X / 16777216 else if j < 4 * k then byF x j else old j) p0 (X / 16777216) (fun j _ => rfl)).set_ (f' := fun j => if j = p1 then X / 65536 % 256 else if j = p0 then X / 16777216 else if j < 4 * k then byF x j else old j) p1 (X / 65536 % 256) (fun j _ => rfl)).set_ (f' := fun j => if j = p2 then X / 256 % 256 else if j = p1 then X / 65536 % 256 else if j = p0 then X / 16777216 else if j < 4 * k then byF x j else old j) p2 (X / 256 % 256) (fun j _ => rfl)).set_ (f' := fun j => if j = p3 then X % 256 else if j = p2 then X / 256 % 256 else if j = p1 then X / 65536 % 256 else if j = p0 then X / 16777216 else if j < 4 * k then byF x j else old j) p3 (X % 256) (fun j _ => rfl)
        refine s4.congr fun j hj => ?_
        obtain ⟨h0, h1, h2, h3⟩ := HP.out
        have hX := HX.out
        by_cases i3 : j = p3
        · rw [if_pos i3, if_pos (by omega)]; unfold byF; rw [if_neg (by omega), if_neg (by omega), if_neg (by omega), show j / 4 = k by omega, hX]
        rw [if_neg i3]
        by_cases i2 : j = p2
        · rw [if_pos i2, if_pos (by omega)]; unfold byF; rw [if_neg (by omega), if_neg (by omega), if_pos (by omega), show j / 4 = k by omega, hX]
        rw [if_neg i2]
        by_cases i1 : j = p1
        · rw [if_pos i1, if_pos (by omega)]; unfold byF; rw [if_neg (by omega), if_pos (by omega), show j / 4 = k by omega, hX]
        rw [if_neg i1]
        by_cases i0 : j = p0
        · rw [if_pos i0, if_pos (by omega)]; unfold byF; rw [if_pos (by omega), show j / 4 = k by omega, hX]
        rw [if_neg i0]
        by_cases h : j < 4 * k
        · rw [if_pos h, if_pos (by omega)]
        · rw [if_neg h, if_neg (by omega)]
      case measure => simp [intOf]; omega
    · obtain rfl : k = 4 := by omega
      go_wp2_with fail
      simp [bodyPost, results, Tryd.results56]
      exact ⟨rfl, ho, hw.congr fun j hj => by rw [if_pos (by omega)]⟩
end Go.Proofs.YtkfagcpboehjjaaDoor
