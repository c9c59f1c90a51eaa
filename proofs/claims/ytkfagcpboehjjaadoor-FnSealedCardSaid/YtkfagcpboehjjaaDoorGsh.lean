/- A row of sixteen bytes shifted by one bit in place; one of its bits; two rows added; the first bits of a row: exactly. No condition but where things lie. -/
import Derived.Test.YtkfagcpboehjjaaDoorXor
namespace Go.Proofs.YtkfagcpboehjjaaDoor
set_option maxRecDepth 100000
open Go.RowKit

/-- A byte behind a shift of the whole by one bit. -/
def shr1 (f : Nat → Int) (j : Nat) : Int := if j = 0 then f 0 / 2 else f j / 2 + 128 * (f (j - 1) % 2)
theorem shr1_bf {f : Nat → Int} (h : Bf f) : Bf (shr1 f) := fun j => by
  unfold shr1
  have h0 := h 0
  have h1 := h j
  have h2 := h (j - 1)
  split <;> omega

theorem and_one_fin : ∀ x : Fin 256, bits .and .u8 ((x.val : Nat) : Int) 1 = ((x.val : Nat) : Int) % 2 := by decide +kernel
theorem or_128_fin : ∀ a : Fin 128, bits .or .u8 128 ((a.val : Nat) : Int) = ((a.val : Nat) : Int) + 128 ∧ bits .or .u8 ((a.val : Nat) : Int) 128 = ((a.val : Nat) : Int) + 128 ∧ bits .or .u8 0 ((a.val : Nat) : Int) = ((a.val : Nat) : Int) ∧ bits .or .u8 ((a.val : Nat) : Int) 0 = ((a.val : Nat) : Int) := by decide +kernel
theorem and_one {x : Int} (h0 : 0 ≤ x) (h1 : x ≤ 255) : bits .and .u8 x 1 = x % 2 := by
  have h := and_one_fin ⟨x.toNat, by omega⟩
  simpa [Int.toNat_of_nonneg h0] using h
theorem or_128 {a : Int} (h0 : 0 ≤ a) (h1 : a < 128) : bits .or .u8 128 a = a + 128 ∧ bits .or .u8 a 128 = a + 128 ∧ bits .or .u8 0 a = a ∧ bits .or .u8 a 0 = a := by
  have h := or_128_fin ⟨a.toNat, by omega⟩
  simpa [Int.toNat_of_nonneg h0] using h
theorem shift_lib {x y : Int} (h0 : 0 ≤ x) (h1 : x ≤ 255) (h2 : 0 ≤ y) (h3 : y ≤ 255) : bits .or .u8 (bits .and .u8 x 1 * 128 % 256) (y / 2) = y / 2 + 128 * (x % 2) := by
  rw [and_one h0 h1]
  have h := or_128 (a := y / 2) (by omega) (by omega)
  rcases (show x % 2 = 0 ∨ x % 2 = 1 by omega) with e | e
  · rw [e, show (0 : Int) * 128 % 256 = 0 from rfl, h.2.2.1]; omega
  · rw [e, show (1 : Int) * 128 % 256 = 128 from rfl, h.1]; omega

set_option maxHeartbeats 1000000 in
theorem rshift_any (g c : Nat) (f : Nat → Int) (w : World) (hby : Bf f) (hA : ArrB w g 16 f) :
    Calls Tryd.prog 79 #[.slice (some ⟨g, 0, none⟩) 16 c] w (Done [g] (fun w' => ArrB w' g 16 (shr1 f)) w) := by
  go_enter Tryd.func79, Tryd.ntmps79
  go_wp2_with fail
  go_loopw [3] (fun i wr => ∃ k : Nat, k ≤ 16 ∧ i = .int .i64 ((k : Int) - 1) ∧ ArrB wr g 16 (fun j => if k ≤ j then shr1 f j else f j) ∧ Only [g] w wr) (fun i _ => (intOf i + 1).toNat)
  case atStart => exact ⟨16, by omega, rfl, hA.congr fun j hj => by rw [if_neg (by omega)], Only.refl _ _⟩
  case round =>
    obtain ⟨k, hk, rfl, hB, hbel⟩ := hrel
    by_cases h0 : k = 0
    · subst h0
      rw [show ((0 : Nat) : Int) - 1 = -1 from rfl]
      go_wp2_with fail
      simp [bodyPost, results, Tryd.results79]
      exact ⟨rfl, hbel, hB.congr fun j hj => by rw [if_pos (by omega)]⟩
    · obtain ⟨m, rfl⟩ : ∃ m, k = m + 1 := ⟨k - 1, by omega⟩
      clear h0
      have hm1 : ((m + 1 : Nat) : Int) - 1 = (m : Int) := by omega
      rw [hm1]
      have a0 := hB.cell (j := m) (by omega)
      have f0 := hB.frozen m
      simp only [show ¬ (m + 1 ≤ m) by omega, if_false] at a0
      have l1 : (m : Int) < 16 := by omega
      have bm := hby m
      by_cases hz : m = 0
      · subst hz
        go_wp2_with fail
        go_roundw
        case rel =>
          exact ⟨0, by omega, rfl, hB.set_ 0 _ fun j hj => by
            by_cases h : j = 0
            · subst h; rw [if_pos (by omega), if_pos rfl]; rfl
            · rw [if_neg h, if_pos (by omega), if_pos (by omega)], hbel.set1 (by simp) 0 _⟩
        case measure => simp [intOf]
      · obtain ⟨p, e1, hp⟩ : ∃ p : Nat, IntKind.i64.wrap ((m : Int) - 1) = (p : Int) ∧ p + 1 = m := ⟨m - 1, by rw [IntWalk.i64_in _ (by omega)]; omega, by omega⟩
        have hB2 := hB.set_ (f' := fun j => if j = m then f m / 2 else if m + 1 ≤ j then shr1 f j else f j) m (f m / 2) (fun j hj => rfl)
        have b0 := hB2.cell (j := m) (by omega)
        have b1 := hB2.cell (j := p) (by omega)
        have f2 := hB2.frozen m
        simp only [if_true, show ¬ (p = m) by omega, show ¬ (m + 1 ≤ p) by omega, if_false] at b0 b1
        have l2 : (p : Int) < 16 := by omega
        have l3 : ((m : Int) != 0) = true := by simp; omega
        have HP := Lib.hid hp
        clear hp
        go_wp2_with fail
        refine region_quiet_tail 15 (by kernel_rfl) (by kernel_rfl) ?_
        simp only [List.take_succ_cons, List.take_zero, List.drop_succ_cons, List.drop_zero]
        iterate 15 (quiet_step (fail))
        refine wpQuiet_nil ?_
        intro _ hw'
        obtain ⟨nq2, rfl⟩ := hw'
        go_wp2_with fail
        go_roundw
        case rel =>
          have hp := HP.out
          have bp := hby p
          refine ⟨m, by omega, by go_num, (hB2.drewN nq2).set_ m _ (fun j hj => ?_), ((hbel.set1 (by simp) m _).drewN nq2).set1 (by simp) m _⟩
          by_cases h : j = m
          · subst h
            rw [if_pos (Nat.le_refl _), if_pos rfl, shift_lib bp.1 bp.2 bm.1 bm.2]
            unfold shr1
            rw [if_neg hz, show j - 1 = p by omega]
          · rw [if_neg h, if_neg h]
            by_cases h2 : m ≤ j
            · rw [if_pos h2, if_pos (by omega)]
            · rw [if_neg h2, if_neg (by omega)]
        case measure => have := HP.out; simp [intOf]; omega

theorem add_any (A B : Addr) (c d : Nat) (f q : Nat → Int) (w : World) (hA : Src w A 16 f) (hB : Src w B 16 q) (la : A.block < w.heap.size) (lb : B.block < w.heap.size) :
    Calls Tryd.prog 62 #[.slice (some A) 16 c, .slice (some B) 16 d] w (GotB 16 (xb f q) w) := by
  have m1 := makeB16
  go_enter Tryd.func62, Tryd.ntmps62
  go_wp2_with fail
  go_loopw [6] (fun i wr => ∃ k : Nat, k ≤ 16 ∧ i = .int .i64 k ∧ Only [] w wr ∧ ArrB wr w.heap.size 16 (fun j => if j < k then xb f q j else 0)) (fun i _ => 16 - (intOf i).toNat)
  case atStart => exact ⟨0, by omega, rfl, (Only.refl _ _).alloc _, (ArrB.new w 16).congr (by intro j _; simp)⟩
  case round =>
    obtain ⟨k, hk, rfl, ho, hb⟩ := hrel
    by_cases hlt : k < 16
    · obtain ⟨x, cx, HX⟩ : ∃ x, wr.cell? (A.add k) = some (.int .u8 x) ∧ Hid (x = f k) := ⟨_, (hA.only ho la (by simp)) k hlt, Lib.hid rfl⟩
      obtain ⟨y, cy, HY⟩ : ∃ x, wr.cell? (B.add k) = some (.int .u8 x) ∧ Hid (x = q k) := ⟨_, (hB.only ho lb (by simp)) k hlt, Lib.hid rfl⟩
      obtain ⟨old, cold⟩ : ∃ o, wr.cell? ⟨w.heap.size, k, none⟩ = some (.int .u8 o) := ⟨_, hb.cell hlt⟩
      have fz := hb.frozen k
      have l1 : (k : Int) < 16 := by omega
      obtain ⟨z, hz, ez, HZ⟩ : ∃ z, (0 ≤ z ∧ z ≤ 255) ∧ bits .xor .u8 x y = z ∧ Hid (z = bits .xor .u8 x y) := ⟨_, u8_bits _ _ _, rfl, Lib.hid rfl⟩
      go_wp2_with fail
      refine region_quiet_tail 12 (by kernel_rfl) (by kernel_rfl) ?_
      simp only [List.take_succ_cons, List.take_zero, List.drop_succ_cons, List.drop_zero]
      repeat (quiet_step (fail))
      refine wpQuiet_nil ?_
      intro _ hw'
      obtain ⟨nq, rfl⟩ := hw'
      go_wp2_with fail
      go_roundw
      case rel =>
        refine ⟨k + 1, by omega, by go_num, (ho.drewN nq).setCell (p := ⟨w.heap.size, k, none⟩) (fun h => absurd h (Nat.lt_irrefl _)) _, (hb.drewN nq).set_ k z fun j hj => ?_⟩
        by_cases hjk : j = k
        · subst hjk
          rw [if_pos (by omega), if_pos rfl, HZ.out, HX.out, HY.out]
          rfl
        · rw [if_neg hjk]
          by_cases h2 : j < k
          · rw [if_pos (by omega), if_pos h2]
          · rw [if_neg (by omega), if_neg h2]
      case measure => simp [intOf]; omega
    · obtain rfl : k = 16 := by omega
      go_wp2_with fail
      go_ret
      exact ⟨_, rfl, Nat.le_refl _, hb.congr (fun j hj => if_pos hj), ho⟩

theorem msb_any (a : Addr) (c : Nat) (w : World) (hc : 16 ≤ c) : Calls Tryd.prog 63 #[.int .i64 128, .slice (some a) 16 c] w fun e w' => e = .returned (.slice (some a) 16 c) ∧ w = w' := by
  have h1 : (16 : Int) ≤ (c : Int) := by omega
  go_enter Tryd.func63, Tryd.ntmps63
  go_wp2_with fail
  go_ret
  exact ⟨rfl, rfl⟩

/-- Bit i of a row, the highest first. -/
def fyi (y : Nat → Int) (i : Nat) : Int := if bits .and .u8 (y (i / 8) / 2 ^ (7 - i % 8)) 1 = 1 then 1 else 0
theorem fyi_at (r : Nat) (hr : r = 0 ∨ r = 1 ∨ r = 2 ∨ r = 3 ∨ r = 4 ∨ r = 5 ∨ r = 6 ∨ r = 7) (Y : Addr) (c : Nat) (v i q : Int) (w : World) (h1 : i / 8 = q) (h2 : i % 8 = (r : Int)) (h3 : 0 ≤ q) (h4 : q < 16) (h5 : IntKind.u64.wrap i = i) (h6 : 0 ≤ i)
    (hc : w.cell? (Y.add q.toNat) = some (.int .u8 v)) :
    Calls Tryd.prog 78 #[.slice (some Y) 16 c, .int .i64 i] w fun e w' => e = .returned (.int .i64 (if bits .and .u8 (v / 2 ^ (7 - r)) 1 = 1 then 1 else 0)) ∧ w = w' := by
  have t1 : i.tdiv 8 = q := by rw [Int.tdiv_eq_ediv_of_nonneg h6, h1]
  have t2 : i.tmod 8 = (r : Int) := by rw [Int.tmod_eq_emod_of_nonneg h6, h2]
  rcases hr with rfl | rfl | rfl | rfl | rfl | rfl | rfl | rfl
  · by_cases hb : bits .and .u8 (v / 128) 1 = 1
    · go_enter Tryd.func78, Tryd.ntmps78
      go_wp2_with fail
      go_ret
      exact ⟨rfl, rfl⟩
    · go_enter Tryd.func78, Tryd.ntmps78
      go_wp2_with fail
      go_ret
      exact ⟨rfl, rfl⟩
  · by_cases hb : bits .and .u8 (v / 64) 1 = 1
    · go_enter Tryd.func78, Tryd.ntmps78
      go_wp2_with fail
      go_ret
      exact ⟨rfl, rfl⟩
    · go_enter Tryd.func78, Tryd.ntmps78
      go_wp2_with fail
      go_ret
      exact ⟨rfl, rfl⟩
  · by_cases hb : bits .and .u8 (v / 32) 1 = 1
    · go_enter Tryd.func78, Tryd.ntmps78
      go_wp2_with fail
      go_ret
      exact ⟨rfl, rfl⟩
    · go_enter Tryd.func78, Tryd.ntmps78
      go_wp2_with fail
      go_ret
      exact ⟨rfl, rfl⟩
  · by_cases hb : bits .and .u8 (v / 16) 1 = 1
    · go_enter Tryd.func78, Tryd.ntmps78
      go_wp2_with fail
      go_ret
      exact ⟨rfl, rfl⟩
    · go_enter Tryd.func78, Tryd.ntmps78
      go_wp2_with fail
      go_ret
      exact ⟨rfl, rfl⟩
  · by_cases hb : bits .and .u8 (v / 8) 1 = 1
    · go_enter Tryd.func78, Tryd.ntmps78
      go_wp2_with fail
      go_ret
      exact ⟨rfl, rfl⟩
    · go_enter Tryd.func78, Tryd.ntmps78
      go_wp2_with fail
      go_ret
      exact ⟨rfl, rfl⟩
  · by_cases hb : bits .and .u8 (v / 4) 1 = 1
    · go_enter Tryd.func78, Tryd.ntmps78
      go_wp2_with fail
      go_ret
      exact ⟨rfl, rfl⟩
    · go_enter Tryd.func78, Tryd.ntmps78
      go_wp2_with fail
      go_ret
      exact ⟨rfl, rfl⟩
  · by_cases hb : bits .and .u8 (v / 2) 1 = 1
    · go_enter Tryd.func78, Tryd.ntmps78
      go_wp2_with fail
      go_ret
      exact ⟨rfl, rfl⟩
    · go_enter Tryd.func78, Tryd.ntmps78
      go_wp2_with fail
      go_ret
      exact ⟨rfl, rfl⟩
  · by_cases hb : bits .and .u8 v 1 = 1
    · rw [if_pos (by simpa using hb)]
      go_enter Tryd.func78, Tryd.ntmps78
      go_wp2_with fail
      go_ret
      exact ⟨rfl, rfl⟩
    · rw [if_neg (by simpa using hb)]
      go_enter Tryd.func78, Tryd.ntmps78
      go_wp2_with fail
      go_ret
      exact ⟨rfl, rfl⟩
theorem fyi_any (Y : Addr) (c : Nat) (y : Nat → Int) (i : Nat) (w : World) (hY : Src w Y 16 y) (hi : i < 128) :
    Calls Tryd.prog 78 #[.slice (some Y) 16 c, .int .i64 i] w fun e w' => e = .returned (.int .i64 (fyi y i)) ∧ w = w' :=
  fyi_at (i % 8) (by omega) Y c (y (i / 8)) i ((i / 8 : Nat) : Int) w (by omega) (by omega) (by omega) (by omega) (IntWalk.u64_in _ (by omega)) (by omega) (hY (i / 8) (by omega))
end Go.Proofs.YtkfagcpboehjjaaDoor
