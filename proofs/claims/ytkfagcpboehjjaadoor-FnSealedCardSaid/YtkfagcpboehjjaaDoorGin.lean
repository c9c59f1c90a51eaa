/- The next counter, laid behind the one before; a row of counters: exactly, where no byte is 255. No condition but where things lie. -/
import Derived.Test.YtkfagcpboehjjaaDoorCop
import Derived.Test.YtkfagcpboehjjaaDoorModw
namespace Go.Proofs.YtkfagcpboehjjaaDoor
set_option maxRecDepth 100000
open Go.RowKit

/-- The sixteen bytes at p once more behind them, the last one more by one; up to the k-th from behind. -/
def nextF (F : Nat → Int) (p k j : Nat) : Int := if p + 16 ≤ j ∧ j < p + 32 then (if j = p + 31 ∧ k ≤ 15 then F (p + 15) + 1 else F (j - 16)) else F j

set_option maxHeartbeats 1000000 in
theorem addone_any (g p N c1 c2 : Nat) (F : Nat → Int) (w : World) (hb : ArrB w g N F) (hf : Bf F) (hN : p + 32 ≤ N) (h15 : F (p + 15) < 255) (hlow : ∀ j, j < 15 → F (p + j) ≠ 255) :
    Calls Tryd.prog 69 #[.slice (some ⟨g, p, none⟩) 16 c1, .slice (some ⟨g, p + 16, none⟩) 16 c2] w (Done [g] (fun w' => ArrB w' g N (nextF F p 0)) w) := by
  go_enter Tryd.func69, Tryd.ntmps69
  go_wp2_with fail
  refine region_quiet_tail 4 (by kernel_rfl) (by kernel_rfl) ?_
  simp only [List.take_succ_cons, List.take_zero, List.drop_succ_cons, List.drop_zero]
  repeat (quiet_step (fail))
  refine wpQuiet_nil ?_
  intro _ hw'
  obtain ⟨nq, rfl⟩ := hw'
  go_wp2_with (refine copy_any rfl (.tmp 8) (.tmp 10) rfl g (p + 16) 16 c2 N 16 c1 16 ⟨g, p, none⟩ F (fun j => F (p + j)) rfl rfl rfl (hb.drewN nq) (by omega) ((hb.drewN nq).src (o := p) (m := 16) (by omega)) ?_; intro w2 ho2 hd2)
  have hb2 : ArrB w2 g N (nextF F p 16) := hd2.congr fun j hj => by
    unfold nextF
    by_cases h : p + 16 ≤ j ∧ j < p + 32
    · rw [if_pos (by omega), if_pos h, if_neg (by omega), show p + (j - (p + 16)) = j - 16 by omega]
    · rw [if_neg (by omega), if_neg h]
  have ho3 : Only [g] w w2 := ((Only.refl _ w).drewN nq).then_ ho2 (by simp)
  clear ho2 hd2 hb
  go_loopw [6, 5] (fun i r wr => ∃ k : Nat, k ≤ 16 ∧ i = .int .i64 ((k : Int) - 1) ∧ r = .int .u8 0 ∧ ArrB wr g N (nextF F p k) ∧ Only [g] w wr) (fun i _ _ => (intOf i + 1).toNat)
  case atStart => exact ⟨16, by omega, rfl, rfl, hb2, ho3⟩
  case round =>
    clear hb2 ho3
    obtain ⟨k, hk, rfl, rfl, hB, hbel⟩ := hrel
    by_cases h0 : k = 0
    · subst h0
      rw [show ((0 : Nat) : Int) - 1 = -1 from rfl]
      go_wp2_with fail
      simp [bodyPost, results, Tryd.results69]
      exact ⟨rfl, hbel, hB⟩
    · obtain ⟨m, rfl⟩ : ∃ m, k = m + 1 := ⟨k - 1, by omega⟩
      clear h0
      have hm1 : ((m + 1 : Nat) : Int) - 1 = (m : Int) := by omega
      rw [hm1]
      have a0 := hB.cell (j := p + 16 + m) (by omega)
      have f0 := hB.frozen (p + 16 + m)
      have bm := hf (p + m)
      by_cases hz : m = 15
      · subst hz
        have ev : nextF F p (15 + 1) (p + 16 + 15) = F (p + 15) := by unfold nextF; rw [if_pos (by omega), if_neg (by omega), show p + 16 + 15 - 16 = p + 15 by omega]
        rw [ev] at a0
        have e1 := IntWalk.u8_in (F (p + 15) + 1) (by omega)
        go_wp2_with fail
        go_roundw
        case rel =>
          refine ⟨15, by omega, rfl, rfl, hB.set_ (p + 16 + 15) _ fun j hj => ?_, hbel.set1 (by simp) (p + 16 + 15) _⟩
          unfold nextF
          by_cases h : j = p + 16 + 15
          · subst h
            rw [if_pos (by omega), if_pos (by omega), if_pos rfl]
          · rw [if_neg h]
            by_cases h2 : p + 16 ≤ j ∧ j < p + 32
            · rw [if_pos h2, if_pos h2, if_neg (by omega), if_neg (by omega)]
            · rw [if_neg h2, if_neg h2]
        case measure => simp [intOf]
      · have ev : nextF F p (m + 1) (p + 16 + m) = F (p + m) := by unfold nextF; rw [if_pos (by omega), if_neg (by omega), show p + 16 + m - 16 = p + m by omega]
        rw [ev] at a0
        have e1 := IntWalk.u8_in (F (p + m)) bm
        have l0 : ¬ ((m : Int) = 15) := by omega
        have l1 : (m : Int) < 16 := by omega
        have l2 : F (p + m) < 255 := by have := hlow m (by omega); omega
        go_wp2_with fail
        go_roundw
        case rel =>
          refine ⟨m, by omega, by go_num, rfl, hB.set_ (p + 16 + m) _ fun j hj => ?_, hbel.set1 (by simp) (p + 16 + m) _⟩
          by_cases h : j = p + 16 + m
          · rw [if_pos h, h]
            unfold nextF
            rw [if_pos (by omega), if_neg (by omega), show p + 16 + m - 16 = p + m by omega]
          · rw [if_neg h]
            unfold nextF
            by_cases h2 : p + 16 ≤ j ∧ j < p + 32
            · rw [if_pos h2, if_pos h2]
              by_cases h3 : j = p + 31
              · rw [if_pos (by omega), if_pos (by omega)]
              · rw [if_neg (by omega), if_neg (by omega)]
            · rw [if_neg h2, if_neg h2]
        case measure => simp [intOf]

/-- The counters behind y, the first k of them. -/
def ctr (y : Nat → Int) (p : Nat) : Int := if p % 16 = 15 then y 15 + ((p / 16 : Nat) : Int) else y (p % 16)
def ctrU (y : Nat → Int) (k p : Nat) : Int := if p < 16 * k then ctr y p else 0
theorem ctrU_bf {y : Nat → Int} (hy : Bf y) (h15 : y 15 = 1) {k : Nat} (hk : k ≤ 40) : Bf (ctrU y k) := fun p => by
  unfold ctrU ctr
  have := hy (p % 16)
  split
  · split <;> omega
  · omega
theorem nextF_ctrU {y : Nat → Int} {q k : Nat} (hk : k = q + 1) : ∀ j, nextF (ctrU y k) (16 * q) 0 j = ctrU y (k + 1) j := fun j => by
  subst hk
  unfold nextF ctrU ctr
  by_cases h : 16 * q + 16 ≤ j ∧ j < 16 * q + 32
  · rw [if_pos h, if_pos (show j < 16 * (q + 1 + 1) by omega)]
    by_cases h2 : j = 16 * q + 31
    · rw [if_pos (by omega), if_pos (by omega), if_pos (by omega), if_pos (by omega)]
      omega
    · rw [if_neg (by omega), if_pos (by omega), if_neg (by omega), if_neg (by omega), show (j - 16) % 16 = j % 16 by omega]
  · rw [if_neg h]
    by_cases h2 : j < 16 * (q + 1)
    · rw [if_pos h2, if_pos (show j < 16 * (q + 1 + 1) by omega)]
    · rw [if_neg h2, if_neg (show ¬ j < 16 * (q + 1 + 1) by omega)]

set_option maxHeartbeats 2000000 in
theorem incr_any (n : Nat) (Y : Addr) (c : Nat) (y : Nat → Int) (w : World) (hY : Src w Y 16 y) (hy : Bf y) (lY : Y.block < w.heap.size) (hn : 1 ≤ n) (hn2 : n ≤ 40) (h15 : y 15 = 1) (hlow : ∀ j, j < 15 → y j ≠ 255) :
    Calls Tryd.prog 61 #[.int .i64 n, .slice (some Y) 16 c] w (GotB (16 * n) (ctr y) w) := by
  have hmk := make_any n (by omega)
  have e0 := IntWalk.i64_in (16 * (n : Int)) (by omega)
  have ha : Only [] w (w.alloc (.cells (madeCells #[.int .u8 0] (16 * n)) 5)) := (Only.refl _ _).alloc _
  have hgo := ArrB.made w (16 * n)
  have hY1 := hY.only ha lY (by simp)
  go_enter Tryd.func61, Tryd.ntmps61
  go_wp2_with (refine copy_any rfl (.tmp 10) (.tmp 11) rfl w.heap.size 0 (16 * n) (16 * n) (16 * n) 16 c 16 Y (fun _ => 0) y rfl rfl (by show 16 = min 16 (16 * n); omega) hgo (by omega) hY1 ?_; intro w2 ho2 hd2)
  have hb2 : ArrB w2 w.heap.size (16 * n) (ctrU y 1) := hd2.congr fun j hj => by
    unfold ctrU ctr
    by_cases h : j < 16
    · rw [if_pos (by omega), if_pos (by omega), show j - 0 = j by omega, show j % 16 = j by omega]
      by_cases h2 : j = 15
      · subst h2; rw [if_pos rfl]; omega
      · rw [if_neg h2]
    · rw [if_neg (by omega), if_neg (by omega)]
  have ho3 : Only [] w w2 := ha.then_ ho2 (by intro a ha hl; simp at ha; omega)
  clear ho2 hd2 hmk hgo hY1 ha
  go_loopw [6] (fun i wr => ∃ k : Nat, 1 ≤ k ∧ k ≤ n ∧ i = .int .i64 k ∧ ArrB wr w.heap.size (16 * n) (ctrU y k) ∧ Only [] w wr) (fun i _ => n - (intOf i).toNat)
  case atStart => exact ⟨1, by omega, hn, rfl, hb2, ho3⟩
  case round =>
    clear hb2 ho3
    obtain ⟨k, hk0, hk, rfl, hB, hbel⟩ := hrel
    by_cases hlt : k < n
    · have l1 : (k : Int) < (n : Int) := by omega
      obtain ⟨q, q1, hq⟩ : ∃ q : Nat, IntKind.i64.wrap ((k : Int) - 1) = (q : Int) ∧ k = q + 1 := ⟨k - 1, by rw [IntWalk.i64_in _ (by omega)]; omega, by omega⟩
      obtain ⟨p, p0, p1, p2, p3, p4, p5, p6, p7, p8, p9, p10, HP⟩ := place q n (16 * n) (by omega) (by omega) (Nat.le_refl _)
      obtain ⟨s, s0, s1, s2, s3, s4, s5, s6, s7, s8, s9, s10, HS⟩ := place k n (16 * n) hlt (by omega) (Nat.le_refl _)
      have hadd := fun nq => addone_any w.heap.size (16 * q) (16 * n) (16 * n - p) (16 * n - s) (ctrU y k) (wr.drewN nq) (hB.drewN nq) (ctrU_bf hy h15 (by omega)) (by omega)
        (by unfold ctrU ctr; rw [if_pos (by omega), if_pos (by omega), h15]; omega) (fun j hj => by unfold ctrU ctr; rw [if_pos (by omega), if_neg (by omega), show (16 * q + j) % 16 = j by omega]; exact hlow j hj)
      rw [show 16 * q + 16 = s by have := HS.out; omega, ← HP.out] at hadd
      have hq' := Lib.hid hq
      clear hq
      go_wp2_with fail
      refine region_quiet_tail 17 (by kernel_rfl) (by kernel_rfl) ?_
      simp only [List.take_succ_cons, List.take_zero, List.drop_succ_cons, List.drop_zero]
      repeat (quiet_step (fail))
      refine wpQuiet_nil ?_
      intro _ hw'
      obtain ⟨nq, rfl⟩ := hw'
      go_wp2_with (go_at_call 69; refine (hadd nq).mono ?_; rintro e w4 ⟨rfl, ho4, hd4⟩)
      go_roundw
      case rel =>
        exact ⟨k + 1, by omega, by omega, by go_num, hd4.congr fun j _ => by rw [HP.out]; exact nextF_ctrU hq'.out j, (hbel.drewN nq).then_ ho4 (by intro a ha hl; simp at ha; omega)⟩
      case measure => simp [intOf]; omega
    · obtain rfl : k = n := by omega
      go_wp2_with fail
      go_ret
      exact ⟨_, rfl, Nat.le_refl _, hB.congr fun j hj => by unfold ctrU; rw [if_pos hj], hbel⟩
end Go.Proofs.YtkfagcpboehjjaaDoor
