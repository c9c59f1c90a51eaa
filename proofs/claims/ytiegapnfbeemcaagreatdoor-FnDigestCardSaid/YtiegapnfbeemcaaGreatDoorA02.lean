/-
  Hex numbers, sums, comparisons of eight 32-bit words. No condition.
-/
import Derived.Test.YtiegapnfbeemcaaGreatDoorA01
import Derived.LoopTactic
import Derived.Lib.Hide
import Derived.BigQuiet
import Derived.Deep.QuietTactic
import Derived.ChangeKeysEq
namespace Go.Proofs.YtiegapnfbeemcaaGreatDoor
set_option maxRecDepth 100000
open Go.RowKit

/-- The cells of a number. -/
abbrev c8 (f : Nat → Int) : Array Value := #[.int .u32 (f 0), .int .u32 (f 1), .int .u32 (f 2), .int .u32 (f 3), .int .u32 (f 4), .int .u32 (f 5), .int .u32 (f 6), .int .u32 (f 7)]
abbrev N8 (f : Nat → Int) : Value := .agg (c8 f)
def UU (f : Nat → Int) : Prop := ∀ j, j < 8 → U32 (f j)

theorem c8_at (f : Nat → Int) (j : Nat) (h : j < 8) : (c8 f)[j]? = some (.int .u32 (f j)) := by
  have h : j = 0 ∨ j = 1 ∨ j = 2 ∨ j = 3 ∨ j = 4 ∨ j = 5 ∨ j = 6 ∨ j = 7 := by omega
  rcases h with rfl | rfl | rfl | rfl | rfl | rfl | rfl | rfl <;> rfl
theorem ArrU.new8 (w : World) (t : TypeId) (f : Nat → Int) : ArrU (w.alloc (.cells (c8 f) t)) w.heap.size t 8 f := ⟨c8 f, Blk.new w t _, rfl, fun j hj => c8_at f j hj⟩

/-- Eight words laid at once. -/
def put8 (w : World) (g : Nat) (f : Nat → Int) : World :=
  (((((((w.setCell ⟨g, 0, none⟩ (.int .u32 (f 0))).setCell ⟨g, 1, none⟩ (.int .u32 (f 1))).setCell ⟨g, 2, none⟩ (.int .u32 (f 2))).setCell ⟨g, 3, none⟩ (.int .u32 (f 3))).setCell ⟨g, 4, none⟩ (.int .u32 (f 4))).setCell ⟨g, 5, none⟩ (.int .u32 (f 5))).setCell ⟨g, 6, none⟩ (.int .u32 (f 6))).setCell ⟨g, 7, none⟩ (.int .u32 (f 7))
theorem ArrU.put8 {w : World} {g : Nat} {t : TypeId} {f0 : Nat → Int} (h : ArrU w g t 8 f0) (f : Nat → Int) : ArrU (put8 w g f) g t 8 f := by
  have step : ∀ {W : World} (k : Nat), ArrU W g t 8 (fun j => if j < k then f j else f0 j) → ArrU (W.setCell ⟨g, k, none⟩ (.int .u32 (f k))) g t 8 (fun j => if j < k + 1 then f j else f0 j) := fun k h => h.set_ k _ fun j _ => by
    by_cases e : j = k
    · subst e; simp
    · rw [if_neg e]
      by_cases e2 : j < k
      · rw [if_pos e2, if_pos (by omega)]
      · rw [if_neg e2, if_neg (by omega)]
  exact (step 7 (step 6 (step 5 (step 4 (step 3 (step 2 (step 1 (step 0 (h.congr fun j _ => by simp)))))))) ).congr fun j hj => by rw [if_pos (by omega)]
theorem put8_below {B : Nat} {w W : World} {g : Nat} (h : Below B w W) (hg : B ≤ g) (f : Nat → Int) : Below B w (put8 W g f) :=
  (((((((h.setCell hg _).setCell hg _).setCell hg _).setCell hg _).setCell hg _).setCell hg _).setCell hg _).setCell hg _

section
variable {w : World} {g : Nat} {t : TypeId} {f : Nat → Int}
theorem ArrU.eight (h : ArrU w g t 8 f) : w.cell? ⟨g, 0, none⟩ = some (.int .u32 (f 0)) ∧ w.cell? ⟨g, 1, none⟩ = some (.int .u32 (f 1)) ∧ w.cell? ⟨g, 2, none⟩ = some (.int .u32 (f 2)) ∧ w.cell? ⟨g, 3, none⟩ = some (.int .u32 (f 3)) ∧
    w.cell? ⟨g, 4, none⟩ = some (.int .u32 (f 4)) ∧ w.cell? ⟨g, 5, none⟩ = some (.int .u32 (f 5)) ∧ w.cell? ⟨g, 6, none⟩ = some (.int .u32 (f 6)) ∧ w.cell? ⟨g, 7, none⟩ = some (.int .u32 (f 7)) :=
  ⟨h.cell (by omega), h.cell (by omega), h.cell (by omega), h.cell (by omega), h.cell (by omega), h.cell (by omega), h.cell (by omega), h.cell (by omega)⟩
theorem ArrU.free8 {n : Nat} (h : ArrU w g t n f) : w.frozen? ⟨g, 0, none⟩ = false ∧ w.frozen? ⟨g, 1, none⟩ = false ∧ w.frozen? ⟨g, 2, none⟩ = false ∧ w.frozen? ⟨g, 3, none⟩ = false ∧
    w.frozen? ⟨g, 4, none⟩ = false ∧ w.frozen? ⟨g, 5, none⟩ = false ∧ w.frozen? ⟨g, 6, none⟩ = false ∧ w.frozen? ⟨g, 7, none⟩ = false :=
  ⟨h.frozen 0, h.frozen 1, h.frozen 2, h.frozen 3, h.frozen 4, h.frozen 5, h.frozen 6, h.frozen 7⟩
end

/-- A hexadecimal digit. -/
def hexd (c : Int) : Int := if 48 ≤ c ∧ c ≤ 57 then c - 48 else c - 65 + 10
/-- The number out of the first i of 64 digits. -/
def hexF (s : Nat → Int) : Nat → Nat → Int
  | 0, _ => 0
  | i + 1, j => if j = (63 - i) / 8 then bits .or .u32 (hexF s i j) (hexd (s i) * 2 ^ (4 * ((63 - i) % 8)) % 4294967296) else hexF s i j

def Z8 : Array Value := c8 fun _ => 0
/-- The memory of a call that makes a number: its result's place, its own. -/
structure HM (w wr : World) (f : Nat → Int) : Prop where
  below : Below w.heap.size w wr
  size : w.heap.size + 1 + 1 ≤ wr.heap.size
  res : ArrU wr w.heap.size 26 8 (fun _ => 0)
  arr : ArrU wr (w.heap.size + 1) 26 8 f
theorem HM.start (w : World) : HM w ((w.alloc (.cells (c8 fun _ => 0) 26)).alloc (.cells (c8 fun _ => 0) 26)) (fun _ => 0) := by
  refine ⟨((Below.refl _ _).alloc (Nat.le_refl _) _).alloc (by simp) _, by simp, (ArrU.new8 w 26 _).alloc _, ?_⟩
  have := ArrU.new8 (w.alloc (.cells (c8 fun _ => 0) 26)) 26 (fun _ => 0)
  simpa using this
theorem HM.drewN {w wr : World} {f : Nat → Int} (h : HM w wr f) (n : Nat) : HM w (wr.drewN n) f :=
  ⟨below_drewN h.below n, h.size, h.res, h.arr⟩
theorem HM.set_ {w wr : World} {f f' : Nat → Int} (h : HM w wr f) (i : Nat) (x : Int) (he : ∀ j, j < 8 → f' j = if j = i then x else f j) :
    HM w (wr.setCell ⟨w.heap.size + 1, i, none⟩ (.int .u32 x)) f' :=
  ⟨h.below.setCell (by simp) _, by have := h.size; simpa [World.setCell] using this, h.res.far (by simp) _, h.arr.set_ i x he⟩

theorem hexd_low {c : Int} (h1 : 48 ≤ c) (h2 : c ≤ 57) : hexd c = c - 48 := if_pos ⟨h1, h2⟩
theorem hexd_high {c : Int} (h1 : 65 ≤ c) (h2 : c ≤ 70) : hexd c = c - 65 + 10 := if_neg (by omega)
theorem hex_step (S : Nat → Int) (k q r : Nat) (hq : (63 - k) / 8 = q) (hr : (63 - k) % 8 = r) (x d : Int) (hx : x = bits .or .u32 (hexF S k q) (d * 2 ^ min (4 * r) 32 % 4294967296)) (hd : hexd (S k) = d) (j : Nat) :
    hexF S (k + 1) j = if j = q then x else hexF S k j := by
  rw [hexF, hq, hr, hd, hx, Nat.min_eq_left (by omega)]
  by_cases h : j = q
  · subst h; rfl
  · rw [if_neg h, if_neg h]

theorem hex_any (s : ByteArray) (S : Nat → Int) (w : World) (hs : s.size = 64) (hS : Hid (∀ i (h : i < s.size), S i = (s[i].toNat : Int))) (hd : Hid (∀ i, i < 64 → (48 ≤ S i ∧ S i ≤ 57) ∨ (65 ≤ S i ∧ S i ≤ 70))) :
    Calls Tryz.prog 19 #[.string s] w fun e w' => e = .returned (N8 (hexF S 64)) ∧ Below w.heap.size w w' := by
  go_enter Tryz.func19, Tryz.ntmps19
  go_wp2_with fail
  go_loopw [10] (fun i wr => ∃ k : Nat, k ≤ 64 ∧ i = .int .i64 k ∧ HM w wr (hexF S k)) (fun i _ => 64 - (intOf i).toNat)
  case atStart => exact ⟨0, by omega, rfl, HM.start w⟩
  case round =>
    obtain ⟨k, hk, rfl, hm⟩ := hrel
    by_cases hlt : k < 64
    · have hlt' : k < s.size := by omega
      have hdk := hd.out k hlt
      have hSk := hS.out k hlt'
      rw [hSk] at hdk
      have HSK := Lib.hid hSk
      clear hSk
      obtain ⟨m, hmk⟩ : ∃ m, m + k = 63 := ⟨63 - k, by omega⟩
      have hmi : (63 : Int) - (k : Int) = (m : Int) := by omega
      have HMI := Lib.hid hmi
      clear hmi
      obtain ⟨q, e1, hq⟩ : ∃ q : Nat, IntKind.i64.wrap ((m : Int) / 8) = (q : Int) ∧ q = m / 8 := ⟨m / 8, by rw [IntWalk.i64_in _ (by omega)]; omega, rfl⟩
      obtain ⟨r, e2, hr⟩ : ∃ r : Nat, (m : Int).tmod 8 = (r : Int) ∧ r = m % 8 := ⟨m % 8, by rw [Int.tmod_eq_emod_of_nonneg (by omega)]; omega, rfl⟩
      have e3 : IntKind.i64.wrap (4 * (r : Int)) = 4 * (r : Int) := IntWalk.i64_in _ (by omega)
      have e4 : (4 * (r : Int)).toNat = 4 * r := by omega
      have l1 : (q : Int) < 8 := by omega
      have l2 : (0 : Int) ≤ 4 * (r : Int) := by omega
      have l3 : ¬ (4 * (r : Int) < 0) := by omega
      have ha := hm.arr.cell (j := q) (by omega)
      have hf := hm.arr.frozen q
      have hq' : (63 - k) / 8 = q := by omega
      have hr' : (63 - k) % 8 = r := by omega
      have HQ := Lib.hid (And.intro hq' hr')
      clear hq hr hq' hr'
      rcases hdk with ⟨d1, d2⟩ | ⟨d1, d2⟩
      · have hdd := Lib.hid (hexd_low d1 d2)
        go_wp2_with fail
        rw [HMI.out]
        refine region_quiet_tail 11 (by kernel_rfl) (by kernel_rfl) ?_
        simp only [List.take_succ_cons, List.take_zero, List.drop_succ_cons, List.drop_zero]
        repeat (quiet_step (fail))
        refine wpQuiet_nil ?_
        intro _ hw'
        obtain ⟨nq, rfl⟩ := hw'
        go_wp2_with fail
        go_roundw
        case rel => exact ⟨k + 1, by omega, by go_num, (hm.drewN nq).set_ q _ fun j hj => hex_step S k q r HQ.out.1 HQ.out.2 _ _ rfl (by rw [HSK.out, hdd.out]) j⟩
        case measure => simp [intOf]; omega
      · have hdd := Lib.hid (hexd_high d1 d2)
        have hnd : ¬ ((s[k].toNat : Int) ≤ 57) := by omega
        go_wp2_with fail
        rw [HMI.out]
        refine region_quiet_tail 11 (by kernel_rfl) (by kernel_rfl) ?_
        simp only [List.take_succ_cons, List.take_zero, List.drop_succ_cons, List.drop_zero]
        repeat (quiet_step (fail))
        refine wpQuiet_nil ?_
        intro _ hw'
        obtain ⟨nq, rfl⟩ := hw'
        go_wp2_with fail
        go_roundw
        case rel => exact ⟨k + 1, by omega, by go_num, (hm.drewN nq).set_ q _ fun j hj => hex_step S k q r HQ.out.1 HQ.out.2 _ _ rfl (by rw [HSK.out, hdd.out]) j⟩
        case measure => simp [intOf]; omega
    · obtain rfl : k = 64 := by omega
      obtain ⟨c0, c1, c2, c3, c4, c5, c6, c7⟩ := hm.arr.eight
      obtain ⟨r0, r1, r2, r3, r4, r5, r6, r7⟩ := hm.res.eight
      obtain ⟨f0, f1, f2, f3, f4, f5, f6, f7⟩ := hm.res.free8
      have hR := hm.res.put8 (hexF S 64)
      obtain ⟨k0, k1, k2, k3, k4, k5, k6, k7⟩ := hR.eight
      simp only [put8] at k0 k1 k2 k3 k4 k5 k6 k7
      clear hR
      go_wp2_with fail
      refine bodyPost_ret (v := N8 (hexF S 64)) ?_ rfl ⟨rfl, put8_below hm.below (Nat.le_refl _) (hexF S 64)⟩
      simp [results, Tryz.results19, go_sem, N8, c8, k0, k1, k2, k3, k4, k5, k6, k7]
end Go.Proofs.YtiegapnfbeemcaaGreatDoor

namespace Go.Proofs.YtiegapnfbeemcaaGreatDoor
set_option maxRecDepth 100000
open Go.RowKit

/-- What goes over at digit i of a sum, of a difference. -/
def pc (a b : Nat → Int) : Nat → Int
  | 0 => 0
  | i + 1 => (pc a b i + (a i + b i)) / 4294967296
def plusF (a b : Nat → Int) (j : Nat) : Int := (pc a b j + (a j + b j)) % 4294967296
def mc (a b : Nat → Int) : Nat → Int
  | 0 => 0
  | i + 1 => (mc a b i + (a i - b i)) / 4294967296
def minusF (a b : Nat → Int) (j : Nat) : Int := (mc a b j + (a j - b j)) % 4294967296
theorem pc_le {a b : Nat → Int} (ha : UU a) (hb : UU b) : ∀ i, i ≤ 8 → 0 ≤ pc a b i ∧ pc a b i ≤ 1
  | 0, _ => by simp [pc]
  | i + 1, h => by
    have ih := pc_le ha hb i (by omega)
    have h1 := ha i (by omega)
    have h2 := hb i (by omega)
    unfold U32 at h1 h2
    simp only [pc]
    omega
theorem mc_le {a b : Nat → Int} (ha : UU a) (hb : UU b) : ∀ i, i ≤ 8 → -1 ≤ mc a b i ∧ mc a b i ≤ 0
  | 0, _ => by simp [mc]
  | i + 1, h => by
    have ih := mc_le ha hb i (by omega)
    have h1 := ha i (by omega)
    have h2 := hb i (by omega)
    unfold U32 at h1 h2
    simp only [mc]
    omega
theorem plusF_uu (a b : Nat → Int) : UU (plusF a b) := fun j _ => by unfold plusF U32; omega
theorem minusF_uu (a b : Nat → Int) : UU (minusF a b) := fun j _ => by unfold minusF U32; omega

/-- The memory of a call that takes two numbers and makes one. -/
structure PM (w wr : World) (a b f : Nat → Int) : Prop where
  below : Below w.heap.size w wr
  size : w.heap.size + 1 + 1 + 1 ≤ wr.heap.size
  one : ArrU wr w.heap.size 26 8 a
  two : ArrU wr (w.heap.size + 1) 26 8 b
  arr : ArrU wr (w.heap.size + 1 + 1) 26 8 f
theorem PM.start (w : World) (a b : Nat → Int) : PM w (((w.alloc (.cells (c8 a) 26)).alloc (.cells (c8 b) 26)).alloc (.cells (c8 fun _ => 0) 26)) a b (fun _ => 0) := by
  refine ⟨(((Below.refl _ _).alloc (Nat.le_refl _) _).alloc (by simp) _).alloc (by simp; omega) _, by simp, ((ArrU.new8 w 26 _).alloc _).alloc _, ?_, ?_⟩
  · have := (ArrU.new8 (w.alloc (.cells (c8 a) 26)) 26 b).alloc (.cells (c8 fun _ => 0) 26)
    simpa using this
  · have := ArrU.new8 ((w.alloc (.cells (c8 a) 26)).alloc (.cells (c8 b) 26)) 26 (fun _ => 0)
    simpa using this
theorem PM.start0 (w : World) (a b g : Nat → Int) : PM w (((w.alloc (.cells (c8 a) 26)).alloc (.cells (c8 b) 26)).alloc (.cells (c8 fun _ => 0) 26)) a b (fun j => if j < 0 then g j else 0) :=
  have h := PM.start w a b
  ⟨h.below, h.size, h.one, h.two, h.arr.congr fun j _ => by simp⟩
theorem PM.drewN {w wr : World} {a b f : Nat → Int} (h : PM w wr a b f) (n : Nat) : PM w (wr.drewN n) a b f :=
  ⟨below_drewN h.below n, h.size, h.one, h.two, h.arr⟩
theorem PM.set_ {w wr : World} {a b f f' : Nat → Int} (h : PM w wr a b f) (i : Nat) (x : Int) (he : ∀ j, j < 8 → f' j = if j = i then x else f j) :
    PM w (wr.setCell ⟨w.heap.size + 1 + 1, i, none⟩ (.int .u32 x)) a b f' :=
  ⟨h.below.setCell (by simp; omega) _, by have := h.size; simpa [World.setCell] using this, h.one.far (by simp; omega) _, h.two.far (by simp) _, h.arr.set_ i x he⟩

/-- One more digit is laid. -/
theorem upto_step (g : Nat → Int) {k : Nat} {x : Int} (hx : x = g k) (j : Nat) : (if j < k + 1 then g j else 0) = if j = k then x else if j < k then g j else 0 := by
  by_cases h : j = k
  · subst h; rw [if_pos (by omega), if_pos rfl, hx]
  · rw [if_neg h]
    by_cases h2 : j < k
    · rw [if_pos (by omega), if_pos h2]
    · rw [if_neg (by omega), if_neg h2]

theorem plus_any (a b : Nat → Int) (w : World) (ha : UU a) (hb : UU b) :
    Calls Tryz.prog 58 #[N8 a, N8 b] w fun e w' => e = .returned (.tuple #[N8 (plusF a b), .int .u32 (pc a b 8)]) ∧ Below w.heap.size w w' := by
  go_enter Tryz.func58, Tryz.ntmps58
  go_wp2_with fail
  go_loopw [6, 8] (fun c i wr => ∃ k : Nat, k ≤ 8 ∧ i = .int .i64 k ∧ c = .int .u64 (pc a b k) ∧ PM w wr a b (fun j => if j < k then plusF a b j else 0)) (fun _ i _ => 8 - (intOf i).toNat)
  case atStart => exact ⟨0, by omega, rfl, rfl, PM.start0 w a b (plusF a b)⟩
  case round =>
    obtain ⟨k, hk, rfl, rfl, hm⟩ := hrel
    have hp := pc_le ha hb k hk
    by_cases hlt : k < 8
    · have h1 := hm.one.cell hlt
      have h2 := hm.two.cell hlt
      have h3 := hm.arr.cell hlt
      have f3 := hm.arr.frozen k
      have u1 := ha k hlt
      have u2 := hb k hlt
      unfold U32 at u1 u2
      have l1 : (k : Int) < 8 := by omega
      go_wp2_with fail
      go_quiet (fail)
      go_wp2_with fail
      go_roundw
      case rel =>
        refine ⟨k + 1, by omega, by go_num, rfl, (hm.drewN nq).set_ k _ fun j hj => ?_⟩
        exact upto_step (plusF a b) rfl j
      case measure => simp [intOf]; omega
    · obtain rfl : k = 8 := by omega
      have harr := hm.arr.congr (f' := plusF a b) fun j hj => if_pos hj
      obtain ⟨c0, c1, c2, c3, c4, c5, c6, c7⟩ := harr.eight
      obtain ⟨f0, f1, f2, f3, f4, f5, f6, f7⟩ := harr.free8
      obtain ⟨k0, k1, k2, k3, k4, k5, k6, k7⟩ := (harr.put8 (plusF a b)).eight
      simp only [put8] at k0 k1 k2 k3 k4 k5 k6 k7
      clear harr
      go_wp2_with fail
      refine bodyPost_ret (v := .tuple #[N8 (plusF a b), .int .u32 (pc a b 8)]) ?_ rfl ⟨rfl, put8_below hm.below (by omega) (plusF a b)⟩
      simp [results, Tryz.results58, go_sem, N8, c8, k0, k1, k2, k3, k4, k5, k6, k7]

theorem minus_any (a b : Nat → Int) (w : World) (ha : UU a) (hb : UU b) :
    Calls Tryz.prog 57 #[N8 a, N8 b] w fun e w' => e = .returned (.tuple #[N8 (minusF a b), .int .u32 (- mc a b 8)]) ∧ Below w.heap.size w w' := by
  go_enter Tryz.func57, Tryz.ntmps57
  go_wp2_with fail
  go_loopw [6, 8] (fun c i wr => ∃ k : Nat, k ≤ 8 ∧ i = .int .i64 k ∧ c = .int .i64 (mc a b k) ∧ PM w wr a b (fun j => if j < k then minusF a b j else 0)) (fun _ i _ => 8 - (intOf i).toNat)
  case atStart => exact ⟨0, by omega, rfl, rfl, PM.start0 w a b (minusF a b)⟩
  case round =>
    obtain ⟨k, hk, rfl, rfl, hm⟩ := hrel
    have hp := mc_le ha hb k hk
    by_cases hlt : k < 8
    · have h1 := hm.one.cell hlt
      have h2 := hm.two.cell hlt
      have h3 := hm.arr.cell hlt
      have f3 := hm.arr.frozen k
      have u1 := ha k hlt
      have u2 := hb k hlt
      unfold U32 at u1 u2
      have l1 : (k : Int) < 8 := by omega
      have e1 : IntKind.i64.wrap (a k - b k) = a k - b k := IntWalk.i64_in _ (by omega)
      have e2 : IntKind.i64.wrap (mc a b k + (a k - b k)) = mc a b k + (a k - b k) := IntWalk.i64_in _ (by omega)
      go_wp2_with fail
      go_quiet (fail)
      go_wp2_with fail
      go_roundw
      case rel =>
        refine ⟨k + 1, by omega, by go_num, rfl, (hm.drewN nq).set_ k _ fun j hj => ?_⟩
        exact upto_step (minusF a b) rfl j
      case measure => simp [intOf]; omega
    · obtain rfl : k = 8 := by omega
      have harr := hm.arr.congr (f' := minusF a b) fun j hj => if_pos hj
      obtain ⟨c0, c1, c2, c3, c4, c5, c6, c7⟩ := harr.eight
      obtain ⟨f0, f1, f2, f3, f4, f5, f6, f7⟩ := harr.free8
      obtain ⟨k0, k1, k2, k3, k4, k5, k6, k7⟩ := (harr.put8 (minusF a b)).eight
      simp only [put8] at k0 k1 k2 k3 k4 k5 k6 k7
      clear harr
      go_wp2_with fail
      refine bodyPost_ret (v := .tuple #[N8 (minusF a b), .int .u32 (- mc a b 8)]) ?_ rfl ⟨rfl, put8_below hm.below (by omega) (minusF a b)⟩
      simp [results, Tryz.results57, go_sem, N8, c8, k0, k1, k2, k3, k4, k5, k6, k7]
end Go.Proofs.YtiegapnfbeemcaaGreatDoor

namespace Go.Proofs.YtiegapnfbeemcaaGreatDoor
set_option maxRecDepth 100000
open Go.RowKit

/-- The value of a number. -/
def val8 (f : Nat → Int) : Int :=
  f 0 + 4294967296 * f 1 + 18446744073709551616 * f 2 + 79228162514264337593543950336 * f 3 + 340282366920938463463374607431768211456 * f 4 + 1461501637330902918203684832716283019655932542976 * f 5 +
    6277101735386680763835789423207666416102355444464034512896 * f 6 + 26959946667150639794667015087019630673637144422540572481103610249216 * f 7
theorem UU.all {f : Nat → Int} (h : UU f) : (0 ≤ f 0 ∧ f 0 ≤ 4294967295) ∧ (0 ≤ f 1 ∧ f 1 ≤ 4294967295) ∧ (0 ≤ f 2 ∧ f 2 ≤ 4294967295) ∧ (0 ≤ f 3 ∧ f 3 ≤ 4294967295) ∧ (0 ≤ f 4 ∧ f 4 ≤ 4294967295) ∧ (0 ≤ f 5 ∧ f 5 ≤ 4294967295) ∧ (0 ≤ f 6 ∧ f 6 ≤ 4294967295) ∧ (0 ≤ f 7 ∧ f 7 ≤ 4294967295) :=
  ⟨h 0 (by omega), h 1 (by omega), h 2 (by omega), h 3 (by omega), h 4 (by omega), h 5 (by omega), h 6 (by omega), h 7 (by omega)⟩
theorem less_at {a b : Nat → Int} (ha : UU a) (hb : UU b) {m : Nat} (hm : m < 8) (he : ∀ j, m < j → j < 8 → a j = b j) (hne : a m ≠ b m) : decide (a m < b m) = decide (val8 a < val8 b) := by
  have := ha.all
  have := hb.all
  have h : m = 0 ∨ m = 1 ∨ m = 2 ∨ m = 3 ∨ m = 4 ∨ m = 5 ∨ m = 6 ∨ m = 7 := by omega
  rw [decide_eq_decide]
  unfold val8
  rcases h with rfl | rfl | rfl | rfl | rfl | rfl | rfl | rfl
  · have := he 1 (by omega) (by omega); have := he 2 (by omega) (by omega); have := he 3 (by omega) (by omega); have := he 4 (by omega) (by omega); have := he 5 (by omega) (by omega); have := he 6 (by omega) (by omega); have := he 7 (by omega) (by omega); omega
  · have := he 2 (by omega) (by omega); have := he 3 (by omega) (by omega); have := he 4 (by omega) (by omega); have := he 5 (by omega) (by omega); have := he 6 (by omega) (by omega); have := he 7 (by omega) (by omega); omega
  · have := he 3 (by omega) (by omega); have := he 4 (by omega) (by omega); have := he 5 (by omega) (by omega); have := he 6 (by omega) (by omega); have := he 7 (by omega) (by omega); omega
  · have := he 4 (by omega) (by omega); have := he 5 (by omega) (by omega); have := he 6 (by omega) (by omega); have := he 7 (by omega) (by omega); omega
  · have := he 5 (by omega) (by omega); have := he 6 (by omega) (by omega); have := he 7 (by omega) (by omega); omega
  · have := he 6 (by omega) (by omega); have := he 7 (by omega) (by omega); omega
  · have := he 7 (by omega) (by omega); omega
  · omega
theorem less_same {a b : Nat → Int} (he : ∀ j, j < 8 → a j = b j) : decide (val8 a < val8 b) = false := by
  simp only [val8, he 0 (by omega), he 1 (by omega), he 2 (by omega), he 3 (by omega), he 4 (by omega), he 5 (by omega), he 6 (by omega), he 7 (by omega)]
  simp

/-- The memory of a call that takes two numbers. -/
structure QM (w wr : World) (a b : Nat → Int) : Prop where
  below : Below w.heap.size w wr
  one : ArrU wr w.heap.size 26 8 a
  two : ArrU wr (w.heap.size + 1) 26 8 b
theorem QM.start (w : World) (a b : Nat → Int) : QM w ((w.alloc (.cells (c8 a) 26)).alloc (.cells (c8 b) 26)) a b := by
  refine ⟨((Below.refl _ _).alloc (Nat.le_refl _) _).alloc (by simp) _, (ArrU.new8 w 26 _).alloc _, ?_⟩
  have := ArrU.new8 (w.alloc (.cells (c8 a) 26)) 26 b
  simpa using this
theorem QM.drewN {w wr : World} {a b : Nat → Int} (h : QM w wr a b) (n : Nat) : QM w (wr.drewN n) a b := ⟨below_drewN h.below n, h.one, h.two⟩

theorem less_any (a b : Nat → Int) (w : World) (ha : UU a) (hb : UU b) :
    Calls Tryz.prog 59 #[N8 a, N8 b] w fun e w' => e = .returned (.bool (decide (val8 a < val8 b))) ∧ Below w.heap.size w w' := by
  go_enter Tryz.func59, Tryz.ntmps59
  go_wp2_with fail
  go_loopw [5] (fun i wr => ((∃ m : Nat, m < 8 ∧ i = .int .i64 m ∧ Hid (∀ j, m < j → j < 8 → a j = b j)) ∨ (i = .int .i64 (-1) ∧ Hid (∀ j, j < 8 → a j = b j))) ∧ QM w wr a b) (fun i _ => (intOf i + 1).toNat)
  case atStart => exact ⟨.inl ⟨7, by omega, rfl, fun j h1 h2 => by omega⟩, QM.start w a b⟩
  case round =>
    obtain ⟨hi, hm⟩ := hrel
    rcases hi with ⟨m, hlt, rfl, he⟩ | ⟨rfl, he⟩
    · have h1 := hm.one.cell hlt
      have h2 := hm.two.cell hlt
      have l1 : (m : Int) < 8 := by omega
      by_cases hd : a m = b m
      · have he' : Hid (∀ j, m ≤ j → j < 8 → a j = b j) := fun j h3 h4 => by
          rcases Nat.eq_or_lt_of_le h3 with h5 | h5
          · subst h5; exact hd
          · exact he.out j h5 h4
        rw [hd] at h1
        clear hd he
        go_wp2_with fail
        go_quiet (fail)
        go_wp2_with fail
        go_roundw
        case rel =>
          refine ⟨?_, hm.drewN nq⟩
          rcases Nat.eq_zero_or_pos m with h0 | h0
          · subst h0; exact .inr ⟨rfl, fun j h => he'.out j (Nat.zero_le _) h⟩
          · exact .inl ⟨m - 1, by omega, by rw [show ((m - 1 : Nat) : Int) = (m : Int) - 1 by omega], fun j h3 h4 => he'.out j (by omega) h4⟩
        case measure => simp [intOf]
      · have hans := Lib.hid (less_at ha hb hlt he.out hd)
        have hne : (a m == b m) = false := by simpa using hd
        go_wp2_with fail
        go_quiet (fail)
        go_wp2_with fail
        go_quiet (fail)
        go_wp2_with fail
        go_ret
        exact ⟨by rw [← hans.out]; rfl, ((hm.drewN _).drewN _).below⟩
    · have hs := less_same he.out
      go_wp2_with fail
      go_ret
      exact ⟨by rw [hs]; rfl, hm.below⟩
end Go.Proofs.YtiegapnfbeemcaaGreatDoor

namespace Go.Proofs.YtiegapnfbeemcaaGreatDoor
set_option maxRecDepth 100000
open Go.RowKit

theorem ArrU.down {w w' : World} {g n : Nat} {t : TypeId} {f : Nat → Int} (h : ArrU w g t n f) (hb : Below w.heap.size w w') : ArrU w' g t n f := h.below hb h.lt

/-- A number comes back, whichever; what was there is as it was. -/
def RetN (w : World) (e : Ending) (w' : World) : Prop := ∃ f, e = .returned (N8 f) ∧ UU f ∧ Below w.heap.size w w'
def RetB (w : World) (e : Ending) (w' : World) : Prop := ∃ b, e = .returned (.bool b) ∧ Below w.heap.size w w'

def primeF : Nat → Int
  | 2 => 0
  | 7 => 4294967294
  | _ => 4294967295
theorem primeF_uu : UU primeF := fun j _ => by unfold primeF U32; split <;> omega
theorem part8 (a : Nat → Int) (i : Nat) (hi : i < 8) (w : World) : (part 24 (c8 a) (i * 1)).run Tryz.prog w = .ok (.int .u32 (a i)) w := by
  have h : i = 0 ∨ i = 1 ∨ i = 2 ∨ i = 3 ∨ i = 4 ∨ i = 5 ∨ i = 6 ∨ i = 7 := by omega
  rcases h with rfl | rfl | rfl | rfl | rfl | rfl | rfl | rfl <;> rfl
theorem eq_u32 (d : Nat) (x y : Int) (w : World) : (Op.equalIn (d + 1) 24 (.int .u32 x) (.int .u32 y)).run Tryz.prog w = .ok (x == y) w := by
  simp [Op.equalIn, run_underlying Tryz.underlying24]
theorem eqItems8 (d : Nat) (a b : Nat → Int) (w : World) : ∀ is : List Nat, (∀ i ∈ is, i < 8) → (Op.eqItems (d + 1) 24 1 (c8 a) (c8 b) is).run Tryz.prog w = .ok (is.all fun i => a i == b i) w
  | [], _ => by simp [Op.eqItems]
  | i :: is, h => by
    have ih := eqItems8 d a b w is fun j hj => h j (List.mem_cons_of_mem _ hj)
    simp only [Op.eqItems, Sem.run_bind, part8 a i (h i List.mem_cons_self), part8 b i (h i List.mem_cons_self), Result.andThen_ok, eq_u32, List.all_cons]
    cases hx : (a i == b i)
    · simp
    · simpa using ih
theorem info24 : ∃ i, Tryz.prog.info? 24 = some i := by
  cases h : Tryz.prog.info? 24 with
  | some i => exact ⟨i, rfl⟩
  | none => exact absurd (show (Tryz.prog.info? 24).isSome = true by kernel_rfl) (by rw [h]; simp)
/-- Two numbers are the same one. -/
theorem eq8 (a b : Nat → Int) (w : World) : (Op.equalIn 10000 26 (.agg #[.int .u32 (a 0), .int .u32 (a 1), .int .u32 (a 2), .int .u32 (a 3), .int .u32 (a 4), .int .u32 (a 5), .int .u32 (a 6), .int .u32 (a 7)])
    (.agg #[.int .u32 (b 0), .int .u32 (b 1), .int .u32 (b 2), .int .u32 (b 3), .int .u32 (b 4), .int .u32 (b 5), .int .u32 (b 6), .int .u32 (b 7)])).run Tryz.prog w = .ok ((List.range 8).all fun i => a i == b i) w := by
  obtain ⟨i, hi⟩ := info24
  have h := run_equalIn_array (P := Tryz.prog) w 9999 (t := 26) (e := 24) (n := 8) (c8 a) (c8 b) Tryz.underlying26 hi
  rw [show Tryz.prog.cellsOf 24 = 1 by kernel_rfl] at h
  exact h.trans (eqItems8 9998 a b w _ fun j hj => by simpa using hj)

theorem prime_any (w : World) : Calls Tryz.prog 30 #[] w fun e w' => e = .returned (N8 primeF) ∧ Below w.heap.size w w' := by
  go_enter Tryz.func30, Tryz.ntmps30
  go_wp2_with fail
  refine bodyPost_ret (v := N8 primeF) ?_ rfl ⟨rfl, (Below.refl _ _).alloc (Nat.le_refl _) _⟩
  simp [results, Tryz.results30, go_sem, primeF]

def zeroB (a : Nat → Int) : Bool := a 0 == 0 && (a 1 == 0 && (a 2 == 0 && (a 3 == 0 && (a 4 == 0 && (a 5 == 0 && (a 6 == 0 && a 7 == 0))))))
theorem zero_any (a : Nat → Int) (w : World) : Calls Tryz.prog 31 #[N8 a] w fun e w' => e = .returned (.bool (zeroB a)) ∧ Below w.heap.size w w' := by
  obtain ⟨c0, c1, c2, c3, c4, c5, c6, c7⟩ := (ArrU.new8 w 26 a).eight
  have he := fun W => eq8 a (fun _ => 0) W
  go_enter Tryz.func31, Tryz.ntmps31
  go_wp2_with fail
  go_ret
  exact ⟨rfl, (Below.refl _ _).alloc (Nat.le_refl _) _⟩

/-- The memory of a call that takes three numbers and makes one. -/
structure TM (w wr : World) (a b m : Nat → Int) : Prop where
  below : Below w.heap.size w wr
  size : w.heap.size + 1 + 1 + 1 + 1 ≤ wr.heap.size
  one : ArrU wr w.heap.size 26 8 a
  two : ArrU wr (w.heap.size + 1) 26 8 b
  three : ArrU wr (w.heap.size + 1 + 1) 26 8 m
  res : ArrU wr (w.heap.size + 1 + 1 + 1) 26 8 (fun _ => 0)
theorem TM.start (w : World) (a b m : Nat → Int) : TM w ((((w.alloc (.cells (c8 a) 26)).alloc (.cells (c8 b) 26)).alloc (.cells (c8 m) 26)).alloc (.cells (c8 fun _ => 0) 26)) a b m := by
  refine ⟨((((Below.refl _ _).alloc (Nat.le_refl _) _).alloc (by simp) _).alloc (by simp; omega) _).alloc (by simp; omega) _, by simp, (((ArrU.new8 w 26 _).alloc _).alloc _).alloc _, ?_, ?_, ?_⟩
  · have := ((ArrU.new8 (w.alloc (.cells (c8 a) 26)) 26 b).alloc (.cells (c8 m) 26)).alloc (.cells (c8 fun _ => 0) 26)
    simpa using this
  · have := (ArrU.new8 ((w.alloc (.cells (c8 a) 26)).alloc (.cells (c8 b) 26)) 26 m).alloc (.cells (c8 fun _ => 0) 26)
    simpa using this
  · have := ArrU.new8 (((w.alloc (.cells (c8 a) 26)).alloc (.cells (c8 b) 26)).alloc (.cells (c8 m) 26)) 26 (fun _ => 0)
    simpa using this
theorem TM.down {w wr w' : World} {a b m : Nat → Int} (h : TM w wr a b m) (hb : Below wr.heap.size wr w') : TM w w' a b m :=
  ⟨h.below.trans (hb.mono h.below.size), Nat.le_trans h.size hb.size, h.one.down hb, h.two.down hb, h.three.down hb, h.res.down hb⟩

theorem TM.put {w wr : World} {a b m : Nat → Int} (h : TM w wr a b m) {g : Nat} (hg : w.heap.size + 1 + 1 + 1 < g) (f : Nat → Int) : TM w (put8 wr g f) a b m := by
  have far : ∀ {k : Nat} {x : Nat → Int}, k < g → ArrU wr k 26 8 x → ArrU (put8 wr g f) k 26 8 x := fun {k x} hk hx =>
    (((((((hx.far (p := ⟨g, 0, none⟩) (by simp; omega) _).far (p := ⟨g, 1, none⟩) (by simp; omega) _).far (p := ⟨g, 2, none⟩) (by simp; omega) _).far (p := ⟨g, 3, none⟩) (by simp; omega) _).far (p := ⟨g, 4, none⟩) (by simp; omega) _).far (p := ⟨g, 5, none⟩) (by simp; omega) _).far (p := ⟨g, 6, none⟩) (by simp; omega) _).far (p := ⟨g, 7, none⟩) (by simp; omega) _
  refine ⟨put8_below h.below (by omega) f, ?_, far (by omega) h.one, far (by omega) h.two, far (by omega) h.three, far hg h.res⟩
  have := h.size
  simpa [put8, World.setCell] using this

def subF (a b m : Nat → Int) : Nat → Int := if mc a b 8 = 0 then minusF a b else plusF (minusF a b) m
theorem subF_uu (a b m : Nat → Int) : UU (subF a b m) := by
  unfold subF
  split
  · exact minusF_uu _ _
  · exact plusF_uu _ _
def addF (a b m : Nat → Int) : Nat → Int := if pc a b 8 = 1 then minusF (plusF a b) m else if val8 (plusF a b) < val8 m then plusF a b else minusF (plusF a b) m
theorem addF_uu (a b m : Nat → Int) : UU (addF a b m) := by
  unfold addF
  split
  · exact minusF_uu _ _
  · split
    · exact plusF_uu _ _
    · exact minusF_uu _ _

set_option maxHeartbeats 1000000 in
theorem submod_any (a b m : Nat → Int) (w : World) (ha : UU a) (hb : UU b) (hm : UU m) : Calls Tryz.prog 33 #[N8 a, N8 b, N8 m] w fun e w' => e = .returned (N8 (subF a b m)) ∧ Below w.heap.size w w' := by
  have hres : Hid ((mc a b 8 = 0 → subF a b m = minusF a b) ∧ (¬ mc a b 8 = 0 → subF a b m = plusF (minusF a b) m)) := ⟨fun h => if_pos h, fun h => if_neg h⟩
  generalize subF a b m = res at *
  have T := TM.start w a b m
  obtain ⟨a0, a1, a2, a3, a4, a5, a6, a7⟩ := T.one.eight
  go_enter Tryz.func33, Tryz.ntmps33
  go_wp2_with fail
  clear a0 a1 a2 a3 a4 a5 a6 a7
  generalize (((w.alloc (.cells (c8 a) 26)).alloc (.cells (c8 b) 26)).alloc (.cells (c8 m) 26)).alloc (.cells (c8 fun _ => 0) 26) = W at *
  refine (minus_any a b W ha hb).mono ?_
  rintro e W1 ⟨rfl, hB1⟩
  have hmc := mc_le ha hb 8 (Nat.le_refl _)
  have U1 := minusF_uu a b
  have T1 := T.down hB1
  have hgt : w.heap.size + 1 + 1 + 1 < W1.heap.size := by have := T1.size; omega
  clear T hB1
  generalize hx : minusF a b = x at *
  clear hx
  obtain ⟨r0, r1, r2, r3, r4, r5, r6, r7⟩ := T1.res.eight
  obtain ⟨f0, f1, f2, f3, f4, f5, f6, f7⟩ := T1.res.free8
  by_cases hu : mc a b 8 = 0
  · have hans := Lib.hid (hres.out.1 hu)
    rw [hu]
    clear hu hmc hres
    go_wp2_with fail
    have hR := (T1.res.put8 x).alloc (.cells (c8 x) 26)
    obtain ⟨k0, k1, k2, k3, k4, k5, k6, k7⟩ := hR.eight
    simp only [put8] at k0 k1 k2 k3 k4 k5 k6 k7
    refine bodyPost_ret (v := N8 x) ?_ rfl ⟨by rw [hans.out], (put8_below T1.below (by omega) x).alloc (by have := T1.below.size; simp [put8, World.setCell]; omega) _⟩
    simp [results, Tryz.results33, go_sem, k0, k1, k2, k3, k4, k5, k6, k7]
  · have hans := Lib.hid (hres.out.2 hu)
    have hu0 : mc a b 8 = -1 := by omega
    rw [hu0]
    clear hu hu0 hmc hres
    obtain ⟨c0, c1, c2, c3, c4, c5, c6, c7⟩ := T1.three.eight
    have hgt2 : w.heap.size + 1 + 1 < W1.heap.size := by omega
    go_wp2_with fail
    have O2 := ArrU.new8 W1 26 x
    have T2 := T1.down ((Below.refl _ _).alloc (Nat.le_refl _) (.cells (c8 x) 26))
    clear r0 r1 r2 r3 r4 r5 r6 r7 f0 f1 f2 f3 f4 f5 f6 f7 c0 c1 c2 c3 c4 c5 c6 c7
    refine (plus_any x m _ U1 hm).mono ?_
    rintro e W2 ⟨rfl, hB2⟩
    have U2 := plusF_uu x m
    generalize hy : plusF x m = y at *
    clear hy
    have T3 := T2.down hB2
    have O3 := O2.down hB2
    clear T1 T2 O2 hB2
    have hn1 : ¬ (w.heap.size + 1 + 1 + 1 = W1.heap.size) := by omega
    have hn2 : ¬ (W1.heap.size = w.heap.size + 1 + 1 + 1) := by omega
    have hres := T3.res
    have T4 := T3.put hgt y
    have hR := T4.res.put8 y
    obtain ⟨r0, r1, r2, r3, r4, r5, r6, r7⟩ := T3.res.eight
    obtain ⟨f0, f1, f2, f3, f4, f5, f6, f7⟩ := T3.res.free8
    obtain ⟨o0, o1, o2, o3, o4, o5, o6, o7⟩ := O3.eight
    obtain ⟨g0, g1, g2, g3, g4, g5, g6, g7⟩ := O3.free8
    obtain ⟨k0, k1, k2, k3, k4, k5, k6, k7⟩ := hR.eight
    simp only [put8] at k0 k1 k2 k3 k4 k5 k6 k7
    go_wp2_with fail
    refine bodyPost_ret (v := N8 y) ?_ rfl ⟨by rw [hans.out], put8_below T4.below (by omega) y⟩
    simp [results, Tryz.results33, go_sem, k0, k1, k2, k3, k4, k5, k6, k7]

set_option maxHeartbeats 2000000 in
theorem addmod_any (a b m : Nat → Int) (w : World) (ha : UU a) (hb : UU b) (hm : UU m) : Calls Tryz.prog 34 #[N8 a, N8 b, N8 m] w fun e w' => e = .returned (N8 (addF a b m)) ∧ Below w.heap.size w w' := by
  have hres : Hid ((pc a b 8 = 1 → addF a b m = minusF (plusF a b) m) ∧ (¬ pc a b 8 = 1 → val8 (plusF a b) < val8 m → addF a b m = plusF a b) ∧ (¬ pc a b 8 = 1 → ¬ val8 (plusF a b) < val8 m → addF a b m = minusF (plusF a b) m)) :=
    ⟨fun h => if_pos h, fun h h2 => (if_neg h).trans (if_pos h2), fun h h2 => (if_neg h).trans (if_neg h2)⟩
  generalize addF a b m = res at *
  have T := TM.start w a b m
  go_enter Tryz.func34, Tryz.ntmps34
  go_wp2_with fail
  generalize (((w.alloc (.cells (c8 a) 26)).alloc (.cells (c8 b) 26)).alloc (.cells (c8 m) 26)).alloc (.cells (c8 fun _ => 0) 26) = W at *
  refine (plus_any a b W ha hb).mono ?_
  rintro e W1 ⟨rfl, hB1⟩
  have hmc := pc_le ha hb 8 (Nat.le_refl _)
  have U1 := plusF_uu a b
  have T1 := T.down hB1
  have hgt : w.heap.size + 1 + 1 + 1 < W1.heap.size := by have := T1.size; omega
  have hgt2 : w.heap.size + 1 + 1 < W1.heap.size := by omega
  have hn1 : ¬ (w.heap.size + 1 + 1 + 1 = W1.heap.size) := by omega
  have hn2 : ¬ (W1.heap.size = w.heap.size + 1 + 1 + 1) := by omega
  clear T hB1
  generalize hx : plusF a b = x at *
  clear hx
  have O2 := ArrU.new8 W1 26 x
  have T2 := T1.down ((Below.refl _ _).alloc (Nat.le_refl _) (.cells (c8 x) 26))
  obtain ⟨c0, c1, c2, c3, c4, c5, c6, c7⟩ := T1.three.eight
  by_cases hu : pc a b 8 = 1
  · have hans := Lib.hid (hres.out.1 hu)
    rw [hu]
    clear hu hmc hres
    go_wp2_with fail
    clear c0 c1 c2 c3 c4 c5 c6 c7 T1
    refine (minus_any x m _ U1 hm).mono ?_
    rintro e W3 ⟨rfl, hB3⟩
    have U2 := minusF_uu x m
    generalize hy : minusF x m = y at *
    clear hy
    have T3 := T2.down hB3
    have O3 := O2.down hB3
    clear T2 O2 hB3
    have T4 := T3.put hgt y
    have hR := T4.res.put8 y
    obtain ⟨r0, r1, r2, r3, r4, r5, r6, r7⟩ := T3.res.eight
    obtain ⟨f0, f1, f2, f3, f4, f5, f6, f7⟩ := T3.res.free8
    obtain ⟨o0, o1, o2, o3, o4, o5, o6, o7⟩ := O3.eight
    obtain ⟨g0, g1, g2, g3, g4, g5, g6, g7⟩ := O3.free8
    obtain ⟨k0, k1, k2, k3, k4, k5, k6, k7⟩ := hR.eight
    simp only [put8] at k0 k1 k2 k3 k4 k5 k6 k7
    go_wp2_with fail
    refine bodyPost_ret (v := N8 y) ?_ rfl ⟨by rw [hans.out], put8_below T4.below (by omega) y⟩
    simp [results, Tryz.results34, go_sem, k0, k1, k2, k3, k4, k5, k6, k7]
  · have hA := Lib.hid (hres.out.2.1 hu)
    have hB := Lib.hid (hres.out.2.2 hu)
    have hu0 : pc a b 8 = 0 := by omega
    rw [hu0]
    clear hu hu0 hmc hres
    go_wp2_with fail
    clear c0 c1 c2 c3 c4 c5 c6 c7 T1
    refine (less_any x m _ U1 hm).mono ?_
    rintro e W2 ⟨rfl, hB2⟩
    replace T2 := T2.down hB2
    replace O2 := O2.down hB2
    clear hB2
    obtain ⟨c0, c1, c2, c3, c4, c5, c6, c7⟩ := T2.three.eight
    obtain ⟨o0, o1, o2, o3, o4, o5, o6, o7⟩ := O2.eight
    by_cases hl : val8 x < val8 m
    · have hans := Lib.hid (hA.out hl)
      rw [show decide (val8 x < val8 m) = true by simpa using hl]
      clear hl hA hB
      obtain ⟨r0, r1, r2, r3, r4, r5, r6, r7⟩ := T2.res.eight
      obtain ⟨f0, f1, f2, f3, f4, f5, f6, f7⟩ := T2.res.free8
      obtain ⟨k0, k1, k2, k3, k4, k5, k6, k7⟩ := (T2.res.put8 x).eight
      simp only [put8] at k0 k1 k2 k3 k4 k5 k6 k7
      go_wp2_with fail
      refine bodyPost_ret (v := N8 x) ?_ rfl ⟨by rw [hans.out], put8_below T2.below (by omega) x⟩
      simp [results, Tryz.results34, go_sem, k0, k1, k2, k3, k4, k5, k6, k7]
    · have hans := Lib.hid (hB.out (by omega))
      rw [show decide (val8 x < val8 m) = false by simpa using hl]
      clear hl hA hB
      go_wp2_with fail
      clear c0 c1 c2 c3 c4 c5 c6 c7 o0 o1 o2 o3 o4 o5 o6 o7
      refine (minus_any x m _ U1 hm).mono ?_
      rintro e W3 ⟨rfl, hB3⟩
      have U2 := minusF_uu x m
      generalize hy : minusF x m = y at *
      clear hy
      have T3 := T2.down hB3
      have O3 := O2.down hB3
      clear T2 O2 hB3
      have T4 := T3.put hgt y
      have hR := T4.res.put8 y
      obtain ⟨r0, r1, r2, r3, r4, r5, r6, r7⟩ := T3.res.eight
      obtain ⟨f0, f1, f2, f3, f4, f5, f6, f7⟩ := T3.res.free8
      obtain ⟨o0, o1, o2, o3, o4, o5, o6, o7⟩ := O3.eight
      obtain ⟨g0, g1, g2, g3, g4, g5, g6, g7⟩ := O3.free8
      obtain ⟨k0, k1, k2, k3, k4, k5, k6, k7⟩ := hR.eight
      simp only [put8] at k0 k1 k2 k3 k4 k5 k6 k7
      go_wp2_with fail
      refine bodyPost_ret (v := N8 y) ?_ rfl ⟨by rw [hans.out], put8_below T4.below (by omega) y⟩
      simp [results, Tryz.results34, go_sem, k0, k1, k2, k3, k4, k5, k6, k7]
end Go.Proofs.YtiegapnfbeemcaaGreatDoor

namespace Go.Proofs.YtiegapnfbeemcaaGreatDoor
set_option maxRecDepth 100000
open Go.RowKit

/-- Block g is an array of n integers of kind q, integer j being f j. -/
def ArrK (q : IntKind) (w : World) (g : Nat) (t : TypeId) (n : Nat) (f : Nat → Int) : Prop :=
  ∃ cs, Blk w g t cs ∧ cs.size = n ∧ ∀ j, j < n → cs[j]? = some (.int q (f j))
section
variable {q : IntKind} {w w' : World} {g n : Nat} {t : TypeId} {f f' : Nat → Int}
theorem ArrK.lt (h : ArrK q w g t n f) : g < w.heap.size := let ⟨_, h, _, _⟩ := h; h.lt
theorem ArrK.cell (h : ArrK q w g t n f) {j : Nat} (hj : j < n) : w.cell? ⟨g, j, none⟩ = some (.int q (f j)) := by
  obtain ⟨cs, hb, _, hc⟩ := h
  rw [hb.cell, hc j hj]
theorem ArrK.frozen (h : ArrK q w g t n f) (j : Nat) : w.frozen? ⟨g, j, none⟩ = false := let ⟨_, hb, _, _⟩ := h; hb.frozen j
theorem ArrK.drewN (h : ArrK q w g t n f) (k : Nat) : ArrK q (w.drewN k) g t n f := h
theorem ArrK.alloc (h : ArrK q w g t n f) (o : Obj) : ArrK q (w.alloc o) g t n f := let ⟨cs, hb, h⟩ := h; ⟨cs, hb.alloc o, h⟩
theorem ArrK.far (h : ArrK q w g t n f) {p : Addr} (hp : g ≠ p.block) (u : Value) : ArrK q (w.setCell p u) g t n f := let ⟨cs, hb, h⟩ := h; ⟨cs, hb.far hp u, h⟩
theorem ArrK.down (h : ArrK q w g t n f) (hb : Below w.heap.size w w') : ArrK q w' g t n f := let ⟨cs, h1, h⟩ := h; ⟨cs, h1.below hb h1.lt, h⟩
theorem ArrK.below {B : Nat} (h : ArrK q w g t n f) (hb : Below B w w') (hg : g < B) : ArrK q w' g t n f := let ⟨cs, h1, h⟩ := h; ⟨cs, h1.below hb hg, h⟩
theorem ArrK.congr (h : ArrK q w g t n f) (he : ∀ j, j < n → f j = f' j) : ArrK q w g t n f' := let ⟨cs, h1, h2, h3⟩ := h; ⟨cs, h1, h2, fun j hj => by rw [h3 j hj, he j hj]⟩
theorem ArrK.set_ (h : ArrK q w g t n f) (i : Nat) (x : Int) (he : ∀ j, j < n → f' j = if j = i then x else f j) : ArrK q (w.setCell ⟨g, i, none⟩ (.int q x)) g t n f' := by
  obtain ⟨cs, h1, h2, h3⟩ := h
  refine ⟨_, h1.set_ i _, by simp [h2], fun j hj => ?_⟩
  rw [he j hj, Array.getElem?_setIfInBounds]
  by_cases hij : i = j
  · subst hij; simp [h2, hj]
  · rw [if_neg hij, h3 j hj, if_neg (fun e => hij e.symm)]
end

/-- What goes over at digit i. -/
def sc (D : Nat → Int) : Nat → Int
  | 0 => 0
  | i + 1 => (sc D i + D i) / 4294967296
def se (D : Nat → Int) (j : Nat) : Int := (sc D j + D j) % 4294967296
def small (D : Nat → Int) : Prop := ∀ j, j < 8 → -1099511627776 ≤ D j ∧ D j ≤ 1099511627776
theorem small.all {f : Nat → Int} (h : small f) : (-1099511627776 ≤ f 0 ∧ f 0 ≤ 1099511627776) ∧ (-1099511627776 ≤ f 1 ∧ f 1 ≤ 1099511627776) ∧ (-1099511627776 ≤ f 2 ∧ f 2 ≤ 1099511627776) ∧ (-1099511627776 ≤ f 3 ∧ f 3 ≤ 1099511627776) ∧
    (-1099511627776 ≤ f 4 ∧ f 4 ≤ 1099511627776) ∧ (-1099511627776 ≤ f 5 ∧ f 5 ≤ 1099511627776) ∧ (-1099511627776 ≤ f 6 ∧ f 6 ≤ 1099511627776) ∧ (-1099511627776 ≤ f 7 ∧ f 7 ≤ 1099511627776) :=
  ⟨h 0 (by omega), h 1 (by omega), h 2 (by omega), h 3 (by omega), h 4 (by omega), h 5 (by omega), h 6 (by omega), h 7 (by omega)⟩
theorem sc_le {D : Nat → Int} (h : small D) : ∀ i, i ≤ 8 → -257 ≤ sc D i ∧ sc D i ≤ 257
  | 0, _ => by simp [sc]
  | i + 1, hi => by
    have ih := sc_le h i (by omega)
    have h1 := h i (by omega)
    simp only [sc]
    omega
theorem se_uu (D : Nat → Int) : UU (se D) := fun j _ => by unfold se U32; omega
/-- What a round leaves. -/
def nx (D : Nat → Int) (j : Nat) : Int := if j = 0 then se D 0 + sc D 8 else if j = 2 then se D 2 - sc D 8 else if j = 3 then se D 3 + sc D 8 else if j = 7 then se D 7 + sc D 8 else se D j
theorem nx_small {D : Nat → Int} (h : small D) : small (nx D) := fun j hj => by
  have h1 := sc_le h 8 (by omega)
  have h2 := se_uu D j hj
  have h3 := se_uu D 0 (by omega)
  have h4 := se_uu D 2 (by omega)
  have h5 := se_uu D 3 (by omega)
  have h6 := se_uu D 7 (by omega)
  unfold U32 at h2 h3 h4 h5 h6
  unfold nx
  split
  · omega
  · split
    · omega
    · split
      · omega
      · split <;> omega
theorem val_split (D : Nat → Int) : val8 D = val8 (se D) + 115792089237316195423570985008687907853269984665640564039457584007913129639936 * sc D 8 := by
  have e0 : sc D 1 = (sc D 0 + D 0) / 4294967296 := rfl
  have e1 : sc D 2 = (sc D 1 + D 1) / 4294967296 := rfl
  have e2 : sc D 3 = (sc D 2 + D 2) / 4294967296 := rfl
  have e3 : sc D 4 = (sc D 3 + D 3) / 4294967296 := rfl
  have e4 : sc D 5 = (sc D 4 + D 4) / 4294967296 := rfl
  have e5 : sc D 6 = (sc D 5 + D 5) / 4294967296 := rfl
  have e6 : sc D 7 = (sc D 6 + D 6) / 4294967296 := rfl
  have e7 : sc D 8 = (sc D 7 + D 7) / 4294967296 := rfl
  have e : sc D 0 = 0 := rfl
  unfold val8 se
  omega
theorem val_uu {f : Nat → Int} (h : UU f) : 0 ≤ val8 f ∧ val8 f < 115792089237316195423570985008687907853269984665640564039457584007913129639936 := by
  have := h.all
  unfold val8
  omega
/-- How far it is to the end. -/
def stg (v : Int) : Nat :=
  if 0 ≤ v ∧ v < 115792089237316195423570985008687907853269984665640564039457584007913129639936 then 0
  else if -(13803492693581127574869511724554050904902217944340773110325048447598592000000) ≤ v ∧ v < 115792089237316195423570985008687907853269984665640564039457584007913129639936 + 13803492693581127574869511724554050904902217944340773110325048447598592000000 then 1 else 2
theorem val_nx (D : Nat → Int) : val8 (nx D) = val8 (se D) + 26959946667150639794667015087019630673637144422540572481103610249216 * sc D 8 + 79228162514264337593543950336 * sc D 8 - 18446744073709551616 * sc D 8 + sc D 8 := by
  simp only [val8, nx]
  simp
  omega
theorem stg_nx {D : Nat → Int} (h : small D) (hc : sc D 8 ≠ 0) : stg (val8 (nx D)) < stg (val8 D) := by
  have h1 := sc_le h 8 (by omega)
  have h2 := val_uu (se_uu D)
  have h3 := val_split D
  have h4 := val_nx D
  unfold stg
  split <;> split <;> (try split) <;> (try split) <;> omega
end Go.Proofs.YtiegapnfbeemcaaGreatDoor
