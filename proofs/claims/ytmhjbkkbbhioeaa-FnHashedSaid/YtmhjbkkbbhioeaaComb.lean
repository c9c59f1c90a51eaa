/- Bytes one behind the other: what the library's function gives and what the law gathers. No condition. -/
import Derived.Test.YtmhjbkkbbhioeaaShift
import Derived.WalkKit
import Derived.LoopTactic
import Derived.BigQuiet
import Derived.WalkSpells
import Derived.Laws.MakeOwn
import Derived.Deep.OwnRows
namespace Go.Proofs.Ytmhjbkkbbhioeaa
open Go.RowKit

/-- The first rows, one behind the other. -/
def cat (lr : Nat → List Int) : Nat → List Int
  | 0 => []
  | r + 1 => cat lr r ++ lr r

theorem cat_mono (lr : Nat → List Int) {m n : Nat} (h : m ≤ n) : (cat lr m).length ≤ (cat lr n).length := by
  induction n with
  | zero => have : m = 0 := by omega
            subst this; exact Nat.le_refl _
  | succ n ih =>
    by_cases e : m = n + 1
    · subst e; exact Nat.le_refl _
    · have := ih (by omega)
      simp only [cat, List.length_append]; omega
theorem cat_part (lr : Nat → List Int) {r n : Nat} (h : r < n) : (cat lr r).length + (lr r).length ≤ (cat lr n).length := by
  have := cat_mono lr (m := r + 1) (n := n) h
  simpa [cat] using this

/-- What came in: n slices of bytes, together not long. -/
structure Parts (w : World) (ad : Option Addr) (n : Nat) (A : Nat → Option Addr) (L C : Nat → Nat) (lr : Nat → List Int) : Prop where
  cell : ∀ r, r < n → ∃ a, ad = some a ∧ a.block < w.heap.size ∧ w.cell? (a.add r) = some (.slice (A r) (L r) (C r))
  reads : ∀ r, r < n → Reads w w.heap.size 1 (A r) (L r) ((lr r).map (Value.int .u8))
  total : (cat lr n).length ≤ 1048576
  few : n ≤ 1048576

section
variable {w w' : World} {ad : Option Addr} {n : Nat} {A : Nat → Option Addr} {L C : Nat → Nat} {lr : Nat → List Int}
theorem Parts.below (h : Parts w ad n A L C lr) (hb : Below w.heap.size w w') : Parts w' ad n A L C lr :=
  ⟨fun r hr => by
    obtain ⟨a, e, h1, h2⟩ := h.cell r hr
    exact ⟨a, e, Nat.lt_of_lt_of_le h1 hb.size, (hb.cell (by rw [block_of_add]; exact h1)).trans h2⟩, fun r hr => ((h.reads r hr).below hb).more hb.size, h.total, h.few⟩
theorem Parts.len (h : Parts w ad n A L C lr) {r : Nat} (hr : r < n) : L r = (lr r).length := by
  have := (h.reads r hr).1
  rw [List.length_map, Nat.mul_one] at this
  exact this.symm
theorem Parts.room (h : Parts w ad n A L C lr) {r : Nat} (hr : r < n) : (cat lr r).length + L r ≤ 1048576 := by
  have := cat_part lr hr
  have := h.total
  rw [h.len hr]
  omega
end

theorem fits_any (ad : Option Addr) (n c : Nat) (A : Nat → Option Addr) (L C : Nat → Nat) (lr : Nat → List Int) (w : World) (hp : Parts w ad n A L C lr) :
    Calls Try.prog 7 #[.slice ad n c] w fun e w' => e = .returned (.bool true) ∧ w' = w := by
  have hf := hp.few
  have h1 : ¬ (2147483647 : Int) < (n : Int) := by omega
  go_enter Try.func7, Try.ntmps7
  go_wp2_with fail
  go_loopw [10] (fun i wr => ∃ k : Nat, k ≤ n ∧ i = .int .i64 k ∧ wr = w) (fun i _ => n - (intOf i).toNat)
  case atStart => exact ⟨0, Nat.zero_le _, rfl, rfl⟩
  case round =>
    obtain ⟨k, hk, rfl, rfl⟩ := hrel
    by_cases hlt : k < n
    · obtain ⟨a, rfl, hab, hcell⟩ := hp.cell k hlt
      have hr := hp.room hlt
      have l1 : (k : Int) < (n : Int) := by omega
      have l2 : ¬ (2147483647 : Int) < (L k : Int) := by omega
      go_wp2_with fail
      go_roundw
      case rel => exact ⟨k + 1, hlt, by go_num, trivial⟩
      case measure => simp [intOf]; omega
    · obtain rfl : k = n := by omega
      go_wp2_with fail
      go_ret
      exact ⟨rfl, rfl⟩

theorem info24 : (Try.prog.info? 24).map (fun i => (i.zero, i.size, i.bytes)) = some (some (.slice none 0 0), 1, 24) := by kernel_rfl

/-- The library's own copy of the rows' heads: the first k of n are laid. -/
def Heads (w : World) (g n k : Nat) (A : Nat → Option Addr) (L C : Nat → Nat) : Prop :=
  ∃ cs, Blk w g 24 cs ∧ cs.size = n ∧ (∀ j, j < n → ∃ B m c, cs[j]? = some (.slice B m c)) ∧ ∀ j, j < k → cs[j]? = some (.slice (A j) (L j) (C j))
section
variable {w w' : World} {g n k : Nat} {A : Nat → Option Addr} {L C : Nat → Nat}
theorem Heads.start (w : World) (n : Nat) (A : Nat → Option Addr) (L C : Nat → Nat) : Heads (w.alloc (.cells (madeCells #[.slice none 0 0] n) 24)) w.heap.size n 0 A L C :=
  ⟨_, Blk.new w 24 _, size_madeCells _ _, fun j hj => ⟨none, 0, 0, by simp [madeCells, hj, Nat.mod_one]⟩, fun j hj => absurd hj (by omega)⟩
theorem Heads.old (h : Heads w g n k A L C) {j : Nat} (hj : j < n) : ∃ B m c, w.cell? ⟨g, j, none⟩ = some (.slice B m c) := by
  obtain ⟨cs, hb, _, hc, _⟩ := h
  obtain ⟨B, m, c, e⟩ := hc j hj
  exact ⟨B, m, c, by rw [hb.cell, e]⟩
theorem Heads.cell (h : Heads w g n k A L C) {j : Nat} (hj : j < k) : w.cell? ⟨g, j, none⟩ = some (.slice (A j) (L j) (C j)) := by
  obtain ⟨cs, hb, _, _, hc⟩ := h
  rw [hb.cell, hc j hj]
theorem Heads.frozen (h : Heads w g n k A L C) (j : Nat) : w.frozen? ⟨g, j, none⟩ = false := let ⟨_, hb, _⟩ := h; hb.frozen j
theorem Heads.below {B : Nat} (h : Heads w g n k A L C) (hb : Below B w w') (hg : g < B) : Heads w' g n k A L C := let ⟨cs, h1, h⟩ := h; ⟨cs, h1.below hb hg, h⟩
theorem Heads.lt (h : Heads w g n k A L C) : g < w.heap.size := let ⟨_, h, _⟩ := h; h.lt
theorem Heads.put (h : Heads w g n k A L C) (hk : k < n) : Heads (w.setCell ⟨g, k, none⟩ (.slice (A k) (L k) (C k))) g n (k + 1) A L C := by
  obtain ⟨cs, hb, hs, hc, hd⟩ := h
  refine ⟨_, hb.set_ k _, by simpa using hs, fun j hj => ?_, fun j hj => ?_⟩
  · rw [Array.getElem?_setIfInBounds]
    by_cases e : k = j
    · subst e; exact ⟨A k, L k, C k, by simp [hs, hk]⟩
    · rw [if_neg e]; exact hc j hj
  · rw [Array.getElem?_setIfInBounds]
    by_cases e : k = j
    · subst e; simp [hs, hk]
    · rw [if_neg e]; exact hd j (by omega)
end

set_option maxHeartbeats 1000000 in
theorem combine_any (ad : Option Addr) (n c : Nat) (A : Nat → Option Addr) (L C : Nat → Nat) (lr : Nat → List Int) (w : World) (hp : Parts w ad n A L C lr) :
    Calls Try.prog 17 #[.slice ad n c] w (RetBytes w (cat lr n)) := by
  have hf := hp.few
  have hmk := run_make_row' (P := Try.prog) 22 24 (.slice none 0 0) 24 Try.underlying22 info24 rfl .i64 .i64 n (by omega) (by omega)
  have hb0 : Below w.heap.size w (w.alloc (.cells (madeCells #[.slice none 0 0] n) 24)) := (Below.refl _ _).alloc (Nat.le_refl _) _
  have hh0 := Heads.start w n A L C
  go_enter Try.func17, Try.ntmps17
  go_wp2_with fail
  go_loopw [5] (fun i wr => ∃ k : Nat, k ≤ n ∧ i = .int .i64 k ∧ Below w.heap.size w wr ∧ Heads wr w.heap.size n k A L C) (fun i _ => n - (intOf i).toNat)
  case atStart => exact ⟨0, Nat.zero_le _, rfl, hb0, hh0⟩
  case round =>
    obtain ⟨k, hk, rfl, hb, hh⟩ := hrel
    by_cases hlt : k < n
    · obtain ⟨a, rfl, hab, hcell⟩ := (hp.below hb).cell k hlt
      obtain ⟨B, m, c', hold⟩ := hh.old hlt
      have hz := hh.frozen k
      have l1 : (k : Int) < (n : Int) := by omega
      go_wp2_with fail
      go_roundw
      case rel => exact ⟨k + 1, hlt, by go_num, hb.setCell (Nat.le_refl _) _, hh.put hlt⟩
      case measure => simp [intOf]; omega
    · obtain rfl : k = n := by omega
      clear hb0 hh0 hmk hlt hk
      have hpr := hp.below hb
      go_wp2_with fail
      go_loopw [6, 27] (fun v i wr2 => ∃ m : Nat, m ≤ k ∧ i = .int .i64 m ∧ OwnB wr2 (w.heap.size + 1) v (cat lr m) ∧ Below (w.heap.size + 1) wr wr2) (fun _ i _ => k - (intOf i).toNat)
      case atStart => exact ⟨0, Nat.zero_le _, rfl, World.ownsRow_nil _ _ 5 1, Below.refl _ _⟩
      case round =>
        obtain ⟨m, hm, rfl, hown, hb2⟩ := hrel
        have hgs := hh.lt
        by_cases hlt : m < k
        · have hcell := (hh.below hb2 (Nat.lt_succ_self _)).cell hlt
          have hbw := hb.trans (hb2.mono (Nat.le_succ _))
          have hrd := (hp.below hbw).reads m hlt
          have hrm := hp.room hlt
          have hsz := hb2.size
          have l1 : (m : Int) < (k : Int) := by omega
          go_wp2_with (at_builtin; refine app_bytes _ rfl (.tmp 31) (.tmp 32) rfl (w.heap.size + 1) _ (cat lr m) rfl hown _ (A m) (L m) (C m) (lr m) rfl hrd (by omega) (by omega) ?_; intro v1 w1 hown1 hb1)
          go_roundw
          case rel => exact ⟨m + 1, hlt, by go_num, hown1, hb2.trans hb1⟩
          case measure => simp [intOf]; omega
        · obtain rfl : m = k := by omega
          go_wp2_with fail
          go_ret
          exact ⟨_, rfl, OwnB.lift hown (Nat.le_succ _), hb.trans (hb2.mono (Nat.le_succ _))⟩

/-- The adapter's: a copy of it. -/
theorem combined_any (ad : Option Addr) (n c : Nat) (A : Nat → Option Addr) (L C : Nat → Nat) (lr : Nat → List Int) (w : World) (hp : Parts w ad n A L C lr) :
    Calls Try.prog 9 #[.slice ad n c] w (RetBytes w (cat lr n)) := by
  have ht := hp.total
  go_enter Try.func9, Try.ntmps9
  go_wp2_with fail
  refine (combine_any ad n c A L C lr w hp).mono ?_
  rintro e w1 ⟨v, rfl, hv, hB1⟩
  obtain ⟨A1, c1, e1⟩ := hv.shaped
  subst e1
  go_wp2_with fail
  refine (own_any A1 _ c1 (cat lr n) w1 hv.reads.2 (by omega)).mono ?_
  rintro e w2 ⟨v2, rfl, hv2, hB2⟩
  go_wp2_with fail
  go_ret
  exact ⟨v2, rfl, hv2.lift hB1.size, hB1.trans (hB2.mono hB1.size)⟩

set_option maxHeartbeats 1000000 in
theorem fncombined_any (ad : Option Addr) (n c : Nat) (A : Nat → Option Addr) (L C : Nat → Nat) (lr : Nat → List Int) (w : World) (hp : Parts w ad n A L C lr) :
    Calls Try.prog 3 #[.slice ad n c] w fun e w' => e = .returned (.bool true) ∧ Below w.heap.size w w' := by
  have hf := hp.few
  go_enter Try.func3, Try.ntmps3
  go_wp2_with fail
  refine (fits_any ad n c A L C lr w hp).mono ?_
  rintro e w1 ⟨rfl, rfl⟩
  go_wp2_with fail
  go_loopw [3, 11] (fun v i wr => ∃ m : Nat, m ≤ n ∧ i = .int .i64 m ∧ OwnB wr w1.heap.size v (cat lr m) ∧ Below w1.heap.size w1 wr) (fun _ i _ => n - (intOf i).toNat)
  case atStart => exact ⟨0, Nat.zero_le _, rfl, World.ownsRow_nil _ _ 5 1, Below.refl _ _⟩
  case round =>
    obtain ⟨m, hm, rfl, hown, hb⟩ := hrel
    by_cases hlt : m < n
    · obtain ⟨a, rfl, hab, hcell⟩ := (hp.below hb).cell m hlt
      have hrd := (hp.below hb).reads m hlt
      have hrm := hp.room hlt
      have hsz := hb.size
      have l1 : (m : Int) < (n : Int) := by omega
      go_wp2_with (at_builtin; refine app_bytes _ rfl (.tmp 15) (.tmp 16) rfl w1.heap.size _ (cat lr m) rfl hown _ (A m) (L m) (C m) (lr m) rfl hrd (by omega) hsz ?_; intro v1 w2 hown1 hb1)
      go_roundw
      case rel => exact ⟨m + 1, hlt, by go_num, hown1, hb.trans hb1⟩
      case measure => simp [intOf]; omega
    · obtain rfl : m = n := by omega
      obtain ⟨A1, c1, rfl⟩ := hown.shaped
      clear hlt hm
      by_cases h50 : 50 < m
      · have h50' : (50 : Int) < (m : Int) := by omega
        go_wp2_with fail
        go_ret
        exact ⟨rfl, hb⟩
      · have h50' : ¬ (50 : Int) < (m : Int) := by omega
        by_cases h4 : 4096 < (cat lr m).length
        · have h4' : (4096 : Int) < ((cat lr m).length : Int) := by omega
          go_wp2_with fail
          go_ret
          exact ⟨rfl, hb⟩
        · have h4' : ¬ (4096 : Int) < ((cat lr m).length : Int) := by omega
          go_wp2_with fail
          refine (combined_any ad m c A L C lr _ (hp.below hb)).mono ?_
          rintro e w3 ⟨v3, rfl, hv3, hB3⟩
          obtain ⟨A3, c3, rfl⟩ := hv3.shaped
          go_wp2_with fail
          refine (same_any _ _ _ _ _ _ (cat lr m) w3 hv3.reads.2 (OwnB.below hown hB3 (Nat.le_refl _)).reads.2).mono ?_
          rintro e w4 ⟨rfl, rfl⟩
          go_wp2_with fail
          go_ret
          exact ⟨rfl, hb.trans (hB3.mono hb.size)⟩
end Go.Proofs.Ytmhjbkkbbhioeaa
