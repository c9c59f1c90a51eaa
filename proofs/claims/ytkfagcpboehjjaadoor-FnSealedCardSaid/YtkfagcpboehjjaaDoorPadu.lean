/- Bytes are padded to whole blocks, exactly. No condition but how many there are. The padding is taken away, where it is one. No condition but that. -/
import Derived.Test.YtkfagcpboehjjaaDoorXor
import Derived.Deep.OwnRows
import Derived.Laws.MakeOwn
namespace Go.Proofs.YtkfagcpboehjjaaDoor
set_option maxRecDepth 100000
open Go.RowKit

theorem info5' : (Tryd.prog.info? 5).map (fun i => (i.zero, i.size, i.bytes)) = some (some (.int .u8 0), 1, 1) := by kernel_rfl
theorem ArrB.made (w : World) (n : Nat) : ArrB (w.alloc (.cells (madeCells #[.int .u8 0] n) 5)) w.heap.size n (fun _ => 0) :=
  ⟨_, Blk.new w 5 _, by rw [size_madeCells]; omega, fun j hj => by
    rw [← Array.getElem?_toList, toList_madeCells_one]
    simp [hj]⟩

/-- A list's bytes. -/
def lF (l : List Int) (j : Nat) : Int := l.getD j 0
/-- They are all bytes. -/
def Byl (l : List Int) : Prop := ∀ x ∈ l, 0 ≤ x ∧ x ≤ 255
theorem lF_bf {l : List Int} (h : Byl l) : Bf (lF l) := fun j => byte_getD h j
/-- The padding: as many bytes as go on to the next sixteen. -/
def padN (n : Nat) : Nat := 16 - n % 16
def padL (l : List Int) : List Int := l ++ List.replicate (padN l.length) (padN l.length : Int)
theorem padL_length (l : List Int) : (padL l).length = 16 * (l.length / 16 + 1) := by
  unfold padL padN
  simp
  omega
theorem padL_byl {l : List Int} (h : Byl l) : Byl (padL l) := fun x hx => by
  rcases List.mem_append.1 hx with h1 | h1
  · exact h x h1
  · have := List.eq_of_mem_replicate h1
    have h2 : padN l.length ≤ 16 := Nat.sub_le _ _
    omega
theorem range_map_getD (l : List Int) : (List.range l.length).map (lF l) = l := by
  refine List.ext_getElem (by simp) fun j h1 h2 => ?_
  simp [lF, List.getD_eq_getElem?_getD, List.getElem?_eq_getElem h2]

/-- Whole blocks come back, in a block of their own. -/
def GotP (base : Nat) (l : List Int) (w : World) (e : Ending) (w' : World) : Prop := ∃ g k c, e = .returned (.slice (some ⟨g, 0, none⟩) (16 * k) c) ∧ 16 * k ≤ c ∧ k ≤ 63 ∧ base ≤ g ∧ (padL l).length = 16 * k ∧ ArrB w' g (16 * k) (lF (padL l)) ∧ Below base w w'

set_option maxHeartbeats 1000000 in
theorem pad_any (A : Option Addr) (n c base : Nat) (l : List Int) (w : World) (hl : l.length = n) (hown : OwnB w base (.slice A n c) l) (hn : n ≤ 1000) (hb : base ≤ w.heap.size) :
    Calls Tryd.prog 43 #[.slice A n c] w (GotP base l w) := by
  obtain ⟨r, q, e1, e2, hq, hq1, hq2, hq3⟩ : ∃ r q : Nat, (n : Int) % 16 = (r : Int) ∧ IntKind.i64.wrap (16 - (r : Int)) = (q : Int) ∧ (∃ k, n + q = 16 * k ∧ k ≤ 63) ∧ 1 ≤ q ∧ q ≤ 16 ∧ q = padN n :=
    ⟨n % 16, 16 - n % 16, by omega, by rw [IntWalk.i64_in _ (by omega)]; omega, ⟨n / 16 + 1, by omega, by omega⟩, by omega, by omega, rfl⟩
  obtain ⟨k, hk, hk4⟩ := hq
  have HK := Lib.hid hk
  have HL := Lib.hid hl
  have HQ := Lib.hid hq3
  clear hk hl hq3
  have hmk := run_make_row' (P := Tryd.prog) 22 5 (.int .u8 0) 1 Tryd.underlying22 info5' rfl .i64 .i64 q (by omega) (by omega)
  have e3 : 0 ≤ (n : Int) % 16 := by omega
  go_enter Tryd.func43, Tryd.ntmps43
  go_wp2_with fail
  go_loopw [14] (fun i wr => ∃ j : Nat, j ≤ q ∧ i = .int .i64 j ∧ Only [] w wr ∧ ArrB wr w.heap.size q (fun m => if m < j then (q : Int) else 0)) (fun i _ => q - (intOf i).toNat)
  case atStart => exact ⟨0, by omega, rfl, (Only.refl _ _).alloc _, (ArrB.made w q).congr (by intro j _; simp)⟩
  case round =>
    clear hmk
    obtain ⟨j, hj, rfl, ho, hbb⟩ := hrel
    by_cases hlt : j < q
    · obtain ⟨old, cold⟩ : ∃ o, wr.cell? ⟨w.heap.size, j, none⟩ = some (.int .u8 o) := ⟨_, hbb.cell hlt⟩
      have fz := hbb.frozen j
      have l1 : (j : Int) < (q : Int) := by omega
      have l2 : (q : Int) ≤ 255 := by omega
      go_wp2_with fail
      go_roundw
      case rel =>
        refine ⟨j + 1, hlt, by go_num, ho.setCell (p := ⟨w.heap.size, j, none⟩) (fun h => absurd h (Nat.lt_irrefl _)) _, hbb.set_ j (q : Int) fun m hm => ?_⟩
        by_cases hjk : m = j
        · rw [if_pos hjk, if_pos (by omega)]
        · rw [if_neg hjk]
          by_cases h2 : m < j
          · rw [if_pos (by omega), if_pos h2]
          · rw [if_neg (by omega), if_neg h2]
      case measure => simp [intOf]; omega
    · obtain rfl : j = q := by omega
      have hpr := hbb.reads
      have hpl : (List.range j).map (fun m => if m < j then (j : Int) else 0) = List.replicate j (j : Int) := by
        refine List.ext_getElem (by simp) fun m h1 h2 => ?_
        simp at h1
        simp [h1]
      rw [hpl] at hpr
      have hown2 : OwnB wr base (.slice A n c) l := hown.below ho.to_below' (Nat.le_refl _)
      have hsz := ho.size
      clear e1 e2 e3 hlt hj hpl
      go_wp2_with (at_builtin; refine app_bytes _ rfl (.tmp 23) (.tmp 24) rfl base _ l rfl hown2 wr.heap.size (some ⟨w.heap.size, 0, none⟩) j j (List.replicate j (j : Int)) rfl hpr (by rw [HL.out]; omega) (by omega) ?_; intro v1 w1 hown1 hb1)
      go_ret
      have hpe : l ++ List.replicate j (j : Int) = padL l := by unfold padL; rw [HL.out, ← HQ.out]
      have hlen : (padL l).length = 16 * k := by rw [← hpe, List.length_append, HL.out, List.length_replicate, HK.out]
      rw [hpe] at hown1
      have hk0 : 0 < k := by have := HK.out; omega
      obtain ⟨g, c', e4, _⟩ := hown1.form (by omega)
      subst e4
      obtain ⟨h1, h2, _, h3⟩ := ArrB.of_own hown1
      rw [hlen] at h2 h3 ⊢
      exact ⟨g, k, c', rfl, h2, hk4, h1, hlen, h3, (ho.to_below hb (by simp)).trans hb1⟩
end Go.Proofs.YtkfagcpboehjjaaDoor

namespace Go.Proofs.YtkfagcpboehjjaaDoor
set_option maxRecDepth 100000
open Go.RowKit

theorem padL_low (l : List Int) (j : Nat) (h : j < l.length) : lF (padL l) j = lF l j := by
  unfold lF padL
  rw [List.getD_eq_getElem?_getD, List.getElem?_append_left h, List.getD_eq_getElem?_getD]
theorem padL_high (l : List Int) (j : Nat) (h : l.length ≤ j) (h2 : j < (padL l).length) : lF (padL l) j = (padN l.length : Int) := by
  unfold lF padL
  unfold padL at h2
  simp at h2
  rw [List.getD_eq_getElem?_getD, List.getElem?_append_right h, List.getElem?_replicate, if_pos (by omega)]
  rfl

set_option maxHeartbeats 1000000 in
theorem unpad_any (g c k : Nat) (l : List Int) (w : World) (hk : (padL l).length = 16 * k) (hc : 16 * k ≤ c) (hk2 : k ≤ 63) (h : ArrB w g (16 * k) (lF (padL l))) :
    Calls Tryd.prog 44 #[.slice (some ⟨g, 0, none⟩) (16 * k) c] w fun e w' => e = .returned (.tuple #[.slice (some ⟨g, 0, none⟩) l.length c, .nilIface]) ∧ ∃ nq, w' = w.drewN nq := by
  obtain ⟨n, hn⟩ : ∃ n, n = 16 * k := ⟨_, rfl⟩
  obtain ⟨m, hm⟩ : ∃ m, m = l.length := ⟨_, rfl⟩
  obtain ⟨q, hq⟩ : ∃ q, q = padN m := ⟨_, rfl⟩
  have hq1 : 1 ≤ q ∧ q ≤ 16 := by unfold padN at hq; omega
  have hnm : m + q = n := by
    rw [padL_length] at hk
    unfold padN at hq
    omega
  have hcell : ∀ j, m ≤ j → j < n → w.cell? ⟨g, j, none⟩ = some (.int .u8 (q : Int)) := fun j h1 h2 => by
    rw [h.cell (by omega), padL_high l j (by omega) (by omega), hq, hm]
  rw [← hn] at hc h ⊢
  rw [← hm]
  have hb : n ≤ 1008 := by omega
  clear hn hm hq hk h hk2
  obtain ⟨r, hr⟩ : ∃ r, n = r + 1 := ⟨n - 1, by omega⟩
  have c1 := hcell r (by omega) (by omega)
  have i1 : IntKind.i64.wrap ((n : Int) - 1) = (r : Int) := by rw [IntWalk.i64_in _ (by omega)]; omega
  have i2 : IntKind.i64.wrap ((n : Int) - (q : Int)) = (m : Int) := by rw [IntWalk.i64_in _ (by omega)]; omega
  have l1 : (r : Int) < (n : Int) := by omega
  have l2 : ¬ (16 : Int) < (q : Int) := by omega
  have l3 : ¬ (q : Int) = 0 := by omega
  have l3' : ((q : Int) == 0) = false := by simp; omega
  have l4 : (q : Int) ≤ 16 := by omega
  have l5 : (m : Int) ≤ (n : Int) := by omega
  have l6 : m ≤ n := by omega
  have l7 : m ≤ c := by omega
  have l7' : (m : Int) ≤ (c : Int) := by omega
  have l7'' : (n : Int) ≤ (c : Int) := by omega
  have l8 : ¬ c = m := by omega
  have l8' : ¬ n = m := by omega
  have l9 : n - m = q := by omega
  have l10 : ((n : Int) - (m : Int)).toNat = q := by omega
  have l11 : 0 ≤ (m : Int) := by omega
  have HN := Lib.hid hnm
  have HR := Lib.hid hr
  clear hnm hr hb
  go_enter Tryd.func44, Tryd.ntmps44
  go_wp2_with fail
  go_loopw [7] (fun i wr => ∃ j : Nat, j ≤ q ∧ i = .int .i64 j ∧ ∃ nq, wr = w.drewN nq) (fun i _ => q - (intOf i).toNat)
  case atStart => exact ⟨0, by omega, rfl, 0, rfl⟩
  case round =>
    obtain ⟨j, hj, rfl, nq, rfl⟩ := hrel
    by_cases hlt : j < q
    · have cj : (w.drewN nq).cell? ⟨g, m + j, none⟩ = some (.int .u8 (q : Int)) := hcell (m + j) (by omega) (by have := HN.out; omega)
      have k1 : (j : Int) < (q : Int) := by omega
      have k2 : (q : Int) ≤ 255 := by omega
      go_wp2_with fail
      go_roundw
      case rel => exact ⟨j + 1, by omega, by go_num, _, rfl⟩
      case measure => simp [intOf]; omega
    · obtain rfl : j = q := by omega
      go_wp2_with fail
      go_ret2
      exact ⟨rfl, _, rfl⟩
end Go.Proofs.YtkfagcpboehjjaaDoor
