/- The package's SM3 object: the sum, and which blocks it turns. No condition. -/
import Derived.Test.YtmhjbkkbbhioeaaSum
import Derived.Test.YtmhjbkkbbhioeaaWriteF
namespace Go.Proofs.Ytmhjbkkbbhioeaa
open Go.RowKit

theorem OwnS.blk_lt {w : World} {base : Nat} {v : Value} {u : List Int} (h : OwnS w base v u) : blk v < w.heap.size := by
  obtain ⟨g, o, c, cur, rfl, _, h2, _⟩ := h
  exact h2.lt

def SumPostF (w : World) (base b : Nat) (s : St) (N : Int) (v : Value) (u : List Int) (e : Ending) (w' : World) : Prop :=
  ∃ r, e = .returned r ∧ OwnB w' base r (outBytes (absorb (padTail u N) ((padTail u N).length / 64) s)) ∧ ∃ v', Blk w' b 55 (smCells s N v') ∧ OwnS w' base v' u ∧ Below base w w' ∧ Fb b w v w' v' ∧ blk r ≠ blk v' ∧ w.heap.size ≤ blk r

set_option maxRecDepth 100000 in
set_option maxHeartbeats 1000000 in
theorem sum_f (base b : Nat) (s : St) (N : Int) (v : Value) (u : List Int) (A : Option Addr) (w : World) (hb : base ≤ b) (hO : Blk w b 55 (smCells s N v)) (hV : OwnS w base v u) (hs : s.U)
    (hby : ∀ x ∈ u, 0 ≤ x ∧ x ≤ 255) (hN : 0 ≤ N ∧ N ≤ 8000000) (hu : u.length < 64) :
    Calls Try.prog 29 #[.pointer (some ⟨b, 0, none⟩), .slice A 0 0] w (SumPostF w base b s N v u) := by
  have hm := make32
  have hsrc : Src w b A 0 [] := fun _ _ => ⟨rfl, fun h => absurd h (by omega)⟩
  have hw := write_f base b s N v u [] A 0 0 w hb hO hV hsrc (by simpa using hby) hN (by omega) hu
  have hlt : b < w.heap.size := hO.lt
  go_enter Try.func29, Try.ntmps29
  go_wp2_with fail
  refine hw.mono ?_
  rintro e w1 ⟨rfl, v1, hO1, hV1, hB1, hF1⟩
  simp only [List.append_nil] at hO1 hV1
  rw [show u.length / 64 = 0 by omega] at hO1 hV1
  simp only [absorb, Nat.mul_zero, List.drop_zero] at hO1 hV1
  have e8 : N + 8 * ((0 : Nat) : Int) = N := by omega
  rw [e8] at hO1
  clear hw hsrc hO hV e8
  go_wp2_with (go_at_call 39; refine (pad_f base b s N v1 u w1 hb hO1 hV1 hN hu).mono ?_; rintro e w2 ⟨v2, rfl, hS2, hB2, hO2, hV2, hF2⟩)
  obtain ⟨g2, o2, d2, e2, hd2, hm2⟩ := hS2.form
  subst e2
  have hc2 := hS2.cell
  refine (update2_any s b _ g2 o2 _ d2 (padTail u N) w2 hd2 hm2 rfl (fun _ => ⟨rfl, hc2.2.1, fun j hj => hc2.2.2.2.2.2 j hj, padTail_byte hby hN⟩) hO2.lt #[.int .u64 N, v1] hO2 rfl).mono ?_
  rintro e w3 ⟨rfl, hB3⟩
  have hrU : (absorb (padTail u N) ((padTail u N).length / 64) s).U := u32_absorb _ _ hs
  obtain ⟨r, hr⟩ : ∃ r, r = absorb (padTail u N) ((padTail u N).length / 64) s := ⟨_, rfl⟩
  rw [← hr] at hrU ⊢
  have HR := Lib.hid hr
  have HC := Lib.hid hc2
  clear hr hc2 hS2
  have hO3 := hO2.below hB3 hO2.lt
  have hV3 : OwnS w3 base v1 u := hV2.keep fun k cs hk _ => hk.below hB3 hk.lt
  have hBw3 : Below base w w3 := (hB1.trans hB2).trans (hB3.mono (by have := hO2.lt; omega))
  have hFw : ∀ k, k < w.heap.size → k ≠ b → k ≠ blk v → w3.heap[k]? = w.heap[k]? ∧ k ≠ blk v1 := fun k hk hkb hkv => by
    obtain ⟨a1, b1⟩ := hF1 k hk hkb hkv
    obtain ⟨a2, b2⟩ := hF2 k (Nat.lt_of_lt_of_le hk hB1.size) b1
    exact ⟨(hB3.block k (Nat.lt_of_lt_of_le hk (hB1.trans hB2).size)).trans (a2.trans a1), b1⟩
  have hvb : blk v1 < w3.heap.size := hV3.blk_lt
  clear hF1 hF2
  have hcp := copy_none
  have h44 := Blk.new w3 44 r.cells
  have hs3 := hBw3.size
  unfold St.agg
  go_wp2_with (go_at_call 31; refine (size_any _ _).mono ?_; rintro e w' ⟨rfl, rfl⟩)
  clear hm hcp hB1 hB2 hO1 hV1
  have hbw3 : base ≤ w3.heap.size := by omega
  have hst : Blk ((w3.alloc (.cells r.cells 44)).alloc (.cells Z32 5)) (w3.heap.size + 1) 5 Z32 := by
    have := Blk.new (w3.alloc (.cells r.cells 44)) 5 Z32
    rwa [World.size_alloc] at this
  have hBs : Below w3.heap.size w3 ((w3.alloc (.cells r.cells 44)).alloc (.cells Z32 5)) := ((Below.refl _ _).alloc (Nat.le_refl _) _).alloc (by simp) _
  have hDs := h44.alloc (.cells Z32 5)
  have hblt : b < w3.heap.size := hO3.lt
  go_loopw [10] (fun i wr => ∃ (k : Nat) (cs : Array Value), k ≤ 8 ∧ i = .int .i64 k ∧ Hid (cs.size = 32) ∧ Blk wr (w3.heap.size + 1) 5 cs ∧ Hid (∀ j, j < 4 * k → cs[j]? = some (.int .u8 ((outPre r k).getD j 0))) ∧
      Blk wr w3.heap.size 44 r.cells ∧ Below w3.heap.size w3 wr) (fun i _ => 8 - (intOf i).toNat)
  case atStart => exact ⟨0, Z32, by omega, rfl, by show Z32.size = 32; simp [Z32], hst, fun j hj => absurd hj (by omega), hDs, hBs⟩
  case round =>
    clear hst hBs hDs h44 hB3 hO2 hV2
    obtain ⟨k, cs, hk, rfl, hcs, hout, hpre, hdig, hbel⟩ := hrel
    by_cases hlt2 : k < 8
    · have a1 := (hdig.cell k).trans (r.cells_get k hlt2)
      have hru := St.get_u32 hrU k
      unfold U32 at hru
      have l1 : (k : Int) < 8 := by omega
      have e1 : IntKind.i64.wrap ((k : Int) * 4) = (k : Int) * 4 := IntWalk.i64_in _ (by omega)
      have e2 : ((k : Int) * 4).toNat = k * 4 := by omega
      have e3 : (0 : Int) ≤ (k : Int) * 4 := by omega
      have e4 : (k : Int) * 4 ≤ 32 := by omega
      have e5 : ¬ 32 = k * 4 := by omega
      go_wp2_with fail
      refine region_quiet_tail 8 (by kernel_rfl) (by kernel_rfl) ?_
      simp only [List.take_succ_cons, List.take_zero, List.drop_succ_cons, List.drop_zero]
      repeat (quiet_step (rfl))
      refine wpQuiet_nil ?_
      intro _ hw'
      obtain ⟨nq, rfl⟩ := hw'
      go_wp2_with (go_at_call 41; refine (put_any (w3.heap.size + 1) (k * 4) _ _ cs (r.get k) _ (by omega) hru (hout.drewN nq) (by have := hcs.out; omega)).mono ?_; rintro e w' ⟨rfl, hout', hgr⟩)
      go_roundw
      case rel =>
        have hcs' := hcs.out
        refine ⟨k + 1, put4 cs (k * 4) (r.get k), by omega, by go_num, by show (put4 cs (k * 4) (r.get k)).size = 32; rw [put4_size]; exact hcs', hout', put4_pre cs r k (by omega) hpre.out, ?_, ?_⟩
        · exact (hgr.block w3.heap.size hdig.lt (by simp)).trans hdig
        · have hsz : wr.heap.size ≤ w'.heap.size := hgr.size
          exact hbel.trans ⟨hgr.os, hgr.tape, hgr.output, hsz, fun i hi => hgr.block i (Nat.lt_of_lt_of_le hi hbel.size) (by simp; omega)⟩
      case measure => simp [intOf]; omega
    · obtain rfl : k = 8 := by omega
      go_wp2_with fail
      go_ret
      have hcs' := hcs.out
      have hln : (outBytes r).length = 32 := rfl
      refine ⟨_, rfl, ?_, v1, hO3.below hbel hblt, hV3.keep fun k cs hk _ => hk.below hbel hk.lt, hBw3.trans (hbel.mono hbw3), fun k hk hkb hkv => ?_, by show w3.heap.size + 1 ≠ blk v1; omega, by show w.heap.size ≤ w3.heap.size + 1; omega⟩
      · rw [← HR.out]
        refine ⟨by simp, .inr ⟨w3.heap.size + 1, 32, cs, rfl, by omega, hout, by rw [hln]; omega, by unfold maxLen; omega, by omega, ?_⟩⟩
        apply List.ext_getElem?
        intro j
        rw [List.getElem?_take, hln]
        by_cases hj : j < 32
        · rw [if_pos (by omega), Array.getElem?_toList, hpre.out j (by omega), outPre_all, List.getElem?_map, List.getD_eq_getElem?_getD, List.getElem?_eq_getElem (by rw [hln]; exact hj)]
          rfl
        · rw [if_neg (by omega), List.getElem?_eq_none (by rw [List.length_map, hln]; omega)]
      · obtain ⟨a1, b1⟩ := hFw k hk hkb hkv
        exact ⟨(hbel.block k (by omega)).trans a1, b1⟩
end Go.Proofs.Ytmhjbkkbbhioeaa
