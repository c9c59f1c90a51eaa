/- The package's SM3 object: the hash so far. -/
import Derived.Test.YtmhjbkkbbhioeaaWrite
import Derived.Test.YtmhjbkkbbhioeaaUpdB
namespace Go.Proofs.Ytmhjbkkbbhioeaa
open Go.RowKit

theorem grown_alloc {a w : World} {row : Option Nat} (h : a.grownBy w row) (o : Obj) : a.grownBy (w.alloc o) row :=
  ⟨h.os, h.tape, h.output, Nat.le_trans h.size (by simp), fun i hi hne => (Below.heap_alloc w o i (Nat.lt_of_lt_of_le hi h.size)).trans (h.block i hi hne)⟩
theorem grown_setCell {a w : World} {g : Nat} (h : a.grownBy w (some g)) (o : Nat) (u : Value) : a.grownBy (w.setCell ⟨g, o, none⟩ u) (some g) :=
  ⟨h.os, h.tape, h.output, by simpa [World.setCell] using h.size, fun i hi hne => (Below.heap_setCell w ⟨g, o, none⟩ u i (fun e => hne (congrArg some e))).trans (h.block i hi hne)⟩

def put4 (cs : Array Value) (o : Nat) (x : Int) : Array Value :=
  (((cs.setIfInBounds o (.int .u8 (x / 16777216))).setIfInBounds (o + 1) (.int .u8 (x / 65536 % 256))).setIfInBounds (o + 2) (.int .u8 (x / 256 % 256))).setIfInBounds (o + 3) (.int .u8 (x % 256))
theorem put4_size (cs : Array Value) (o : Nat) (x : Int) : (put4 cs o x).size = cs.size := by simp [put4]

theorem put_any (g o n c : Nat) (cs : Array Value) (x : Int) (w : World) (hn : 4 ≤ n) (hx : 0 ≤ x ∧ x ≤ 4294967295) (hb : Blk w g 5 cs) (hs : o + 4 ≤ cs.size) :
    Calls Try.prog 41 #[.agg #[], .slice (some ⟨g, o, none⟩) n c, .int .u32 x] w fun e w' => e = .returned (.tuple #[]) ∧ Blk w' g 5 (put4 cs o x) ∧ w.grownBy w' (some g) := by
  have hlt := hb.lt
  have h0 : ∃ v, w.cell? ⟨g, o, none⟩ = some v := ⟨_, (hb.cell _).trans (Array.getElem?_eq_getElem (by omega))⟩
  have h1 : ∃ v, w.cell? ⟨g, o + 1, none⟩ = some v := ⟨_, (hb.cell _).trans (Array.getElem?_eq_getElem (by omega))⟩
  have h2 : ∃ v, w.cell? ⟨g, o + 2, none⟩ = some v := ⟨_, (hb.cell _).trans (Array.getElem?_eq_getElem (by omega))⟩
  have h3 : ∃ v, w.cell? ⟨g, o + 3, none⟩ = some v := ⟨_, (hb.cell _).trans (Array.getElem?_eq_getElem (by omega))⟩
  obtain ⟨v0, h0⟩ := h0
  obtain ⟨v1, h1⟩ := h1
  obtain ⟨v2, h2⟩ := h2
  obtain ⟨v3, h3⟩ := h3
  have z0 := hb.frozen o
  have z1 := hb.frozen (o + 1)
  have z2 := hb.frozen (o + 2)
  have z3 := hb.frozen (o + 3)
  have i0 : (0 : Int) < (n : Int) := by omega
  have i1 : (1 : Int) < (n : Int) := by omega
  have i2 : (2 : Int) < (n : Int) := by omega
  have i3 : (3 : Int) < (n : Int) := by omega
  clear hs
  go_enter Try.func41, Try.ntmps41
  go_wp2
  go_end0
  exact ⟨rfl, ((((hb.set_ _ _).set_ _ _).set_ _ _).set_ _ _).alloc _, grown_alloc (grown_setCell (grown_setCell (grown_setCell (grown_setCell (World.grownBy.refl w _) _ _) _ _) _ _) _ _) _⟩

def SumPost (w : World) (base b : Nat) (s : St) (N : Int) (u : List Int) (e : Ending) (w' : World) : Prop :=
  ∃ v, e = .returned v ∧ OwnB w' base v (outBytes (absorb (padTail u N) ((padTail u N).length / 64) s)) ∧ Obj3 w' base b s N u ∧ Below base w w'

theorem padTail_byte {u : List Int} {N : Int} (h : ∀ x ∈ u, 0 ≤ x ∧ x ≤ 255) (hN : 0 ≤ N ∧ N ≤ 8000000) : ∀ x ∈ padTail u N, 0 ≤ x ∧ x ≤ 255 := by
  intro x hx
  simp only [padTail, List.mem_append, List.mem_singleton, List.mem_replicate] at hx
  rcases hx with (((hx | rfl) | ⟨_, rfl⟩) | hx) | hx
  · exact h x hx
  · omega
  · omega
  · exact bo_byte (by omega) x hx
  · exact bo_byte (by omega) x hx

theorem copy_none (g : Nat) (A : Option Addr) (W : World) : (Builtin.copy_ #[24, 24] 3 #[.slice (some ⟨g, 0, none⟩) 0 32, .slice A 0 0]).run Try.prog W = .ok (.int .i64 0) W := by
  obtain ⟨i0, hi, hz0, hz1, hz2⟩ := info_parts info5
  cases A <;> simp [Builtin.copy_, run_underlying Try.underlying24, sizeOf, typeInfo, hi, Builtin.lenOf, Builtin.firstCells, storeCells, loadCells, loadCellsFrom] <;> rfl
theorem St.cells_get (r : St) (k : Nat) (hk : k < 8) : r.cells[k]? = some (.int .u32 (r.get k)) := by
  have h : k = 0 ∨ k = 1 ∨ k = 2 ∨ k = 3 ∨ k = 4 ∨ k = 5 ∨ k = 6 ∨ k = 7 := by omega
  rcases h with rfl | rfl | rfl | rfl | rfl | rfl | rfl | rfl <;> rfl
theorem put4_at (cs : Array Value) (o : Nat) (x : Int) (hs : o + 4 ≤ cs.size) :
    (put4 cs o x)[o]? = some (.int .u8 (x / 16777216)) ∧ (put4 cs o x)[o + 1]? = some (.int .u8 (x / 65536 % 256)) ∧ (put4 cs o x)[o + 2]? = some (.int .u8 (x / 256 % 256)) ∧ (put4 cs o x)[o + 3]? = some (.int .u8 (x % 256)) ∧
      ∀ j, (j < o ∨ o + 4 ≤ j) → (put4 cs o x)[j]? = cs[j]? := by
  refine ⟨?_, ?_, ?_, ?_, fun j hj => ?_⟩ <;> simp only [put4, Array.getElem?_setIfInBounds, Array.size_setIfInBounds]
  · rw [if_neg (by omega), if_neg (by omega), if_neg (by omega), if_pos trivial, if_pos (by omega)]
  · rw [if_neg (by omega), if_neg (by omega), if_pos trivial, if_pos (by omega)]
  · rw [if_neg (by omega), if_pos trivial, if_pos (by omega)]
  · rw [if_pos trivial, if_pos (by omega)]
  · rw [if_neg (by omega), if_neg (by omega), if_neg (by omega), if_neg (by omega)]
theorem put4_pre (cs : Array Value) (r : St) (k : Nat) (hs : k * 4 + 4 ≤ cs.size) (h : ∀ j, j < 4 * k → cs[j]? = some (.int .u8 ((outPre r k).getD j 0))) :
    ∀ j, j < 4 * (k + 1) → (put4 cs (k * 4) (r.get k))[j]? = some (.int .u8 ((outPre r (k + 1)).getD j 0)) := by
  obtain ⟨p0, p1, p2, p3, p4⟩ := put4_at cs (k * 4) (r.get k) hs
  intro j hj
  have hl := outPre_length r k
  rw [outPre, List.getD_eq_getElem?_getD]
  by_cases hjk : j < 4 * k
  · rw [p4 j (by omega), h j hjk, List.getElem?_append_left (by omega), List.getD_eq_getElem?_getD]
  · rw [List.getElem?_append_right (by omega), hl]
    have hc : j = k * 4 ∨ j = k * 4 + 1 ∨ j = k * 4 + 2 ∨ j = k * 4 + 3 := by omega
    rcases hc with rfl | rfl | rfl | rfl
    · rw [p0, show k * 4 - 4 * k = 0 by omega]; rfl
    · rw [p1, show k * 4 + 1 - 4 * k = 1 by omega]; rfl
    · rw [p2, show k * 4 + 2 - 4 * k = 2 by omega]; rfl
    · rw [p3, show k * 4 + 3 - 4 * k = 3 by omega]; rfl

def Z32 : Array Value := Array.replicate 32 (.int .u8 0)
theorem make32 (w : World) : (Instr.makeSlice 24 (.int .i64 0) (.int .i64 32)).run Try.prog w = .ok (.slice (some ⟨w.heap.size, 0, none⟩) 0 32) (w.alloc (.cells Z32 5)) := by kernel_rfl

set_option maxRecDepth 100000 in
set_option maxHeartbeats 1000000 in
theorem sum_any (base b : Nat) (s : St) (N : Int) (u : List Int) (A : Option Addr) (w : World) (hb : base ≤ b) (hO : Obj3 w base b s N u) (hs : s.U)
    (hby : ∀ x ∈ u, 0 ≤ x ∧ x ≤ 255) (hN : 0 ≤ N ∧ N ≤ 8000000) (hu : u.length < 64) :
    Calls Try.prog 29 #[.pointer (some ⟨b, 0, none⟩), .slice A 0 0] w (SumPost w base b s N u) := by
  have hm := make32
  have hsrc : Src w b A 0 [] := fun _ _ => ⟨rfl, fun h => absurd h (by omega)⟩
  have hw := write_any base b s N u [] A 0 0 w hb hO hsrc (by simpa using hby) hN (by omega) hu
  have hlt : b < w.heap.size := by obtain ⟨v, h, _⟩ := hO; exact h.lt
  go_enter Try.func29, Try.ntmps29
  go_wp2_with fail
  refine hw.mono ?_
  rintro e w1 ⟨rfl, hO1, hB1⟩
  simp only [List.append_nil] at hO1
  rw [show u.length / 64 = 0 by omega] at hO1
  simp only [absorb, Nat.mul_zero, List.drop_zero] at hO1
  have e8 : N + 8 * ((0 : Nat) : Int) = N := by omega
  rw [e8] at hO1
  clear hw hsrc hO e8
  obtain ⟨v, hO1, hV1⟩ := hO1
  go_wp2_with (go_at_call 39; refine (pad_any base b s N v u w1 hb hO1 hV1 hN hu).mono ?_; rintro e w2 ⟨v2, rfl, hS2, hB2, hO2, hV2⟩)
  obtain ⟨g2, o2, d2, e2, hd2, hm2⟩ := hS2.form
  subst e2
  have hc2 := hS2.cell
  refine (update2_any s b _ g2 o2 _ d2 (padTail u N) w2 hd2 hm2 rfl (fun _ => ⟨rfl, hc2.2.1, fun j hj => hc2.2.2.2.2.2 j hj, padTail_byte hby hN⟩) hO2.lt #[.int .u64 N, v] hO2 rfl).mono ?_
  rintro e w3 ⟨rfl, hB3⟩
  have hrU : (absorb (padTail u N) ((padTail u N).length / 64) s).U := u32_absorb _ _ hs
  obtain ⟨r, hr⟩ : ∃ r, r = absorb (padTail u N) ((padTail u N).length / 64) s := ⟨_, rfl⟩
  rw [← hr] at hrU ⊢
  have HR := Lib.hid hr
  have HC := Lib.hid hc2
  clear hr hc2 hS2
  have hO3 := hO2.below hB3 hO2.lt
  have hV3 : OwnS w3 base v u := hV2.keep fun k cs hk _ => hk.below hB3 hk.lt
  have hBw3 : Below base w w3 := (hB1.trans hB2).trans (hB3.mono (by have := hO2.lt; omega))
  have hcp := copy_none
  have h44 := Blk.new w3 44 r.cells
  have hs3 := hBw3.size
  unfold St.agg
  go_wp2_with (go_at_call 31; refine (size_any _ _).mono ?_; rintro e w' ⟨rfl, rfl⟩)
  clear hm hcp hB1 hB2 hO1 hV1
  have hbw3 : base ≤ w3.heap.size := by omega
  have hst : Blk ((w3.alloc (.cells r.cells 44)).alloc (.cells Z32 5)) (w3.heap.size + 1) 5 Z32 := by
    have := Blk.new (w3.alloc (.cells r.cells 44)) 5 Z32
    rwa [World.size_alloc] at this
  have hBs : Below w3.heap.size w3 ((w3.alloc (.cells r.cells 44)).alloc (.cells Z32 5)) := ((Below.refl _ _).alloc (Nat.le_refl _) _).alloc (by simp) _
  have hDs := h44.alloc (.cells Z32 5)
  have hblt : b < w3.heap.size := hO3.lt
  go_loopw [10] (fun i wr => ∃ (k : Nat) (cs : Array Value), k ≤ 8 ∧ i = .int .i64 k ∧ Hid (cs.size = 32) ∧ Blk wr (w3.heap.size + 1) 5 cs ∧ Hid (∀ j, j < 4 * k → cs[j]? = some (.int .u8 ((outPre r k).getD j 0))) ∧
      Blk wr w3.heap.size 44 r.cells ∧ Below w3.heap.size w3 wr) (fun i _ => 8 - (intOf i).toNat)
  case atStart => exact ⟨0, Z32, by omega, rfl, by show Z32.size = 32; simp [Z32], hst, fun j hj => absurd hj (by omega), hDs, hBs⟩
  case round =>
    clear hst hBs hDs h44 hB3 hO2 hV2
    obtain ⟨k, cs, hk, rfl, hcs, hout, hpre, hdig, hbel⟩ := hrel
    by_cases hlt2 : k < 8
    · have a1 := (hdig.cell k).trans (r.cells_get k hlt2)
      have hru := St.get_u32 hrU k
      unfold U32 at hru
      have l1 : (k : Int) < 8 := by omega
      have e1 : IntKind.i64.wrap ((k : Int) * 4) = (k : Int) * 4 := IntWalk.i64_in _ (by omega)
      have e2 : ((k : Int) * 4).toNat = k * 4 := by omega
      have e3 : (0 : Int) ≤ (k : Int) * 4 := by omega
      have e4 : (k : Int) * 4 ≤ 32 := by omega
      have e5 : ¬ 32 = k * 4 := by omega
      go_wp2_with fail
      refine region_quiet_tail 8 (by kernel_rfl) (by kernel_rfl) ?_
      simp only [List.take_succ_cons, List.take_zero, List.drop_succ_cons, List.drop_zero]
      repeat (quiet_step (rfl))
      refine wpQuiet_nil ?_
      intro _ hw'
      obtain ⟨nq, rfl⟩ := hw'
      go_wp2_with (go_at_call 41; refine (put_any (w3.heap.size + 1) (k * 4) _ _ cs (r.get k) _ (by omega) hru (hout.drewN nq) (by have := hcs.out; omega)).mono ?_; rintro e w' ⟨rfl, hout', hgr⟩)
      go_roundw
      case rel =>
        have hcs' := hcs.out
        refine ⟨k + 1, put4 cs (k * 4) (r.get k), by omega, by go_num, by show (put4 cs (k * 4) (r.get k)).size = 32; rw [put4_size]; exact hcs', hout', put4_pre cs r k (by omega) hpre.out, ?_, ?_⟩
        · exact (hgr.block w3.heap.size hdig.lt (by simp)).trans hdig
        · have hsz : wr.heap.size ≤ w'.heap.size := hgr.size
          exact hbel.trans ⟨hgr.os, hgr.tape, hgr.output, hsz, fun i hi => hgr.block i (Nat.lt_of_lt_of_le hi hbel.size) (by simp; omega)⟩
      case measure => simp [intOf]; omega
    · obtain rfl : k = 8 := by omega
      go_wp2_with fail
      go_ret
      have hcs' := hcs.out
      have hln : (outBytes r).length = 32 := rfl
      refine ⟨_, rfl, ?_, ⟨v, hO3.below hbel hblt, hV3.keep fun k cs hk _ => hk.below hbel hk.lt⟩, hBw3.trans (hbel.mono hbw3)⟩
      rw [← HR.out]
      refine ⟨by simp, .inr ⟨w3.heap.size + 1, 32, cs, rfl, by omega, hout, by rw [hln]; omega, by unfold maxLen; omega, by omega, ?_⟩⟩
      apply List.ext_getElem?
      intro j
      rw [List.getElem?_take, hln]
      by_cases hj : j < 32
      · rw [if_pos (by omega), Array.getElem?_toList, hpre.out j (by omega), outPre_all, List.getElem?_map, List.getD_eq_getElem?_getD, List.getElem?_eq_getElem (by rw [hln]; exact hj)]
        rfl
      · rw [if_neg (by omega), List.getElem?_eq_none (by rw [List.length_map, hln]; omega)]
end Go.Proofs.Ytmhjbkkbbhioeaa
