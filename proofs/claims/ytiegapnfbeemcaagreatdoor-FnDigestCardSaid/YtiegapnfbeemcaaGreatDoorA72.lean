/-
  The hash's sum. No condition.
-/
import Derived.Test.YtiegapnfbeemcaaGreatDoorA71
import Derived.Test.YtiegapnfbeemcaaGreatDoorA70
import Derived.Test.YtiegapnfbeemcaaGreatDoorA63
namespace Go.Proofs.YtiegapnfbeemcaaGreatDoor
set_option maxRecDepth 100000
open Go.RowKit

theorem grown_alloc {a w : World} {row : Option Nat} (h : a.grownBy w row) (o : Obj) : a.grownBy (w.alloc o) row :=
  ⟨h.os, h.tape, h.output, Nat.le_trans h.size (by simp), fun i hi hne => (Below.heap_alloc w o i (Nat.lt_of_lt_of_le hi h.size)).trans (h.block i hi hne)⟩
theorem grown_setCell {a w : World} {g : Nat} (h : a.grownBy w (some g)) (o : Nat) (u : Value) : a.grownBy (w.setCell ⟨g, o, none⟩ u) (some g) :=
  ⟨h.os, h.tape, h.output, by simpa [World.setCell] using h.size, fun i hi hne => (Below.heap_setCell w ⟨g, o, none⟩ u i (fun e => hne (congrArg some e))).trans (h.block i hi hne)⟩

def put4 (cs : Array Value) (o : Nat) (x : Int) : Array Value :=
  (((cs.setIfInBounds o (.int .u8 (x / 16777216))).setIfInBounds (o + 1) (.int .u8 (x / 65536 % 256))).setIfInBounds (o + 2) (.int .u8 (x / 256 % 256))).setIfInBounds (o + 3) (.int .u8 (x % 256))
theorem put4_size (cs : Array Value) (o : Nat) (x : Int) : (put4 cs o x).size = cs.size := by simp [put4]

theorem put_any (g o n c : Nat) (cs : Array Value) (x : Int) (w : World) (hn : 4 ≤ n) (hx : 0 ≤ x ∧ x ≤ 4294967295) (hb : Blk w g 5 cs) (hs : o + 4 ≤ cs.size) :
    Calls Tryz.prog 76 #[.agg #[], .slice (some ⟨g, o, none⟩) n c, .int .u32 x] w fun e w' => e = .returned (.tuple #[]) ∧ Blk w' g 5 (put4 cs o x) ∧ w.grownBy w' (some g) := by
  have hlt := hb.lt
  have h0 : ∃ v, w.cell? ⟨g, o, none⟩ = some v := ⟨_, (hb.cell _).trans (Array.getElem?_eq_getElem (by omega))⟩
  have h1 : ∃ v, w.cell? ⟨g, o + 1, none⟩ = some v := ⟨_, (hb.cell _).trans (Array.getElem?_eq_getElem (by omega))⟩
  have h2 : ∃ v, w.cell? ⟨g, o + 2, none⟩ = some v := ⟨_, (hb.cell _).trans (Array.getElem?_eq_getElem (by omega))⟩
  have h3 : ∃ v, w.cell? ⟨g, o + 3, none⟩ = some v := ⟨_, (hb.cell _).trans (Array.getElem?_eq_getElem (by omega))⟩
  obtain ⟨v0, h0⟩ := h0
  obtain ⟨v1, h1⟩ := h1
  obtain ⟨v2, h2⟩ := h2
  obtain ⟨v3, h3⟩ := h3
  have z0 := hb.frozen o
  have z1 := hb.frozen (o + 1)
  have z2 := hb.frozen (o + 2)
  have z3 := hb.frozen (o + 3)
  have i0 : (0 : Int) < (n : Int) := by omega
  have i1 : (1 : Int) < (n : Int) := by omega
  have i2 : (2 : Int) < (n : Int) := by omega
  have i3 : (3 : Int) < (n : Int) := by omega
  clear hs
  go_enter Tryz.func76, Tryz.ntmps76
  go_wp2
  go_end0
  exact ⟨rfl, ((((hb.set_ _ _).set_ _ _).set_ _ _).set_ _ _).alloc _, grown_alloc (grown_setCell (grown_setCell (grown_setCell (grown_setCell (World.grownBy.refl w _) _ _) _ _) _ _) _ _) _⟩

def SumPost (w : World) (base b : Nat) (s : St) (N : Int) (u : List Int) (e : Ending) (w' : World) : Prop :=
  ∃ v, e = .returned v ∧ OwnB w' base v (outBytes (absorb (padTail u N) ((padTail u N).length / 64) s)) ∧ Obj3 w' base b s N u ∧ Below base w w'

theorem padTail_byte {u : List Int} {N : Int} (h : ∀ x ∈ u, 0 ≤ x ∧ x ≤ 255) (hN : 0 ≤ N ∧ N ≤ 8000000) : ∀ x ∈ padTail u N, 0 ≤ x ∧ x ≤ 255 := by
  intro x hx
  simp only [padTail, List.mem_append, List.mem_singleton, List.mem_replicate] at hx
  rcases hx with (((hx | rfl) | ⟨_, rfl⟩) | hx) | hx
  · exact h x hx
  · omega
  · omega
  · exact bo_byte (by omega) x hx
  · exact bo_byte (by omega) x hx

theorem copy_none (g : Nat) (A : Option Addr) (W : World) : (Builtin.copy_ #[22, 22] 3 #[.slice (some ⟨g, 0, none⟩) 0 32, .slice A 0 0]).run Tryz.prog W = .ok (.int .i64 0) W := by
  obtain ⟨i0, hi, hz0, hz1, hz2⟩ := info_parts info5
  cases A <;> simp [Builtin.copy_, run_underlying Tryz.underlying22, sizeOf, typeInfo, hi, Builtin.lenOf, Builtin.firstCells, storeCells, loadCells, loadCellsFrom] <;> rfl
theorem St.cells_get (r : St) (k : Nat) (hk : k < 8) : r.cells[k]? = some (.int .u32 (r.get k)) := by
  have h : k = 0 ∨ k = 1 ∨ k = 2 ∨ k = 3 ∨ k = 4 ∨ k = 5 ∨ k = 6 ∨ k = 7 := by omega
  rcases h with rfl | rfl | rfl | rfl | rfl | rfl | rfl | rfl <;> rfl
theorem put4_at (cs : Array Value) (o : Nat) (x : Int) (hs : o + 4 ≤ cs.size) :
    (put4 cs o x)[o]? = some (.int .u8 (x / 16777216)) ∧ (put4 cs o x)[o + 1]? = some (.int .u8 (x / 65536 % 256)) ∧ (put4 cs o x)[o + 2]? = some (.int .u8 (x / 256 % 256)) ∧ (put4 cs o x)[o + 3]? = some (.int .u8 (x % 256)) ∧
      ∀ j, (j < o ∨ o + 4 ≤ j) → (put4 cs o x)[j]? = cs[j]? := by
  refine ⟨?_, ?_, ?_, ?_, fun j hj => ?_⟩ <;> simp only [put4, Array.getElem?_setIfInBounds, Array.size_setIfInBounds]
  · rw [if_neg (by omega), if_neg (by omega), if_neg (by omega), if_pos trivial, if_pos (by omega)]
  · rw [if_neg (by omega), if_neg (by omega), if_pos trivial, if_pos (by omega)]
  · rw [if_neg (by omega), if_pos trivial, if_pos (by omega)]
  · rw [if_pos trivial, if_pos (by omega)]
  · rw [if_neg (by omega), if_neg (by omega), if_neg (by omega), if_neg (by omega)]
theorem put4_pre (cs : Array Value) (r : St) (k : Nat) (hs : k * 4 + 4 ≤ cs.size) (h : ∀ j, j < 4 * k → cs[j]? = some (.int .u8 ((outPre r k).getD j 0))) :
    ∀ j, j < 4 * (k + 1) → (put4 cs (k * 4) (r.get k))[j]? = some (.int .u8 ((outPre r (k + 1)).getD j 0)) := by
  obtain ⟨p0, p1, p2, p3, p4⟩ := put4_at cs (k * 4) (r.get k) hs
  intro j hj
  have hl := outPre_length r k
  rw [outPre, List.getD_eq_getElem?_getD]
  by_cases hjk : j < 4 * k
  · rw [p4 j (by omega), h j hjk, List.getElem?_append_left (by omega), List.getD_eq_getElem?_getD]
  · rw [List.getElem?_append_right (by omega), hl]
    have hc : j = k * 4 ∨ j = k * 4 + 1 ∨ j = k * 4 + 2 ∨ j = k * 4 + 3 := by omega
    rcases hc with rfl | rfl | rfl | rfl
    · rw [p0, show k * 4 - 4 * k = 0 by omega]; rfl
    · rw [p1, show k * 4 + 1 - 4 * k = 1 by omega]; rfl
    · rw [p2, show k * 4 + 2 - 4 * k = 2 by omega]; rfl
    · rw [p3, show k * 4 + 3 - 4 * k = 3 by omega]; rfl

def Z32 : Array Value := Array.replicate 32 (.int .u8 0)
theorem make32 (w : World) : (Instr.makeSlice 22 (.int .i64 0) (.int .i64 32)).run Tryz.prog w = .ok (.slice (some ⟨w.heap.size, 0, none⟩) 0 32) (w.alloc (.cells Z32 5)) := by kernel_rfl

set_option maxRecDepth 100000 in
set_option maxHeartbeats 1000000 in
theorem sum_any (base b : Nat) (s : St) (N : Int) (u : List Int) (A : Option Addr) (w : World) (hb : base ≤ b) (hO : Obj3 w base b s N u) (hs : s.U)
    (hby : ∀ x ∈ u, 0 ≤ x ∧ x ≤ 255) (hN : 0 ≤ N ∧ N ≤ 8000000) (hu : u.length < 64) :
    Calls Tryz.prog 47 #[.pointer (some ⟨b, 0, none⟩), .slice A 0 0] w (SumPost w base b s N u) := by
  have hm := make32
  have hsrc : Src w b A 0 [] := fun _ _ => ⟨rfl, fun h => absurd h (by omega)⟩
  have hw := write_any base b s N u [] A 0 0 w hb hO hsrc (by simpa using hby) hN (by omega) hu
  have hlt : b < w.heap.size := by obtain ⟨v, h, _⟩ := hO; exact h.lt
  go_enter Tryz.func47, Tryz.ntmps47
  go_wp2_with fail
  refine hw.mono ?_
  rintro e w1 ⟨rfl, hO1, hB1⟩
  simp only [List.append_nil] at hO1
  rw [show u.length / 64 = 0 by omega] at hO1
  simp only [absorb, Nat.mul_zero, List.drop_zero] at hO1
  have e8 : N + 8 * ((0 : Nat) : Int) = N := by omega
  rw [e8] at hO1
  clear hw hsrc hO e8
  obtain ⟨v, hO1, hV1⟩ := hO1
  go_wp2_with (go_at_call 73; refine (pad_any base b s N v u w1 hb hO1 hV1 hN hu).mono ?_; rintro e w2 ⟨v2, rfl, hS2, hB2, hO2, hV2⟩)
  obtain ⟨g2, o2, d2, e2, hd2, hm2⟩ := hS2.form
  subst e2
  have hc2 := hS2.cell
  refine (update2_any s b _ g2 o2 _ d2 (padTail u N) w2 hd2 hm2 rfl (fun _ => ⟨rfl, hc2.2.1, fun j hj => hc2.2.2.2.2.2 j hj, padTail_byte hby hN⟩) hO2.lt #[.int .u64 N, v] hO2 rfl).mono ?_
  rintro e w3 ⟨rfl, hB3⟩
  have hrU : (absorb (padTail u N) ((padTail u N).length / 64) s).U := u32_absorb _ _ hs
  obtain ⟨r, hr⟩ : ∃ r, r = absorb (padTail u N) ((padTail u N).length / 64) s := ⟨_, rfl⟩
  rw [← hr] at hrU ⊢
  have HR := Lib.hid hr
  have HC := Lib.hid hc2
  clear hr hc2 hS2
  have hO3 := hO2.below hB3 hO2.lt
  have hV3 : OwnS w3 base v u := hV2.keep fun k cs hk _ => hk.below hB3 hk.lt
  have hBw3 : Below base w w3 := (hB1.trans hB2).trans (hB3.mono (by have := hO2.lt; omega))
  have hcp := copy_none
  have h44 := Blk.new w3 25 r.cells
  have hs3 := hBw3.size
  unfold St.agg
  go_wp2_with (go_at_call 75; refine (size_any _ _).mono ?_; rintro e w' ⟨rfl, rfl⟩)
  clear hm hcp hB1 hB2 hO1 hV1
  have hbw3 : base ≤ w3.heap.size := by omega
  have hst : Blk ((w3.alloc (.cells r.cells 25)).alloc (.cells Z32 5)) (w3.heap.size + 1) 5 Z32 := by
    have := Blk.new (w3.alloc (.cells r.cells 25)) 5 Z32
    rwa [World.size_alloc] at this
  have hBs : Below w3.heap.size w3 ((w3.alloc (.cells r.cells 25)).alloc (.cells Z32 5)) := ((Below.refl _ _).alloc (Nat.le_refl _) _).alloc (by simp) _
  have hDs := h44.alloc (.cells Z32 5)
  have hblt : b < w3.heap.size := hO3.lt
  go_loopw [10] (fun i wr => ∃ (k : Nat) (cs : Array Value), k ≤ 8 ∧ i = .int .i64 k ∧ Hid (cs.size = 32) ∧ Blk wr (w3.heap.size + 1) 5 cs ∧ Hid (∀ j, j < 4 * k → cs[j]? = some (.int .u8 ((outPre r k).getD j 0))) ∧
      Blk wr w3.heap.size 25 r.cells ∧ Below w3.heap.size w3 wr) (fun i _ => 8 - (intOf i).toNat)
  case atStart => exact ⟨0, Z32, by omega, rfl, by show Z32.size = 32; simp [Z32], hst, fun j hj => absurd hj (by omega), hDs, hBs⟩
  case round =>
    clear hst hBs hDs h44 hB3 hO2 hV2
    obtain ⟨k, cs, hk, rfl, hcs, hout, hpre, hdig, hbel⟩ := hrel
    by_cases hlt2 : k < 8
    · have a1 := (hdig.cell k).trans (r.cells_get k hlt2)
      have hru := St.get_u32 hrU k
      unfold U32 at hru
      have l1 : (k : Int) < 8 := by omega
      have e1 : IntKind.i64.wrap ((k : Int) * 4) = (k : Int) * 4 := IntWalk.i64_in _ (by omega)
      have e2 : ((k : Int) * 4).toNat = k * 4 := by omega
      have e3 : (0 : Int) ≤ (k : Int) * 4 := by omega
      have e4 : (k : Int) * 4 ≤ 32 := by omega
      have e5 : ¬ 32 = k * 4 := by omega
      go_wp2_with fail
      refine region_quiet_tail 8 (by kernel_rfl) (by kernel_rfl) ?_
      simp only [List.take_succ_cons, List.take_zero, List.drop_succ_cons, List.drop_zero]
      repeat (quiet_step (rfl))
      refine wpQuiet_nil ?_
      intro _ hw'
      obtain ⟨nq, rfl⟩ := hw'
      go_wp2_with (go_at_call 76; refine (put_any (w3.heap.size + 1) (k * 4) _ _ cs (r.get k) _ (by omega) hru (hout.drewN nq) (by have := hcs.out; omega)).mono ?_; rintro e w' ⟨rfl, hout', hgr⟩)
      go_roundw
      case rel =>
        have hcs' := hcs.out
        refine ⟨k + 1, put4 cs (k * 4) (r.get k), by omega, by go_num, by show (put4 cs (k * 4) (r.get k)).size = 32; rw [put4_size]; exact hcs', hout', put4_pre cs r k (by omega) hpre.out, ?_, ?_⟩
        · exact (hgr.block w3.heap.size hdig.lt (by simp)).trans hdig
        · have hsz : wr.heap.size ≤ w'.heap.size := hgr.size
          exact hbel.trans ⟨hgr.os, hgr.tape, hgr.output, hsz, fun i hi => hgr.block i (Nat.lt_of_lt_of_le hi hbel.size) (by simp; omega)⟩
      case measure => simp [intOf]; omega
    · obtain rfl : k = 8 := by omega
      go_wp2_with fail
      go_ret
      have hcs' := hcs.out
      have hln : (outBytes r).length = 32 := rfl
      refine ⟨_, rfl, ?_, ⟨v, hO3.below hbel hblt, hV3.keep fun k cs hk _ => hk.below hbel hk.lt⟩, hBw3.trans (hbel.mono hbw3)⟩
      rw [← HR.out]
      refine ⟨by simp, .inr ⟨w3.heap.size + 1, 32, cs, rfl, by omega, hout, by rw [hln]; omega, by unfold maxLen; omega, by omega, ?_⟩⟩
      apply List.ext_getElem?
      intro j
      rw [List.getElem?_take, hln]
      by_cases hj : j < 32
      · rw [if_pos (by omega), Array.getElem?_toList, hpre.out j (by omega), outPre_all, List.getElem?_map, List.getD_eq_getElem?_getD, List.getElem?_eq_getElem (by rw [hln]; exact hj)]
        rfl
      · rw [if_neg (by omega), List.getElem?_eq_none (by rw [List.length_map, hln]; omega)]
end Go.Proofs.YtiegapnfbeemcaaGreatDoor

namespace Go.Proofs.YtiegapnfbeemcaaGreatDoor
set_option maxRecDepth 100000
open Go.RowKit

theorem Fr.step {w wk w' : World} {v vk v' : Value} (h : Fr w v wk vk) (hs : w.heap.size ≤ wk.heap.size) (o : Obj) (h2 : Fr (wk.alloc o) vk w' v') : Fr w v w' v' :=
  (h.trans hs (Fr.alloc o)).trans (by simp; omega) h2

def PadPostF (w : World) (base b : Nat) (s : St) (N : Int) (v : Value) (u p : List Int) (e : Ending) (w' : World) : Prop :=
  ∃ v', e = .returned v' ∧ OwnS w' base v' p ∧ Below base w w' ∧ Blk w' b 100 (smCells s N v) ∧ OwnS w' base v u ∧ Fr w v w' v'

set_option maxRecDepth 100000 in
set_option maxHeartbeats 1000000 in
theorem pad_f (base b : Nat) (s : St) (N : Int) (v : Value) (u : List Int) (w : World) (hb : base ≤ b) (hO : Blk w b 100 (smCells s N v)) (hV : OwnS w base v u) (hN : 0 ≤ N ∧ N ≤ 8000000) (hu : u.length < 64) :
    Calls Tryz.prog 73 #[.pointer (some ⟨b, 0, none⟩)] w (PadPostF w base b s N v u (padTail u N)) := by
  have hcs8 := smCells_8 s N v
  have hlt := hO.lt
  have hbw : base ≤ w.heap.size := by omega
  have c8 := hO.cell 8
  have c9 := hO.cell 9
  rw [hcs8] at c8
  rw [smCells_9] at c9
  have hP := Apart.self hV
  go_enter Tryz.func73, Tryz.ntmps73
  go_wp2_with (at_builtin; refine app_f _ rfl (.tmp 9) (.tmp 10) rfl base v u rfl (hV.alloc _) (w.heap.size + 1) _ 1 1 [128] rfl (Reads.lit w 5 #[.int .u8 128] (Nat.le_refl _)) (by omega) (by simp; omega) ?_; intro v1 w1 hS1 hB1' hK1 hA1 hF1')
  have hF1 := (Fr.refl w v).step (Nat.le_refl _) _ hF1'
  have hB1 : Below base w w1 := ((Below.refl base w).alloc (by omega) _).trans hB1'
  have hO1 := hK1 b 100 _ (by decide) (hO.alloc _)
  obtain ⟨hV1, hP1⟩ := hA1 v u (hV.alloc _) hP
  have hl1 : (u ++ [(128 : Int)]).length = u.length + 1 := by simp
  obtain ⟨g1, o1, d1, _, e1, _⟩ := (id hS1)
  rw [hl1] at e1
  subst e1
  clear c8 c9 hB1' hK1 hA1 hl1 hF1'
  go_loopw [3] (fun v' wr => ∃ g o c m : Nat, v' = .slice (some ⟨g, o, none⟩) m c ∧ u.length + 1 ≤ m ∧ m ≤ u.length + 1 + zn u.length ∧ OwnS wr base (.slice (some ⟨g, o, none⟩) m c) (u ++ [128] ++ List.replicate (m - (u.length + 1)) 0) ∧ Below base w wr ∧
      Blk wr b 100 (smCells s N v) ∧ OwnS wr base v u ∧ Apart v (.slice (some ⟨g, o, none⟩) m c) u.length ∧ Fr w v wr (.slice (some ⟨g, o, none⟩) m c))
    (fun v _ => match v with | .slice _ m _ => u.length + 1 + zn u.length - m | _ => 0)
  case atStart =>
    exact ⟨g1, o1, d1, u.length + 1, rfl, by omega, by omega, by simpa using hS1, hB1, hO1, hV1, hP1, hF1⟩
  case round =>
    clear hS1 hB1 hO1 hV1 hP1 hF1
    obtain ⟨g, o, c, m, rfl, hm0, hm1, hS, hB, hO2, hV2, hP2, hF2⟩ := hrel
    have hz : zn u.length < 64 := by unfold zn; omega
    have hBs := hB.size
    by_cases hlt2 : m = u.length + 1 + zn u.length
    · have ht : ((m : Int) % 64 == 56) = true := by
        have := (zn_stop hm0 hm1); simp; omega
      have ht2 : ((m : Int) % 64 != 56) = false := by
        have := (zn_stop hm0 hm1); simp; omega
      have hpad := padTail_eq u N m hN hlt2
      obtain ⟨L, hL⟩ : ∃ L, (padTail u N).length = L := ⟨_, rfl⟩
      have hL64 : ((L : Int) % 64 == 0) = true := by have := padTail_mod u N; rw [hL] at this; simp; omega
      have hL65 : ((L : Int) % 64 != 0) = false := by have := padTail_mod u N; rw [hL] at this; simp; omega
      have hLm : L ≤ 200 := by have := padTail_length u N; omega
      have LT := Lib.hid hlt2
      clear hlt2
      obtain ⟨v2, e2⟩ : ∃ v2, v2 = Value.slice (some ⟨g, o, none⟩) m c := ⟨_, rfl⟩
      have hS2 := hS
      rw [← e2] at hS2 hP2 hF2
      have hV2' := hV2
      obtain ⟨w2, ew⟩ : ∃ w2, w2 = wr := ⟨_, rfl⟩
      subst ew
      subst e2
      have c2 := hO2.cell 8
      rw [hcs8] at c2
      have hB2 := hB
      clear hB hS hV2'
      go_wp2_with (first
        | (at_builtin; refine app_f _ rfl (.tmp 20) (.tmp 28) rfl base _ _ rfl (hS2.alloc _) (w2.heap.size + 1) _ 1 1 [_] rfl (Reads.lit w2 5 #[.int .u8 _] (Nat.le_refl _)) (by simp; omega) (by simp; have := hB2.size; omega) ?_
           intro v3 w3 hS3 hB3' hK3 hA3 hF3'
           have hF3 := hF2.step hB2.size _ hF3'
           have hB3 := (hB2.alloc (Nat.le_trans hbw hB2.size) _).trans hB3'
           have hO3 := hK3 b 100 _ (by decide) (hO2.alloc _)
           have c3 := hO3.cell 8
           rw [hcs8] at c3
           obtain ⟨hV3, hP3⟩ := hA3 v u (hV2.alloc _) hP2)
        | (at_builtin; refine app_f _ rfl (.tmp 30) (.tmp 38) rfl base v3 _ rfl (hS3.alloc _) (w3.heap.size + 1) _ 1 1 [_] rfl (Reads.lit w3 5 #[.int .u8 _] (Nat.le_refl _)) (by simp; omega) (by simp; have := hB3.size; omega) ?_
           intro v4 w4 hS4 hB4' hK4 hA4 hF4'
           have hF4 := hF3.step hB3.size _ hF4'
           have hB4 := (hB3.alloc (Nat.le_trans hbw hB3.size) _).trans hB4'
           have hO4 := hK4 b 100 _ (by decide) (hO3.alloc _)
           have c4 := hO4.cell 8
           rw [hcs8] at c4
           obtain ⟨hV4, hP4⟩ := hA4 v u (hV3.alloc _) hP3)
        | (at_builtin; refine app_f _ rfl (.tmp 40) (.tmp 48) rfl base v4 _ rfl (hS4.alloc _) (w4.heap.size + 1) _ 1 1 [_] rfl (Reads.lit w4 5 #[.int .u8 _] (Nat.le_refl _)) (by simp; omega) (by simp; have := hB4.size; omega) ?_
           intro v5 w5 hS5 hB5' hK5 hA5 hF5'
           have hF5 := hF4.step hB4.size _ hF5'
           have hB5 := (hB4.alloc (Nat.le_trans hbw hB4.size) _).trans hB5'
           have hO5 := hK5 b 100 _ (by decide) (hO4.alloc _)
           have c5 := hO5.cell 8
           rw [hcs8] at c5
           obtain ⟨hV5, hP5⟩ := hA5 v u (hV4.alloc _) hP4)
        | (at_builtin; refine app_f _ rfl (.tmp 50) (.tmp 58) rfl base v5 _ rfl (hS5.alloc _) (w5.heap.size + 1) _ 1 1 [_] rfl (Reads.lit w5 5 #[.int .u8 _] (Nat.le_refl _)) (by simp; omega) (by simp; have := hB5.size; omega) ?_
           intro v6 w6 hS6 hB6' hK6 hA6 hF6'
           have hF6 := hF5.step hB5.size _ hF6'
           have hB6 := (hB5.alloc (Nat.le_trans hbw hB5.size) _).trans hB6'
           have hO6 := hK6 b 100 _ (by decide) (hO5.alloc _)
           have c6 := hO6.cell 8
           rw [hcs8] at c6
           obtain ⟨hV6, hP6⟩ := hA6 v u (hV5.alloc _) hP5)
        | (at_builtin; refine app_f _ rfl (.tmp 60) (.tmp 68) rfl base v6 _ rfl (hS6.alloc _) (w6.heap.size + 1) _ 1 1 [_] rfl (Reads.lit w6 5 #[.int .u8 _] (Nat.le_refl _)) (by simp; omega) (by simp; have := hB6.size; omega) ?_
           intro v7 w7 hS7 hB7' hK7 hA7 hF7'
           have hF7 := hF6.step hB6.size _ hF7'
           have hB7 := (hB6.alloc (Nat.le_trans hbw hB6.size) _).trans hB7'
           have hO7 := hK7 b 100 _ (by decide) (hO6.alloc _)
           have c7 := hO7.cell 8
           rw [hcs8] at c7
           obtain ⟨hV7, hP7⟩ := hA7 v u (hV6.alloc _) hP6)
        | (at_builtin; refine app_f _ rfl (.tmp 70) (.tmp 78) rfl base v7 _ rfl (hS7.alloc _) (w7.heap.size + 1) _ 1 1 [_] rfl (Reads.lit w7 5 #[.int .u8 _] (Nat.le_refl _)) (by simp; omega) (by simp; have := hB7.size; omega) ?_
           intro v8 w8 hS8 hB8' hK8 hA8 hF8'
           have hF8 := hF7.step hB7.size _ hF8'
           have hB8 := (hB7.alloc (Nat.le_trans hbw hB7.size) _).trans hB8'
           have hO8 := hK8 b 100 _ (by decide) (hO7.alloc _)
           have c8 := hO8.cell 8
           rw [hcs8] at c8
           obtain ⟨hV8, hP8⟩ := hA8 v u (hV7.alloc _) hP7)
        | (at_builtin; refine app_f _ rfl (.tmp 80) (.tmp 88) rfl base v8 _ rfl (hS8.alloc _) (w8.heap.size + 1) _ 1 1 [_] rfl (Reads.lit w8 5 #[.int .u8 _] (Nat.le_refl _)) (by simp; omega) (by simp; have := hB8.size; omega) ?_
           intro v9 w9 hS9 hB9' hK9 hA9 hF9'
           have hF9 := hF8.step hB8.size _ hF9'
           have hB9 := (hB8.alloc (Nat.le_trans hbw hB8.size) _).trans hB9'
           have hO9 := hK9 b 100 _ (by decide) (hO8.alloc _)
           have c9 := hO9.cell 8
           rw [hcs8] at c9
           obtain ⟨hV9, hP9⟩ := hA9 v u (hV8.alloc _) hP8)
        | (at_builtin; refine app_f _ rfl (.tmp 90) (.tmp 98) rfl base v9 _ rfl (hS9.alloc _) (w9.heap.size + 1) _ 1 1 [_] rfl (Reads.lit w9 5 #[.int .u8 _] (Nat.le_refl _)) (by simp; omega) (by simp; have := hB9.size; omega) ?_
           intro v10 w10 hS10 hB10' hK10 hA10 hF10'
           have hF10 := hF9.step hB9.size _ hF10'
           have hB10 := (hB9.alloc (Nat.le_trans hbw hB9.size) _).trans hB10'
           have hO10 := hK10 b 100 _ (by decide) (hO9.alloc _)
           have c10 := hO10.cell 8
           rw [hcs8] at c10
           obtain ⟨hV10, hP10⟩ := hA10 v u (hV9.alloc _) hP9
           rw [hpad] at hS10
           obtain ⟨g10, o10, d10, _, e10, _⟩ := (id hS10)
           rw [hL] at e10
           subst e10))
      go_ret
      refine ⟨_, rfl, ?_, hB10, hO10, hV10, hF10⟩
      rw [← hL] at hS10 ⊢
      exact hS10
    · have ht : ((m : Int) % 64 == 56) = false := by
        have := (zn_stop hm0 hm1); simp; omega
      have ht2 : ((m : Int) % 64 != 56) = true := by
        have := (zn_stop hm0 hm1); simp; omega
      go_wp2_with (at_builtin; refine app_f _ rfl (.tmp 17) (.tmp 18) rfl base _ _ rfl (hS.alloc _) (wr.heap.size + 1) _ 1 1 [0] rfl (Reads.lit wr 5 #[.int .u8 0] (Nat.le_refl _)) (by simp; omega) (by simp; omega) ?_; intro v3 w3 hS3 hB3 hK3 hA3 hF3')
      have hF3 := hF2.step hBs _ hF3'
      have hO3 := hK3 b 100 _ (by decide) (hO2.alloc _)
      obtain ⟨hV3, hP3⟩ := hA3 v u (hV2.alloc _) hP2
      obtain ⟨g3, o3, c3, _, e3, _⟩ := (id hS3)
      have hlen : (u ++ [128] ++ List.replicate (m - (u.length + 1)) 0 ++ [(0 : Int)]).length = m + 1 := by
        simp; omega
      rw [hlen] at e3
      subst e3
      refine ⟨⟨g3, o3, c3, m + 1, rfl, by omega, by omega, ?_, (hB.alloc (Nat.le_trans hbw hBs) _).trans hB3, hO3, hV3, hP3, hF3⟩, by show u.length + 1 + zn u.length - (m + 1) < u.length + 1 + zn u.length - m; omega⟩
      rw [show m + 1 - (u.length + 1) = (m - (u.length + 1)) + 1 by omega, List.replicate_succ', ← List.append_assoc]
      exact hS3
end Go.Proofs.YtiegapnfbeemcaaGreatDoor

namespace Go.Proofs.YtiegapnfbeemcaaGreatDoor
set_option maxRecDepth 100000
open Go.RowKit

/-- Of the blocks that were there only b and that of v are turned; and v' lies in none of the others. -/
def Fb (b : Nat) (w : World) (v : Value) (w' : World) (v' : Value) : Prop := ∀ k, k < w.heap.size → k ≠ b → k ≠ blk v → w'.heap[k]? = w.heap[k]? ∧ k ≠ blk v'

def WritePostF (w : World) (base b : Nat) (s : St) (N : Int) (v : Value) (t : List Int) (n : Nat) (e : Ending) (w' : World) : Prop :=
  e = .returned (.tuple #[.int .i64 n, .nilIface]) ∧ ∃ v', Blk w' b 100 (smCells (absorb t (t.length / 64) s) (N + 8 * n) v') ∧ OwnS w' base v' (t.drop (64 * (t.length / 64))) ∧ Below base w w' ∧ Fb b w v w' v'

set_option maxRecDepth 100000 in
set_option maxHeartbeats 1000000 in
theorem write_f (base b : Nat) (s : St) (N : Int) (v : Value) (u p : List Int) (A : Option Addr) (n c : Nat) (w : World) (hb : base ≤ b) (hO : Blk w b 100 (smCells s N v)) (hV : OwnS w base v u) (hr : Src w b A n p)
    (hby : ∀ x ∈ u ++ p, 0 ≤ x ∧ x ≤ 255) (hN : 0 ≤ N ∧ N ≤ 8000000) (hn : n ≤ 1000000) (hu : u.length < 64) :
    Calls Tryz.prog 39 #[.pointer (some ⟨b, 0, none⟩), .slice A n c] w (WritePostF w base b s N v (u ++ p) n) := by
  have hp : p.length = n := by have := (hr w (fun _ _ => rfl)).1; simpa using this
  have hlt := hO.lt
  have hbw : base ≤ w.heap.size := by omega
  have c8 := hO.cell 8
  have c9 := hO.cell 9
  rw [smCells_8] at c8
  rw [smCells_9] at c9
  have z8 := hO.frozen 8
  have hO1 : Blk (w.setCell ⟨b, 8, none⟩ (.int .u64 (N + (n : Int) * 8))) b 100 (smCells s (N + (n : Int) * 8) v) := by
    have := hO.set_ 8 (.int .u64 (N + (n : Int) * 8)); rwa [smCells_set8] at this
  have hV1 : OwnS (w.setCell ⟨b, 8, none⟩ (.int .u64 (N + (n : Int) * 8))) base v u := hV.keep fun k cs hk _ => hk.far (p := ⟨b, 8, none⟩) (blk_ne hk hO (by decide)) _
  have hr1 : Reads (w.setCell ⟨b, 8, none⟩ (.int .u64 (N + (n : Int) * 8))) w.heap.size 1 A n (p.map (Value.int .u8)) := hr _ fun k hk => Below.heap_setCell w ⟨b, 8, none⟩ _ k hk
  have hB1 : Below base w (w.setCell ⟨b, 8, none⟩ (.int .u64 (N + (n : Int) * 8))) := (Below.refl _ _).setCell hb _
  obtain ⟨L, hL⟩ : ∃ L, (u ++ p).length = L := ⟨_, rfl⟩
  have hLb : L ≤ 1000100 := by rw [← hL, List.length_append]; omega
  go_enter Tryz.func39, Tryz.ntmps39
  go_wp2_with (first
    | (go_at_call 62; refine (blockSize_any _ _).mono ?_; rintro e w' ⟨rfl, rfl⟩)
    | (at_builtin; refine app_f _ rfl (.tmp 25) (.tmp 26) rfl base v u rfl hV1 w.heap.size A n c p rfl hr1 (by omega) (by simp [World.setCell]; omega) ?_
       intro v2 w2 hV2 hB2 hK2 hA2 hF2
       have hO2 := hK2 b 100 _ (by decide) hO1
       obtain ⟨g2, o2, d2, e2, hd2, hm2⟩ := hV2.form
       rw [hL] at e2 hd2
       subst e2))
  have hc2 := hV2.cell
  refine (update_any s b _ g2 o2 L d2 (u ++ p) w2 hd2 hm2 hL (fun _ => ⟨rfl, hc2.2.1, fun j hj => hc2.2.2.2.2.2 j hj, hby⟩) hO2.lt #[.int .u64 (N + (n : Int) * 8), v] hO2 rfl).mono ?_
  rintro e w3 ⟨rfl, hO3, hG3⟩
  have hB3 : Below base w w3 := (hB1.trans hB2).trans ⟨hG3.os, hG3.tape, hG3.output, hG3.size, fun k hk => hG3.block k (by have := hO2.lt; omega) (by simp; omega)⟩
  have hF3 : Fb b w v w3 (Value.slice (some ⟨g2, o2, none⟩) L d2) := fun k hk hkb hkv => by
    obtain ⟨a1, b1⟩ := hF2 k (by simpa [World.setCell] using hk) hkv
    refine ⟨(hG3.block k (by have := hB2.size; simp [World.setCell] at this; omega) (by simpa using hkb)).trans (a1.trans (Below.heap_setCell w ⟨b, 8, none⟩ _ k hkb)), b1⟩
  have hV3 : OwnS w3 base (Value.slice (some ⟨g2, o2, none⟩) L d2) (u ++ p) := hV2.keep fun k cs hk _ => (hG3.block k hk.lt (by have := blk_ne hk hO2 (by decide); simpa using this)).trans hk
  have hO3' : Blk w3 b 100 (smCells (absorb (u ++ p) (L / 64) s) (N + (n : Int) * 8) v) := hO3
  have hV4 := hV3.cut (L / 64 * 64) (by omega)
  have c9' := hO3'.cell 9
  rw [smCells_9] at c9'
  have z9 := hO3'.frozen 9
  have fin : ∀ v', OwnS w3 base v' ((u ++ p).drop (L / 64 * 64)) → blk v' = g2 → WritePostF w base b s N v (u ++ p) n (.returned (.tuple #[.int .i64 n, .nilIface])) (w3.setCell ⟨b, 9, none⟩ v') := fun v' hv' hbk => by
    refine ⟨rfl, v', ?_, ?_, hB3.setCell hb _, fun k hk hkb hkv => ?_⟩
    · have := hO3'.set_ 9 v'
      rw [smCells_set9] at this
      rw [hL, Int.mul_comm 8]
      exact this
    · rw [hL, Nat.mul_comm 64]
      exact hv'.keep fun k cs hk _ => hk.far (p := ⟨b, 9, none⟩) (blk_ne hk hO3' (by decide)) _
    · obtain ⟨a1, b1⟩ := hF3 k hk hkb hkv
      exact ⟨(Below.heap_setCell w3 ⟨b, 9, none⟩ v' k hkb).trans a1, by rw [hbk]; exact b1⟩
  clear hO3 hG3 hB3 hV2 hc2 hr1 hr hF2 hF3
  have hdm : d2 ≤ 9223372036854775807 := by unfold maxLen at hm2; omega
  by_cases hq : d2 = L / 64 * 64
  · rw [if_pos hq] at hV4
    obtain rfl : d2 = L := by omega
    have hK := hq.symm
    clear hq
    rw [hK] at hV4 fin
    rw [Nat.sub_self] at hV4
    have F := fin _ hV4 rfl
    have HF := Lib.hid F
    clear F fin hV4
    go_wp2_with (go_at_call 62; refine (blockSize_any _ _).mono ?_; rintro e w' ⟨rfl, rfl⟩)
    go_ret2
    exact HF.out
  · rw [if_neg hq] at hV4
    have F := fin _ hV4 rfl
    have HF := Lib.hid F
    clear F fin hV4
    go_wp2_with (go_at_call 62; refine (blockSize_any _ _).mono ?_; rintro e w' ⟨rfl, rfl⟩)
    go_ret2
    exact HF.out
end Go.Proofs.YtiegapnfbeemcaaGreatDoor

namespace Go.Proofs.YtiegapnfbeemcaaGreatDoor
set_option maxRecDepth 100000
open Go.RowKit

theorem OwnS.blk_lt {w : World} {base : Nat} {v : Value} {u : List Int} (h : OwnS w base v u) : blk v < w.heap.size := by
  obtain ⟨g, o, c, cur, rfl, _, h2, _⟩ := h
  exact h2.lt

def SumPostF (w : World) (base b : Nat) (s : St) (N : Int) (v : Value) (u : List Int) (e : Ending) (w' : World) : Prop :=
  ∃ r, e = .returned r ∧ OwnB w' base r (outBytes (absorb (padTail u N) ((padTail u N).length / 64) s)) ∧ ∃ v', Blk w' b 100 (smCells s N v') ∧ OwnS w' base v' u ∧ Below base w w' ∧ Fb b w v w' v' ∧ blk r ≠ blk v' ∧ w.heap.size ≤ blk r

set_option maxRecDepth 100000 in
set_option maxHeartbeats 1000000 in
theorem sum_f (base b : Nat) (s : St) (N : Int) (v : Value) (u : List Int) (A : Option Addr) (w : World) (hb : base ≤ b) (hO : Blk w b 100 (smCells s N v)) (hV : OwnS w base v u) (hs : s.U)
    (hby : ∀ x ∈ u, 0 ≤ x ∧ x ≤ 255) (hN : 0 ≤ N ∧ N ≤ 8000000) (hu : u.length < 64) :
    Calls Tryz.prog 47 #[.pointer (some ⟨b, 0, none⟩), .slice A 0 0] w (SumPostF w base b s N v u) := by
  have hm := make32
  have hsrc : Src w b A 0 [] := fun _ _ => ⟨rfl, fun h => absurd h (by omega)⟩
  have hw := write_f base b s N v u [] A 0 0 w hb hO hV hsrc (by simpa using hby) hN (by omega) hu
  have hlt : b < w.heap.size := hO.lt
  go_enter Tryz.func47, Tryz.ntmps47
  go_wp2_with fail
  refine hw.mono ?_
  rintro e w1 ⟨rfl, v1, hO1, hV1, hB1, hF1⟩
  simp only [List.append_nil] at hO1 hV1
  rw [show u.length / 64 = 0 by omega] at hO1 hV1
  simp only [absorb, Nat.mul_zero, List.drop_zero] at hO1 hV1
  have e8 : N + 8 * ((0 : Nat) : Int) = N := by omega
  rw [e8] at hO1
  clear hw hsrc hO hV e8
  go_wp2_with (go_at_call 73; refine (pad_f base b s N v1 u w1 hb hO1 hV1 hN hu).mono ?_; rintro e w2 ⟨v2, rfl, hS2, hB2, hO2, hV2, hF2⟩)
  obtain ⟨g2, o2, d2, e2, hd2, hm2⟩ := hS2.form
  subst e2
  have hc2 := hS2.cell
  refine (update2_any s b _ g2 o2 _ d2 (padTail u N) w2 hd2 hm2 rfl (fun _ => ⟨rfl, hc2.2.1, fun j hj => hc2.2.2.2.2.2 j hj, padTail_byte hby hN⟩) hO2.lt #[.int .u64 N, v1] hO2 rfl).mono ?_
  rintro e w3 ⟨rfl, hB3⟩
  have hrU : (absorb (padTail u N) ((padTail u N).length / 64) s).U := u32_absorb _ _ hs
  obtain ⟨r, hr⟩ : ∃ r, r = absorb (padTail u N) ((padTail u N).length / 64) s := ⟨_, rfl⟩
  rw [← hr] at hrU ⊢
  have HR := Lib.hid hr
  have HC := Lib.hid hc2
  clear hr hc2 hS2
  have hO3 := hO2.below hB3 hO2.lt
  have hV3 : OwnS w3 base v1 u := hV2.keep fun k cs hk _ => hk.below hB3 hk.lt
  have hBw3 : Below base w w3 := (hB1.trans hB2).trans (hB3.mono (by have := hO2.lt; omega))
  have hFw : ∀ k, k < w.heap.size → k ≠ b → k ≠ blk v → w3.heap[k]? = w.heap[k]? ∧ k ≠ blk v1 := fun k hk hkb hkv => by
    obtain ⟨a1, b1⟩ := hF1 k hk hkb hkv
    obtain ⟨a2, b2⟩ := hF2 k (Nat.lt_of_lt_of_le hk hB1.size) b1
    exact ⟨(hB3.block k (Nat.lt_of_lt_of_le hk (hB1.trans hB2).size)).trans (a2.trans a1), b1⟩
  have hvb : blk v1 < w3.heap.size := hV3.blk_lt
  clear hF1 hF2
  have hcp := copy_none
  have h44 := Blk.new w3 25 r.cells
  have hs3 := hBw3.size
  unfold St.agg
  go_wp2_with (go_at_call 75; refine (size_any _ _).mono ?_; rintro e w' ⟨rfl, rfl⟩)
  clear hm hcp hB1 hB2 hO1 hV1
  have hbw3 : base ≤ w3.heap.size := by omega
  have hst : Blk ((w3.alloc (.cells r.cells 25)).alloc (.cells Z32 5)) (w3.heap.size + 1) 5 Z32 := by
    have := Blk.new (w3.alloc (.cells r.cells 25)) 5 Z32
    rwa [World.size_alloc] at this
  have hBs : Below w3.heap.size w3 ((w3.alloc (.cells r.cells 25)).alloc (.cells Z32 5)) := ((Below.refl _ _).alloc (Nat.le_refl _) _).alloc (by simp) _
  have hDs := h44.alloc (.cells Z32 5)
  have hblt : b < w3.heap.size := hO3.lt
  go_loopw [10] (fun i wr => ∃ (k : Nat) (cs : Array Value), k ≤ 8 ∧ i = .int .i64 k ∧ Hid (cs.size = 32) ∧ Blk wr (w3.heap.size + 1) 5 cs ∧ Hid (∀ j, j < 4 * k → cs[j]? = some (.int .u8 ((outPre r k).getD j 0))) ∧
      Blk wr w3.heap.size 25 r.cells ∧ Below w3.heap.size w3 wr) (fun i _ => 8 - (intOf i).toNat)
  case atStart => exact ⟨0, Z32, by omega, rfl, by show Z32.size = 32; simp [Z32], hst, fun j hj => absurd hj (by omega), hDs, hBs⟩
  case round =>
    clear hst hBs hDs h44 hB3 hO2 hV2
    obtain ⟨k, cs, hk, rfl, hcs, hout, hpre, hdig, hbel⟩ := hrel
    by_cases hlt2 : k < 8
    · have a1 := (hdig.cell k).trans (r.cells_get k hlt2)
      have hru := St.get_u32 hrU k
      unfold U32 at hru
      have l1 : (k : Int) < 8 := by omega
      have e1 : IntKind.i64.wrap ((k : Int) * 4) = (k : Int) * 4 := IntWalk.i64_in _ (by omega)
      have e2 : ((k : Int) * 4).toNat = k * 4 := by omega
      have e3 : (0 : Int) ≤ (k : Int) * 4 := by omega
      have e4 : (k : Int) * 4 ≤ 32 := by omega
      have e5 : ¬ 32 = k * 4 := by omega
      go_wp2_with fail
      refine region_quiet_tail 8 (by kernel_rfl) (by kernel_rfl) ?_
      simp only [List.take_succ_cons, List.take_zero, List.drop_succ_cons, List.drop_zero]
      repeat (quiet_step (rfl))
      refine wpQuiet_nil ?_
      intro _ hw'
      obtain ⟨nq, rfl⟩ := hw'
      go_wp2_with (go_at_call 76; refine (put_any (w3.heap.size + 1) (k * 4) _ _ cs (r.get k) _ (by omega) hru (hout.drewN nq) (by have := hcs.out; omega)).mono ?_; rintro e w' ⟨rfl, hout', hgr⟩)
      go_roundw
      case rel =>
        have hcs' := hcs.out
        refine ⟨k + 1, put4 cs (k * 4) (r.get k), by omega, by go_num, by show (put4 cs (k * 4) (r.get k)).size = 32; rw [put4_size]; exact hcs', hout', put4_pre cs r k (by omega) hpre.out, ?_, ?_⟩
        · exact (hgr.block w3.heap.size hdig.lt (by simp)).trans hdig
        · have hsz : wr.heap.size ≤ w'.heap.size := hgr.size
          exact hbel.trans ⟨hgr.os, hgr.tape, hgr.output, hsz, fun i hi => hgr.block i (Nat.lt_of_lt_of_le hi hbel.size) (by simp; omega)⟩
      case measure => simp [intOf]; omega
    · obtain rfl : k = 8 := by omega
      go_wp2_with fail
      go_ret
      have hcs' := hcs.out
      have hln : (outBytes r).length = 32 := rfl
      refine ⟨_, rfl, ?_, v1, hO3.below hbel hblt, hV3.keep fun k cs hk _ => hk.below hbel hk.lt, hBw3.trans (hbel.mono hbw3), fun k hk hkb hkv => ?_, by show w3.heap.size + 1 ≠ blk v1; omega, by show w.heap.size ≤ w3.heap.size + 1; omega⟩
      · rw [← HR.out]
        refine ⟨by simp, .inr ⟨w3.heap.size + 1, 32, cs, rfl, by omega, hout, by rw [hln]; omega, by unfold maxLen; omega, by omega, ?_⟩⟩
        apply List.ext_getElem?
        intro j
        rw [List.getElem?_take, hln]
        by_cases hj : j < 32
        · rw [if_pos (by omega), Array.getElem?_toList, hpre.out j (by omega), outPre_all, List.getElem?_map, List.getD_eq_getElem?_getD, List.getElem?_eq_getElem (by rw [hln]; exact hj)]
          rfl
        · rw [if_neg (by omega), List.getElem?_eq_none (by rw [List.length_map, hln]; omega)]
      · obtain ⟨a1, b1⟩ := hFw k hk hkb hkv
        exact ⟨(hbel.block k (by omega)).trans a1, b1⟩
end Go.Proofs.YtiegapnfbeemcaaGreatDoor
