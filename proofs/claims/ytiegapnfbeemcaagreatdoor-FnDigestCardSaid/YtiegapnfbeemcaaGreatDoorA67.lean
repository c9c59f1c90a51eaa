/-
  The hash's inner step. No condition.
-/
import Derived.Test.YtiegapnfbeemcaaGreatDoorA01
import Derived.Test.YtiegapnfbeemcaaGreatDoorA65
import Derived.BigQuiet
import Derived.LoopTactic
import Derived.Lib.Hide
import Derived.WalkSmall
namespace Go.Proofs.YtiegapnfbeemcaaGreatDoor
open Go.RowKit

/-- The array of 68 words as it is made. -/
def Z68 : Array Value := Array.replicate 68 (.int .u32 0)
theorem zero56 (w : World) : (zeroValue 86).run Tryz.prog w = .ok (.agg Z68) w := by kernel_rfl
def Z64 : Array Value := Array.replicate 64 (.int .u32 0)
theorem zero65 (w : World) : (zeroValue 125).run Tryz.prog w = .ok (.agg Z64) w := by kernel_rfl
def Y8 : Array Value := #[.int .u32 0, .int .u32 0, .int .u32 0, .int .u32 0, .int .u32 0, .int .u32 0, .int .u32 0, .int .u32 0]

/-- The memory of a compression: the state that came, the result, the words. -/
structure CM (w wr : World) (s : St) (f : Nat → Int) : Prop where
  below : Below w.heap.size w wr
  size : w.heap.size + 1 + 1 + 1 ≤ wr.heap.size
  box : Blk wr w.heap.size 25 s.cells
  res : Blk wr (w.heap.size + 1) 25 Y8
  arr : ArrU wr (w.heap.size + 1 + 1) 86 68 f

theorem CM.start (w : World) (s : St) : CM w (((w.alloc (.cells s.cells 25)).alloc (.cells Y8 25)).alloc (.cells Z68 86)) s (fun _ => 0) := by
  refine ⟨(((Below.refl _ _).alloc (Nat.le_refl _) _).alloc (by simp) _).alloc (by simp; omega) _, by simp, ((Blk.new w 25 _).alloc _).alloc _, ?_, ?_⟩
  · have := (Blk.new (w.alloc (.cells s.cells 25)) 25 Y8).alloc (.cells Z68 86)
    simpa using this
  · have := Blk.new ((w.alloc (.cells s.cells 25)).alloc (.cells Y8 25)) 86 Z68
    refine ⟨Z68, by simpa using this, by simp [Z68], fun j hj => ?_⟩
    simp [Z68, hj]
theorem CM.drewN {w wr : World} {s : St} {f : Nat → Int} (h : CM w wr s f) (n : Nat) : CM w (wr.drewN n) s f :=
  ⟨below_drewN h.below n, h.size, h.box, h.res, h.arr⟩
theorem CM.set_ {w wr : World} {s : St} {f f' : Nat → Int} (h : CM w wr s f) (i : Nat) (x : Int) (he : ∀ j, j < 68 → f' j = if j = i then x else f j) :
    CM w (wr.setCell ⟨w.heap.size + 1 + 1, i, none⟩ (.int .u32 x)) s f' :=
  ⟨h.below.setCell (by simp; omega) _, by have := h.size; simpa [World.setCell] using this, h.box.far (by simp; omega) _, h.res.far (by simp) _, h.arr.set_ i x he⟩

section
variable (W : Nat → Int) (k : Nat) (r : St)
theorem rnd_a_low (h : k < 16) : (rnd W k r).a = (bits .xor .u32 (bits .xor .u32 r.a r.b) r.c + r.d + bits .xor .u32 (rot ((rot r.a 12 + r.e + rot 2043430169 k) % 4294967296) 7) (rot r.a 12) + bits .xor .u32 (W k) (W (k + 4))) % 4294967296 := by
  simp [rnd, tOne, sOne, tj, ffj, xor3, h]
theorem rnd_e_low (h : k < 16) : (rnd W k r).e = pp0 ((bits .xor .u32 (bits .xor .u32 r.e r.f) r.g + r.h + rot ((rot r.a 12 + r.e + rot 2043430169 k) % 4294967296) 7 + W k) % 4294967296) := by
  simp [rnd, tTwo, sOne, tj, ggj, xor3, h]
theorem rnd_a_high (h : ¬ k < 16) : (rnd W k r).a = (maj r.a r.b r.c + r.d + bits .xor .u32 (rot ((rot r.a 12 + r.e + rot 2055708042 k) % 4294967296) 7) (rot r.a 12) + bits .xor .u32 (W k) (W (k + 4))) % 4294967296 := by
  simp [rnd, tOne, sOne, tj, ffj, h]
theorem rnd_e_high (h : ¬ k < 16) : (rnd W k r).e = pp0 ((cho r.e r.f r.g + r.h + rot ((rot r.a 12 + r.e + rot 2055708042 k) % 4294967296) 7 + W k) % 4294967296) := by
  simp [rnd, tTwo, sOne, tj, ggj, h]
end

theorem quiet_add {P : Program} {f : FuncId} {args : Array Value} {w : World} {a n : Nat} {v : Value}
    (h : Calls P f args (w.drewN (a + n)) fun e w' => e = .returned v ∧ ∃ m, w' = (w.drewN (a + n)).drewN m) :
    Calls P f args (w.drewN (a + n)) fun e w'' => e = .returned v ∧ ∃ m, w'' = w.drewN (a + m) :=
  h.mono fun _ _ ⟨he, m, hm⟩ => ⟨he, n + m, by rw [hm, World.drewN_drewN, Nat.add_assoc]⟩

set_option maxRecDepth 100000 in
set_option maxHeartbeats 1000000 in
theorem compress_any (s : St) (g o n c : Nat) (l : List Int) (w : World) (hn : 64 ≤ n) (hc : n ≤ c) (hm : c ≤ maxLen) (hg : g < w.heap.size) (hl : l.length = 64) (hb : Bytes w g o l) :
    Calls Tryz.prog 29 #[.agg #[.int .u32 s.a, .int .u32 s.b, .int .u32 s.c, .int .u32 s.d, .int .u32 s.e, .int .u32 s.f, .int .u32 s.g, .int .u32 s.h], .slice (some ⟨g, o, none⟩) n c] w
      fun e w' => e = .returned (comp s (wordAt l 0)).agg ∧ Below w.heap.size w w' := by
  unfold maxLen at hm
  have hz := zero56
  go_enter Tryz.func29, Tryz.ntmps29
  go_wp2_with fail
  clear hz
  have HL := Lib.hid hl
  clear hl
  go_loopw [23] (fun i wr => ∃ k : Nat, k ≤ 16 ∧ i = .int .i64 k ∧ CM w wr s (fun j => if j < k then wordAt l 0 j else 0)) (fun i _ => 16 - (intOf i).toNat)
  case atStart => exact ⟨0, by omega, rfl, CM.start w s⟩
  case round =>
    obtain ⟨k, hk, rfl, hcm⟩ := hrel
    by_cases hlt : k < 16
    · have hbr := hb.below hcm.below hg
      have h0 := hbr.cell (4 * k) (by have := HL.out; omega)
      have h1 := hbr.cell (4 * k + 1) (by have := HL.out; omega)
      have h2 := hbr.cell (4 * k + 2) (by have := HL.out; omega)
      have h3 := hbr.cell (4 * k + 3) (by have := HL.out; omega)
      have ha := hcm.arr.cell (j := k) (by omega)
      have hf := hcm.arr.frozen k
      have hcap : ¬ c = 4 * k := by omega
      go_wp2_with (go_at_call 51; refine (word_any g (o + 4 * k) _ _ _ _ _ _ _ (by omega) (byte_getD hb.byte _) (byte_getD hb.byte _) (byte_getD hb.byte _) (byte_getD hb.byte _) h0 h1 h2 h3).mono ?_; rintro e w' ⟨rfl, m, rfl⟩)
      go_roundw
      case rel =>
        refine ⟨k + 1, by omega, by go_num, (hcm.drewN m).set_ k _ (fun j hj => ?_)⟩
        by_cases h : j = k
        · subst h
          rw [if_pos (by omega), if_pos rfl]
          simp only [wordAt, Nat.zero_add, List.getD_eq_getElem?_getD]
        · rw [if_neg h]
          by_cases h2 : j < k
          · rw [if_pos (by omega), if_pos h2]
          · rw [if_neg (by omega), if_neg h2]
      case measure => simp [intOf]; omega
    · go_wp2_with fail
      go_loopw [7] (fun i wr => ∃ k : Nat, 16 ≤ k ∧ k ≤ 68 ∧ i = .int .i64 k ∧ CM w wr s (fun j => if j < k then wexp (wordAt l 0) j else 0)) (fun i _ => 68 - (intOf i).toNat)
      case atStart =>
        obtain rfl : k = 16 := by omega
        exact ⟨16, by omega, by omega, rfl, hcm.below, hcm.size, hcm.box, hcm.res, hcm.arr.congr fun j hj => by
          by_cases h : j < 16
          · simp only [h, if_true]; rw [wexp_low _ _ h]
          · simp only [h, if_false]⟩
      case round =>
        clear hcm hk hlt
        rename_i hx _
        obtain ⟨m, hm0, hm1, rfl, hcm⟩ := hrel
        by_cases hlt : m < 68
        · obtain ⟨p1, e1, q1⟩ : ∃ p : Nat, IntKind.i64.wrap ((m : Int) - 16) = (p : Int) ∧ p + 16 = m := ⟨m - 16, by rw [IntWalk.i64_in _ (by omega)]; omega, by omega⟩
          obtain ⟨p2, e2, q2⟩ : ∃ p : Nat, IntKind.i64.wrap ((m : Int) - 9) = (p : Int) ∧ p + 9 = m := ⟨m - 9, by rw [IntWalk.i64_in _ (by omega)]; omega, by omega⟩
          obtain ⟨p3, e3, q3⟩ : ∃ p : Nat, IntKind.i64.wrap ((m : Int) - 3) = (p : Int) ∧ p + 3 = m := ⟨m - 3, by rw [IntWalk.i64_in _ (by omega)]; omega, by omega⟩
          obtain ⟨p4, e4, q4⟩ : ∃ p : Nat, IntKind.i64.wrap ((m : Int) - 13) = (p : Int) ∧ p + 13 = m := ⟨m - 13, by rw [IntWalk.i64_in _ (by omega)]; omega, by omega⟩
          obtain ⟨p5, e5, q5⟩ : ∃ p : Nat, IntKind.i64.wrap ((m : Int) - 6) = (p : Int) ∧ p + 6 = m := ⟨m - 6, by rw [IntWalk.i64_in _ (by omega)]; omega, by omega⟩
          have a1 := hcm.arr.cell (j := p1) (by omega)
          have a2 := hcm.arr.cell (j := p2) (by omega)
          have a3 := hcm.arr.cell (j := p3) (by omega)
          have a4 := hcm.arr.cell (j := p4) (by omega)
          have a5 := hcm.arr.cell (j := p5) (by omega)
          have a6 := hcm.arr.cell (j := m) (by omega)
          have hf := hcm.arr.frozen m
          simp only [show p1 < m by omega, show p2 < m by omega, show p3 < m by omega, show p4 < m by omega, show p5 < m by omega, if_true] at a1 a2 a3 a4 a5
          have l1 : (p1 : Int) < 68 := by omega
          have l2 : (p2 : Int) < 68 := by omega
          have l3 : (p3 : Int) < 68 := by omega
          have l4 : (p4 : Int) < 68 := by omega
          have l5 : (p5 : Int) < 68 := by omega
          have l6 : (m : Int) < 68 := by omega
          have Q := Lib.hid (And.intro q1 (And.intro q2 (And.intro q3 (And.intro q4 q5))))
          clear q1 q2 q3 q4 q5
          go_wp2_with fail
          refine region_quiet_tail 29 (by kernel_rfl) (by kernel_rfl) ?_
          simp only [List.take_succ_cons, List.take_zero, List.drop_succ_cons, List.drop_zero]
          repeat (quiet_step ((first | (go_at_call 53; exact Calls.quiet_of (rotate_any _ _ _ (by omega))) | (go_at_call 52; exact Calls.quiet_of (sp1_any _ _)))))
          refine wpQuiet_nil ?_
          intro _ hw'
          obtain ⟨nq, rfl⟩ := hw'
          go_wp2_with fail
          go_roundw
          case rel =>
            refine ⟨m + 1, by omega, by omega, by go_num, (hcm.drewN nq).set_ m _ (fun j hj => ?_)⟩
            obtain ⟨q1, q2, q3, q4, q5⟩ := Q.out
            by_cases h : j = m
            · subst h
              rw [if_pos (by omega), if_pos rfl, wexp_high _ _ hm0, show j - 16 = p1 by omega, show j - 9 = p2 by omega, show j - 3 = p3 by omega, show j - 13 = p4 by omega, show j - 6 = p5 by omega]
            · rw [if_neg h]
              by_cases h2 : j < m
              · rw [if_pos (by omega), if_pos h2]
              · rw [if_neg (by omega), if_neg h2]
          case measure => simp [intOf]; omega
        · have hcm' : CM w wr s (wexp (wordAt l 0)) := ⟨hcm.below, hcm.size, hcm.box, hcm.res, hcm.arr.congr fun j hj => by rw [if_pos (by omega)]⟩
          clear hcm
          have b0 := hcm'.box.cell 0
          have b1 := hcm'.box.cell 1
          have b2 := hcm'.box.cell 2
          have b3 := hcm'.box.cell 3
          have b4 := hcm'.box.cell 4
          have b5 := hcm'.box.cell 5
          have b6 := hcm'.box.cell 6
          have b7 := hcm'.box.cell 7
          simp only [St.cells, List.getElem?_toArray, List.getElem?_cons_zero, List.getElem?_cons_succ] at b0 b1 b2 b3 b4 b5 b6 b7
          go_wp2_with fail
          go_quiet (fail)
          go_wp2_with fail
          clear b0 b1 b2 b3 b4 b5 b6 b7
          go_loopw [8, 9, 10, 11, 12, 13, 14, 15, 83] (fun v8 v9 v10 v11 v12 v13 v14 v15 i wr => ∃ (k : Nat) (r : St), k ≤ 64 ∧ i = .int .i64 k ∧ CM w wr s (wexp (wordAt l 0)) ∧ Hid (r = rounds (wexp (wordAt l 0)) k s) ∧
            v8 = .int .u32 r.a ∧ v9 = .int .u32 r.b ∧ v10 = .int .u32 r.c ∧ v11 = .int .u32 r.d ∧ v12 = .int .u32 r.e ∧ v13 = .int .u32 r.f ∧ v14 = .int .u32 r.g ∧ v15 = .int .u32 r.h) (fun _ _ _ _ _ _ _ _ i _ => 64 - (intOf i).toNat)
          case atStart => exact ⟨0, s, by omega, rfl, hcm'.drewN nq, rfl, rfl, rfl, rfl, rfl, rfl, rfl, rfl, rfl⟩
          case round =>
            clear hcm' hm0 hm1 hlt
            obtain ⟨k, r, hk, rfl, hcm, hr, rfl, rfl, rfl, rfl, rfl, rfl, rfl, rfl⟩ := hrel
            by_cases hlt : k < 64
            · have a1 := hcm.arr.cell (j := k) (by omega)
              have a2 := hcm.arr.cell (j := k + 4) (by omega)
              have l1 : (k : Int) < 68 := by omega
              have l2 : (k : Int) + 4 < 68 := by omega
              have e1 : IntKind.i64.wrap ((k : Int) + 4) = (k : Int) + 4 := IntWalk.i64_in _ (by omega)
              have e2 : ((k : Int) + 4).toNat = k + 4 := by omega
              have l3 : (0 : Int) ≤ (k : Int) + 4 := by omega
              have hu : IntKind.u32.signed = false := rfl
              by_cases h16 : k < 16
              · go_wp2_with (first | (go_at_call 53; refine (rotate_any _ _ _ (by omega)).mono ?_; rintro e w' ⟨rfl, n0, rfl⟩) | (go_at_call 54; refine (sp0_any _ _).mono ?_; rintro e w' ⟨rfl, n0, rfl⟩) | go_quiet ((go_at_call 53; exact quiet_add (rotate_any _ _ _ (by omega)))))
                go_roundw
                case rel =>
                  refine ⟨k + 1, rnd (wexp (wordAt l 0)) k r, by omega, by go_num, hcm.drewN _, by rw [hr.out]; rfl, ?_, rfl, rfl, rfl, ?_, rfl, rfl, rfl⟩
                  · rw [rnd_a_low _ _ _ h16]
                  · rw [rnd_e_low _ _ _ h16]
                case measure => simp [intOf]; omega
              · go_wp2_with (first | (go_at_call 53; refine (rotate_any _ _ _ (by omega)).mono ?_; rintro e w' ⟨rfl, n0, rfl⟩) | (go_at_call 54; refine (sp0_any _ _).mono ?_; rintro e w' ⟨rfl, n0, rfl⟩) | go_quiet ((go_at_call 53; exact quiet_add (rotate_any _ _ _ (by omega)))))
                go_roundw
                case rel =>
                  refine ⟨k + 1, rnd (wexp (wordAt l 0)) k r, by omega, by go_num, hcm.drewN _, by rw [hr.out]; rfl, ?_, rfl, rfl, rfl, ?_, rfl, rfl, rfl⟩
                  · rw [rnd_a_high _ _ _ h16]; rfl
                  · rw [rnd_e_high _ _ _ h16]; rfl
                case measure => simp [intOf]; omega
            · have b0 := hcm.box.cell 0
              have b1 := hcm.box.cell 1
              have b2 := hcm.box.cell 2
              have b3 := hcm.box.cell 3
              have b4 := hcm.box.cell 4
              have b5 := hcm.box.cell 5
              have b6 := hcm.box.cell 6
              have b7 := hcm.box.cell 7
              have c0 := hcm.res.cell 0
              have f0 := hcm.res.frozen 0
              have c1 := hcm.res.cell 1
              have f1 := hcm.res.frozen 1
              have c2 := hcm.res.cell 2
              have f2 := hcm.res.frozen 2
              have c3 := hcm.res.cell 3
              have f3 := hcm.res.frozen 3
              have c4 := hcm.res.cell 4
              have f4 := hcm.res.frozen 4
              have c5 := hcm.res.cell 5
              have f5 := hcm.res.frozen 5
              have c6 := hcm.res.cell 6
              have f6 := hcm.res.frozen 6
              have c7 := hcm.res.cell 7
              have f7 := hcm.res.frozen 7
              simp only [St.cells, Y8, List.getElem?_toArray, List.getElem?_cons_zero, List.getElem?_cons_succ] at b0 b1 b2 b3 b4 b5 b6 b7 c0 c1 c2 c3 c4 c5 c6 c7
              obtain rfl : k = 64 := by omega
              go_wp2_with fail
              refine bodyPost_ret (v := (comp s (wordAt l 0)).agg) ?_ rfl ⟨rfl, ?_⟩
              · rw [comp, ← hr.out]
                simp [results, Tryz.results29, go_sem, St.agg, St.mix, c0, c1, c2, c3, c4, c5, c6, c7]

              · exact (((((((hcm.below.setCell (by simp) _).setCell (by simp) _).setCell (by simp) _).setCell (by simp) _).setCell (by simp) _).setCell (by simp) _).setCell (by simp) _).setCell (by simp) _
end Go.Proofs.YtiegapnfbeemcaaGreatDoor
