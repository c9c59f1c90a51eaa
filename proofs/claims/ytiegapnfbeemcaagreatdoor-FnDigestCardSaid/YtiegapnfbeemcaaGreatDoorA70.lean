/-
  The hash takes whole blocks, a second loop. No condition.
-/
import Derived.Test.YtiegapnfbeemcaaGreatDoorA69
namespace Go.Proofs.YtiegapnfbeemcaaGreatDoor
set_option maxRecDepth 100000
open Go.RowKit

set_option maxRecDepth 100000 in
set_option maxHeartbeats 4000000 in
theorem update2_any (s : St) (b : Nat) (A : Option Addr) (g o n c : Nat) (l : List Int) (w : World) (hn : n ≤ c) (hm : c ≤ maxLen) (hl : l.length = n)
    (hA0 : 64 ≤ n → A = some ⟨g, o, none⟩ ∧ g < w.heap.size ∧ Bytes w g o l) (hb : b < w.heap.size) (cs : Array Value) (hbl : Blk w b 100 (s.cells ++ cs)) (hcs : cs.size = 2) :
    Calls Tryz.prog 74 #[.pointer (some ⟨b, 0, none⟩), .slice A n c] w fun e w' => e = .returned (absorb l (n / 64) s).agg ∧ Below w.heap.size w w' := by
  have hA : 64 ≤ n → A = some ⟨g, o, none⟩ ∧ g < (w.alloc (.cells Y8 25)).heap.size ∧ Bytes (w.alloc (.cells Y8 25)) g o l := fun h => by
    obtain ⟨h1, h2, h3⟩ := hA0 h
    exact ⟨h1, by simp; omega, h3.keep (Below.heap_alloc w _ g h2)⟩
  clear hA0
  have c0 := hbl.cell 0
  have c1 := hbl.cell 1
  have c2 := hbl.cell 2
  have c3 := hbl.cell 3
  have c4 := hbl.cell 4
  have c5 := hbl.cell 5
  have c6 := hbl.cell 6
  have c7 := hbl.cell 7
  simp [St.cells, Array.getElem?_append] at c0 c1 c2 c3 c4 c5 c6 c7
  have hz := zero56
  have hz2 := zero65
  have k0 := fun o0 o1 o2 => (World.cell?_alloc_lt ((w.alloc o0).alloc o1) o2 ⟨b, 0, none⟩ (by simp; omega)).trans ((World.cell?_alloc_lt (w.alloc o0) o1 ⟨b, 0, none⟩ (by simp; omega)).trans ((World.cell?_alloc_lt w o0 ⟨b, 0, none⟩ hb).trans c0))
  have k1 := fun o0 o1 o2 => (World.cell?_alloc_lt ((w.alloc o0).alloc o1) o2 ⟨b, 1, none⟩ (by simp; omega)).trans ((World.cell?_alloc_lt (w.alloc o0) o1 ⟨b, 1, none⟩ (by simp; omega)).trans ((World.cell?_alloc_lt w o0 ⟨b, 1, none⟩ hb).trans c1))
  have k2 := fun o0 o1 o2 => (World.cell?_alloc_lt ((w.alloc o0).alloc o1) o2 ⟨b, 2, none⟩ (by simp; omega)).trans ((World.cell?_alloc_lt (w.alloc o0) o1 ⟨b, 2, none⟩ (by simp; omega)).trans ((World.cell?_alloc_lt w o0 ⟨b, 2, none⟩ hb).trans c2))
  have k3 := fun o0 o1 o2 => (World.cell?_alloc_lt ((w.alloc o0).alloc o1) o2 ⟨b, 3, none⟩ (by simp; omega)).trans ((World.cell?_alloc_lt (w.alloc o0) o1 ⟨b, 3, none⟩ (by simp; omega)).trans ((World.cell?_alloc_lt w o0 ⟨b, 3, none⟩ hb).trans c3))
  have k4 := fun o0 o1 o2 => (World.cell?_alloc_lt ((w.alloc o0).alloc o1) o2 ⟨b, 4, none⟩ (by simp; omega)).trans ((World.cell?_alloc_lt (w.alloc o0) o1 ⟨b, 4, none⟩ (by simp; omega)).trans ((World.cell?_alloc_lt w o0 ⟨b, 4, none⟩ hb).trans c4))
  have k5 := fun o0 o1 o2 => (World.cell?_alloc_lt ((w.alloc o0).alloc o1) o2 ⟨b, 5, none⟩ (by simp; omega)).trans ((World.cell?_alloc_lt (w.alloc o0) o1 ⟨b, 5, none⟩ (by simp; omega)).trans ((World.cell?_alloc_lt w o0 ⟨b, 5, none⟩ hb).trans c5))
  have k6 := fun o0 o1 o2 => (World.cell?_alloc_lt ((w.alloc o0).alloc o1) o2 ⟨b, 6, none⟩ (by simp; omega)).trans ((World.cell?_alloc_lt (w.alloc o0) o1 ⟨b, 6, none⟩ (by simp; omega)).trans ((World.cell?_alloc_lt w o0 ⟨b, 6, none⟩ hb).trans c6))
  have k7 := fun o0 o1 o2 => (World.cell?_alloc_lt ((w.alloc o0).alloc o1) o2 ⟨b, 7, none⟩ (by simp; omega)).trans ((World.cell?_alloc_lt (w.alloc o0) o1 ⟨b, 7, none⟩ (by simp; omega)).trans ((World.cell?_alloc_lt w o0 ⟨b, 7, none⟩ hb).trans c7))
  clear c0 c1 c2 c3 c4 c5 c6 c7
  have HL := Lib.hid hl
  have HA := Lib.hid hA
  have HCS := Lib.hid hcs
  clear hl hA hcs
  go_enter Tryz.func74, Tryz.ntmps74
  go_wp2_with fail
  go_quiet (fail)
  go_wp2_with fail
  clear k0 k1 k2 k3 k4 k5 k6 k7 hz hz2
  have hstart := (UM.start (w.alloc (.cells Y8 25))).drewN nq
  simp only [World.size_alloc] at hstart
  unfold maxLen at hm
  go_loopw [1, 7, 8, 9, 10, 11, 12, 13, 14] (fun v a1 a2 a3 a4 a5 a6 a7 a8 wr => ∃ (k m c' : Nat) (A' : Option Addr) (r : St) (f f1 : Nat → Int), v = .slice A' m c' ∧ Hid (m + 64 * k = n) ∧ m ≤ c' ∧ c' ≤ c ∧ Hid (64 ≤ m → A' = some ⟨g, o + 64 * k, none⟩) ∧
      Hid (r = absorb l k s) ∧ a1 = .int .u32 r.a ∧ a2 = .int .u32 r.b ∧ a3 = .int .u32 r.c ∧ a4 = .int .u32 r.d ∧ a5 = .int .u32 r.e ∧ a6 = .int .u32 r.f ∧ a7 = .int .u32 r.g ∧ a8 = .int .u32 r.h ∧
      UM (w.alloc (.cells Y8 25)) wr (w.heap.size + 1) (w.heap.size + 1 + 1) f f1) (fun v _ _ _ _ _ _ _ _ _ => match v with | .slice _ m _ => m | _ => 0)
  case atStart => exact ⟨0, n, c, A, s, _, _, rfl, by show n + 64 * 0 = n; omega, hn, Nat.le_refl _, fun h => (HA.out h).1, rfl, rfl, rfl, rfl, rfl, rfl, rfl, rfl, rfl, hstart⟩
  case round =>
    clear hstart
    obtain ⟨k, m, c', A', r, f, f1, rfl, hmk, hmc, hcc, hA', hr, rfl, rfl, rfl, rfl, rfl, rfl, rfl, rfl, hum⟩ := hrel
    by_cases hlt : 64 ≤ m
    · as_aux_lemma =>
        have hlt' : (64 : Int) ≤ (m : Int) := by omega
        obtain rfl := hA'.out hlt
        obtain ⟨_, hg, hby⟩ := HA.out (by have := hmk.out; omega)
        have HBY := Lib.hid hby
        have hGN := Lib.hid hg
        clear hA' hby
        go_wp2_with fail
        go_loopw [15] (fun i wr => ∃ (j : Nat) (f : Nat → Int), j ≤ 16 ∧ i = .int .i64 j ∧ Hid (∀ i, i < j → f i = wordAt l (64 * k) i) ∧ UM (w.alloc (.cells Y8 25)) wr (w.heap.size + 1) (w.heap.size + 1 + 1) f f1) (fun i _ => 16 - (intOf i).toNat)
        case atStart => exact ⟨0, f, by omega, rfl, fun i hi => absurd hi (by omega), hum⟩
        case round =>
          clear hum
          obtain ⟨j, f, hj, rfl, hf, hum⟩ := hrel
          by_cases hlt2 : j < 16
          · as_aux_lemma =>
              have h4 := HBY.out
              have hlm := HL.out
              have hmk' := hmk.out
              have q0 : ∀ x : Bel wr, x.w.cell? ⟨g, o + 64 * k + 4 * j, none⟩ = some (.int .u8 (l.getD (64 * k + 4 * j) 0)) := fun x => by
                rw [show o + 64 * k + 4 * j = o + (64 * k + 4 * j) by omega]
                exact (Bel.cell x (Nat.lt_of_lt_of_le hGN.out hum.below.size)).trans ((hum.below.cell (p := ⟨g, o + (64 * k + 4 * j), none⟩) hGN.out).trans (h4.cell _ (by omega)))
              have q1 : ∀ x : Bel wr, x.w.cell? ⟨g, o + 64 * k + 4 * j + 1, none⟩ = some (.int .u8 (l.getD (64 * k + 4 * j + 1) 0)) := fun x => by
                rw [show o + 64 * k + 4 * j + 1 = o + (64 * k + 4 * j + 1) by omega]
                exact (Bel.cell x (Nat.lt_of_lt_of_le hGN.out hum.below.size)).trans ((hum.below.cell (p := ⟨g, o + (64 * k + 4 * j + 1), none⟩) hGN.out).trans (h4.cell _ (by omega)))
              have q2 : ∀ x : Bel wr, x.w.cell? ⟨g, o + 64 * k + 4 * j + 2, none⟩ = some (.int .u8 (l.getD (64 * k + 4 * j + 2) 0)) := fun x => by
                rw [show o + 64 * k + 4 * j + 2 = o + (64 * k + 4 * j + 2) by omega]
                exact (Bel.cell x (Nat.lt_of_lt_of_le hGN.out hum.below.size)).trans ((hum.below.cell (p := ⟨g, o + (64 * k + 4 * j + 2), none⟩) hGN.out).trans (h4.cell _ (by omega)))
              have q3 : ∀ x : Bel wr, x.w.cell? ⟨g, o + 64 * k + 4 * j + 3, none⟩ = some (.int .u8 (l.getD (64 * k + 4 * j + 3) 0)) := fun x => by
                rw [show o + 64 * k + 4 * j + 3 = o + (64 * k + 4 * j + 3) by omega]
                exact (Bel.cell x (Nat.lt_of_lt_of_le hGN.out hum.below.size)).trans ((hum.below.cell (p := ⟨g, o + (64 * k + 4 * j + 3), none⟩) hGN.out).trans (h4.cell _ (by omega)))
              have hgx : ∀ x : Bel wr, g < x.w.heap.size := fun x => Nat.lt_of_lt_of_le hGN.out (Nat.le_trans hum.below.size x.h.size)
              have e1 : IntKind.i64.wrap (4 * (j : Int)) = 4 * (j : Int) := IntWalk.i64_in _ (by omega)
              have e2 : IntKind.i64.wrap ((j : Int) + 1) = (j : Int) + 1 := IntWalk.i64_in _ (by omega)
              have e3 : IntKind.i64.wrap (4 * ((j : Int) + 1)) = 4 * ((j : Int) + 1) := IntWalk.i64_in _ (by omega)
              have t1 : (4 * (j : Int)).toNat = 4 * j := by omega
              have t2 : (4 * ((j : Int) + 1)).toNat = 4 * (j + 1) := by omega
              have i1 : (0 : Int) ≤ 4 * (j : Int) := by omega
              have i2 : 4 * (j : Int) ≤ 4 * ((j : Int) + 1) := by omega
              have i3 : 4 * ((j : Int) + 1) ≤ (c' : Int) := by omega
              have i4 : (j : Int) < 68 := by omega
              have i5 : (0 : Int) ≤ 4 * ((j : Int) + 1) := by omega
              have i6 : ¬ c' = 4 * j := by omega
              have i7 : 4 * j ≤ 4 * (j + 1) := by omega
              have i8 : 4 * (j + 1) ≤ c' := by omega
              have i9 : (j : Int) ≤ (j : Int) + 1 := by omega
              clear h4 hlm hmk'
              go_wp2_with fail
              refine region_bel_tail 11 (by kernel_rfl) (by kernel_rfl) ?_
              simp only [List.take_succ_cons, List.take_zero, List.drop_succ_cons, List.drop_zero]
              repeat (quiet_step ((first | rfl | (go_at_call 79; exact bel_call (uint32_any g (o + 64 * k + 4 * j) _ _ _ _ _ _ _ (by omega) (byte_getD HBY.out.byte _) (byte_getD HBY.out.byte _) (byte_getD HBY.out.byte _) (byte_getD HBY.out.byte _) (hgx _) (q0 _) (q1 _) (q2 _) (q3 _))))))
              refine wpQuiet_nil ?_
              intro _ hw'
              obtain ⟨y, rfl⟩ := hw'
              clear q0 q1 q2 q3 hgx
              have hum2 := hum.bel y
              have a1 := hum2.arr.cell (j := j) (by omega)
              have z1 := hum2.arr.frozen j
              go_wp2_with fail
              go_roundw
              case rel =>
                refine ⟨j + 1, fun i => if i = j then wordAt l (64 * k) j else f i, by omega, by go_num, ?_, hum2.setw j _ (fun i _ => rfl)⟩
                intro i hi
                show (if i = j then _ else _) = _
                by_cases h : i = j
                · subst h; rw [if_pos rfl]
                · rw [if_neg h]; exact hf.out i (by omega)
              case measure => simp [intOf]; omega
          · as_aux_lemma =>
              have HJ := Lib.hid (show j = 16 by omega)
              go_wp2_with fail
              go_loopw [16] (fun i wr => ∃ (j : Nat) (f : Nat → Int), 16 ≤ j ∧ j ≤ 68 ∧ i = .int .i64 j ∧ Hid (∀ i, i < j → f i = wexp (wordAt l (64 * k)) i) ∧ UM (w.alloc (.cells Y8 25)) wr (w.heap.size + 1) (w.heap.size + 1 + 1) f f1) (fun i _ => 68 - (intOf i).toNat)
              case atStart =>
                obtain rfl := HJ.out
                exact ⟨16, f, by omega, by omega, rfl, fun i hi => by rw [wexp_low _ _ hi]; exact hf.out i hi, hum⟩
              case round =>
                clear hum hf hlt2 hj
                obtain ⟨j, f, hj0, hj, rfl, hf, hum⟩ := hrel
                by_cases hlt2 : j < 68
                · as_aux_lemma =>
                    obtain ⟨p1, e1, q1⟩ : ∃ p : Nat, IntKind.i64.wrap ((j : Int) - 16) = (p : Int) ∧ p + 16 = j := ⟨j - 16, by rw [IntWalk.i64_in _ (by omega)]; omega, by omega⟩
                    obtain ⟨p2, e2, q2⟩ : ∃ p : Nat, IntKind.i64.wrap ((j : Int) - 9) = (p : Int) ∧ p + 9 = j := ⟨j - 9, by rw [IntWalk.i64_in _ (by omega)]; omega, by omega⟩
                    obtain ⟨p3, e3, q3⟩ : ∃ p : Nat, IntKind.i64.wrap ((j : Int) - 3) = (p : Int) ∧ p + 3 = j := ⟨j - 3, by rw [IntWalk.i64_in _ (by omega)]; omega, by omega⟩
                    obtain ⟨p4, e4, q4⟩ : ∃ p : Nat, IntKind.i64.wrap ((j : Int) - 13) = (p : Int) ∧ p + 13 = j := ⟨j - 13, by rw [IntWalk.i64_in _ (by omega)]; omega, by omega⟩
                    obtain ⟨p5, e5, q5⟩ : ∃ p : Nat, IntKind.i64.wrap ((j : Int) - 6) = (p : Int) ∧ p + 6 = j := ⟨j - 6, by rw [IntWalk.i64_in _ (by omega)]; omega, by omega⟩
                    have a1 := hum.arr.cell (j := p1) (by omega)
                    have a2 := hum.arr.cell (j := p2) (by omega)
                    have a3 := hum.arr.cell (j := p3) (by omega)
                    have a4 := hum.arr.cell (j := p4) (by omega)
                    have a5 := hum.arr.cell (j := p5) (by omega)
                    have a6 := hum.arr.cell (j := j) (by omega)
                    rw [hf.out _ (by omega)] at a1 a2 a3 a4 a5
                    have hfz := hum.arr.frozen j
                    have l1 : (p1 : Int) < 68 := by omega
                    have l2 : (p2 : Int) < 68 := by omega
                    have l3 : (p3 : Int) < 68 := by omega
                    have l4 : (p4 : Int) < 68 := by omega
                    have l5 : (p5 : Int) < 68 := by omega
                    have l6 : (j : Int) < 68 := by omega
                    have Q := Lib.hid (And.intro q1 (And.intro q2 (And.intro q3 (And.intro q4 q5))))
                    clear q1 q2 q3 q4 q5
                    go_wp2_with fail
                    refine region_quiet_tail 32 (by kernel_rfl) (by kernel_rfl) ?_
                    simp only [List.take_succ_cons, List.take_zero, List.drop_succ_cons, List.drop_zero]
                    repeat (quiet_step ((first | (go_at_call 81; exact Calls.quiet_of (drew_zero (leftRotate_any _ _ _ _ (by omega)))) | (go_at_call 80; exact Calls.quiet_of (drew_zero (ip1_any _ _ _))))))
                    refine wpQuiet_nil ?_
                    intro _ hw'
                    obtain ⟨nq2, rfl⟩ := hw'
                    go_wp2_with fail
                    go_roundw
                    case rel =>
                      refine ⟨j + 1, fun i => if i = j then _ else f i, by omega, by omega, by go_num, ?_, (hum.drewN nq2).setw j _ (fun i _ => rfl)⟩
                      intro i hi
                      obtain ⟨q1, q2, q3, q4, q5⟩ := Q.out
                      show (if i = j then _ else _) = _
                      by_cases h : i = j
                      · subst h
                        rw [if_pos rfl, wexp_high _ _ hj0, show i - 16 = p1 by omega, show i - 9 = p2 by omega, show i - 3 = p3 by omega, show i - 13 = p4 by omega, show i - 6 = p5 by omega]
                      · rw [if_neg h]; exact hf.out i (by omega)
                    case measure => simp [intOf]; omega
                · as_aux_lemma =>
                    have hum3 : UM (w.alloc (.cells Y8 25)) wr (w.heap.size + 1) (w.heap.size + 1 + 1) (wexp (wordAt l (64 * k))) f1 := ⟨hum.below, hum.lw, hum.lx, hum.ne, hum.arr.congr fun i hi => hf.out i (by omega), hum.arx⟩
                    clear hum hf
                    go_wp2_with fail
                    go_loopw [17] (fun i wr => ∃ (j : Nat) (f1 : Nat → Int), j ≤ 64 ∧ i = .int .i64 j ∧ Hid (∀ i, i < j → f1 i = bits .xor .u32 (wexp (wordAt l (64 * k)) i) (wexp (wordAt l (64 * k)) (i + 4))) ∧ UM (w.alloc (.cells Y8 25)) wr (w.heap.size + 1) (w.heap.size + 1 + 1) (wexp (wordAt l (64 * k))) f1) (fun i _ => 64 - (intOf i).toNat)
                    case atStart => exact ⟨0, f1, by omega, rfl, fun i hi => absurd hi (by omega), hum3⟩
                    case round =>
                      clear hum3 hlt2 hj0 hj
                      obtain ⟨j, f1, hj, rfl, hf, hum⟩ := hrel
                      by_cases hlt2 : j < 64
                      · as_aux_lemma =>
                          have a1 := hum.arr.cell (j := j) (by omega)
                          have a2 := hum.arr.cell (j := j + 4) (by omega)
                          have a3 := hum.arx.cell (j := j) (by omega)
                          have z1 := hum.arx.frozen j
                          have l1 : (j : Int) < 68 := by omega
                          have l2 : (j : Int) + 4 < 68 := by omega
                          have l4 : (j : Int) < 64 := by omega
                          have e1 : IntKind.i64.wrap ((j : Int) + 4) = (j : Int) + 4 := IntWalk.i64_in _ (by omega)
                          have e2 : ((j : Int) + 4).toNat = j + 4 := by omega
                          have l3 : (0 : Int) ≤ (j : Int) + 4 := by omega
                          go_wp2_with fail
                          refine region_quiet_tail 10 (by kernel_rfl) (by kernel_rfl) ?_
                          simp only [List.take_succ_cons, List.take_zero, List.drop_succ_cons, List.drop_zero]
                          repeat (quiet_step (fail))
                          refine wpQuiet_nil ?_
                          intro _ hw'
                          obtain ⟨nq2, rfl⟩ := hw'
                          go_wp2_with fail
                          go_roundw
                          case rel =>
                            refine ⟨j + 1, fun i => if i = j then _ else f1 i, by omega, by go_num, ?_, (hum.drewN nq2).setx j _ (fun i _ => rfl)⟩
                            intro i hi
                            show (if i = j then _ else _) = _
                            by_cases h : i = j
                            · subst h; rw [if_pos rfl]
                            · rw [if_neg h]; exact hf.out i (by omega)
                          case measure => simp [intOf]; omega
                      · as_aux_lemma =>
                          have hum4 : UM (w.alloc (.cells Y8 25)) wr (w.heap.size + 1) (w.heap.size + 1 + 1) (wexp (wordAt l (64 * k))) (fun i => bits .xor .u32 (wexp (wordAt l (64 * k)) i) (wexp (wordAt l (64 * k)) (i + 4))) :=
                            ⟨hum.below, hum.lw, hum.lx, hum.ne, hum.arr, hum.arx.congr fun i hi => hf.out i (by omega)⟩
                          clear hum hf
                          go_wp2_with fail
                          go_loopw [18, 19, 20, 21, 22, 23, 24, 25, 26] (fun b1 b2 b3 b4 b5 b6 b7 b8 i wr => ∃ (j : Nat) (r' : St), j ≤ 16 ∧ i = .int .i64 j ∧ Hid (r' = rounds (wexp (wordAt l (64 * k))) j r) ∧
                            b1 = .int .u32 r'.a ∧ b2 = .int .u32 r'.b ∧ b3 = .int .u32 r'.c ∧ b4 = .int .u32 r'.d ∧ b5 = .int .u32 r'.e ∧ b6 = .int .u32 r'.f ∧ b7 = .int .u32 r'.g ∧ b8 = .int .u32 r'.h ∧
                            UM (w.alloc (.cells Y8 25)) wr (w.heap.size + 1) (w.heap.size + 1 + 1) (wexp (wordAt l (64 * k))) (fun i => bits .xor .u32 (wexp (wordAt l (64 * k)) i) (wexp (wordAt l (64 * k)) (i + 4)))) (fun _ _ _ _ _ _ _ _ i _ => 16 - (intOf i).toNat)
                          case atStart => exact ⟨0, r, by omega, rfl, rfl, rfl, rfl, rfl, rfl, rfl, rfl, rfl, rfl, hum4⟩
                          case round =>
                            clear hum4 hlt2 hj
                            obtain ⟨j, r', hj, rfl, hr', rfl, rfl, rfl, rfl, rfl, rfl, rfl, rfl, hum⟩ := hrel
                            by_cases hlt2 : j < 16
                            · as_aux_lemma =>
                                have a1 := hum.arr.cell (j := j) (by omega)
                                have a2 := hum.arx.cell (j := j) (by omega)
                                have l1 : (j : Int) < 68 := by omega
                                have l2 : (j : Int) < 64 := by omega
                                go_wp2_with (first | (go_at_call 81; refine (leftRotate_any _ _ _ _ (by omega)).mono ?_; rintro e w' ⟨rfl, rfl⟩) | (go_at_call 84; refine (ip0_any _ _ _).mono ?_; rintro e w' ⟨rfl, rfl⟩) | go_quiet ((first | (go_at_call 82; exact Calls.quiet_of (drew_zero (ff0_any _ _ _ _ _))) | (go_at_call 82; exact quiet_add (drew_zero (ff0_any _ _ _ _ _))) | (go_at_call 83; exact Calls.quiet_of (drew_zero (gg0_any _ _ _ _ _))) | (go_at_call 83; exact quiet_add (drew_zero (gg0_any _ _ _ _ _))))))
                                go_roundw
                                case rel =>
                                  refine ⟨j + 1, rnd (wexp (wordAt l (64 * k))) j r', by omega, by go_num, by show rnd _ _ _ = _; rw [hr'.out]; rfl, ?_, rfl, rfl, rfl, ?_, rfl, rfl, rfl, hum.drewN _⟩
                                  · rw [rnd_a_low _ _ _ hlt2]; rfl
                                  · rw [rnd_e_low _ _ _ hlt2]; rfl
                                case measure => simp [intOf]; omega
                            · as_aux_lemma =>
                                have HJ := Lib.hid (show j = 16 by omega)
                                go_wp2_with fail
                                go_loopw [18, 19, 20, 21, 22, 23, 24, 25, 31] (fun b1 b2 b3 b4 b5 b6 b7 b8 i wr => ∃ (j : Nat) (r' : St), 16 ≤ j ∧ j ≤ 64 ∧ i = .int .i64 j ∧ Hid (r' = rounds (wexp (wordAt l (64 * k))) j r) ∧
                                  b1 = .int .u32 r'.a ∧ b2 = .int .u32 r'.b ∧ b3 = .int .u32 r'.c ∧ b4 = .int .u32 r'.d ∧ b5 = .int .u32 r'.e ∧ b6 = .int .u32 r'.f ∧ b7 = .int .u32 r'.g ∧ b8 = .int .u32 r'.h ∧
                                  UM (w.alloc (.cells Y8 25)) wr (w.heap.size + 1) (w.heap.size + 1 + 1) (wexp (wordAt l (64 * k))) (fun i => bits .xor .u32 (wexp (wordAt l (64 * k)) i) (wexp (wordAt l (64 * k)) (i + 4)))) (fun _ _ _ _ _ _ _ _ i _ => 64 - (intOf i).toNat)
                                case atStart =>
                                  obtain rfl := HJ.out
                                  exact ⟨16, r', by omega, by omega, rfl, hr', rfl, rfl, rfl, rfl, rfl, rfl, rfl, rfl, hum⟩
                                case round =>
                                  clear hum hlt2 hj hr'
                                  obtain ⟨j, r', hj0, hj, rfl, hr', rfl, rfl, rfl, rfl, rfl, rfl, rfl, rfl, hum⟩ := hrel
                                  by_cases hlt2 : j < 64
                                  · as_aux_lemma =>
                                      have a1 := hum.arr.cell (j := j) (by omega)
                                      have a2 := hum.arx.cell (j := j) (by omega)
                                      have l1 : (j : Int) < 68 := by omega
                                      have l2 : (j : Int) < 64 := by omega
                                      have h16 : ¬ j < 16 := by omega
                                      go_wp2_with (first | (go_at_call 81; refine (leftRotate_any _ _ _ _ (by omega)).mono ?_; rintro e w' ⟨rfl, rfl⟩) | (go_at_call 84; refine (ip0_any _ _ _).mono ?_; rintro e w' ⟨rfl, rfl⟩) | go_quiet ((first | (go_at_call 85; exact Calls.quiet_of (drew_zero (ff1_any _ _ _ _ _))) | (go_at_call 85; exact quiet_add (drew_zero (ff1_any _ _ _ _ _))) | (go_at_call 86; exact Calls.quiet_of (drew_zero (gg1_any _ _ _ _ _))) | (go_at_call 86; exact quiet_add (drew_zero (gg1_any _ _ _ _ _))))))
                                      go_roundw
                                      case rel =>
                                        refine ⟨j + 1, rnd (wexp (wordAt l (64 * k))) j r', by omega, by omega, by go_num, by show rnd _ _ _ = _; rw [hr'.out]; rfl, ?_, rfl, rfl, rfl, ?_, rfl, rfl, rfl, hum.drewN _⟩
                                        · rw [rnd_a_high _ _ _ h16]
                                        · rw [rnd_e_high _ _ _ h16]
                                      case measure => simp [intOf]; omega
                                  · as_aux_lemma =>
                                      have HJ := Lib.hid (show j = 64 by omega)
                                      have hr6 : r' = rounds (wexp (wordAt l (64 * k))) 64 r := by rw [hr'.out, HJ.out]
                                      have HR := Lib.hid hr6
                                      clear hr6 hr'
                                      by_cases h64 : c' = 64
                                      · subst h64
                                        obtain rfl : m = 64 := by omega
                                        go_wp2_with fail
                                        go_roundw
                                        case rel =>
                                          refine ⟨k + 1, 0, 0, _, comp r (wordAt l (64 * k)), _, _, rfl, by show 0 + 64 * (k + 1) = n; have := hmk.out; omega, by omega, by omega, fun h => absurd h (by omega), by show comp _ _ = absorb l (k + 1) s; rw [hr.out]; rfl,
                                            ?_, ?_, ?_, ?_, ?_, ?_, ?_, ?_, hum⟩ <;> (rw [comp, ← HR.out]; rfl)
                                        case measure => simp
                                      · go_wp2_with fail
                                        go_roundw
                                        case rel =>
                                          refine ⟨k + 1, m - 64, c' - 64, _, comp r (wordAt l (64 * k)), _, _, rfl, by show m - 64 + 64 * (k + 1) = n; have := hmk.out; omega, by omega, by omega, fun h => by rw [show o + 64 * (k + 1) = o + 64 * k + 64 by omega], by show comp _ _ = absorb l (k + 1) s; rw [hr.out]; rfl,
                                            ?_, ?_, ?_, ?_, ?_, ?_, ?_, ?_, hum⟩ <;> (rw [comp, ← HR.out]; rfl)
                                        case measure => simp; omega
    · have hbel := hum.below
      have hres : Blk wr w.heap.size 25 Y8 := (Blk.new w 25 Y8).below hum.below (by simp)
      clear hum hA'
      have d0 := hres.cell 0
      have d1 := hres.cell 1
      have d2 := hres.cell 2
      have d3 := hres.cell 3
      have d4 := hres.cell 4
      have d5 := hres.cell 5
      have d6 := hres.cell 6
      have d7 := hres.cell 7
      simp only [Y8, List.getElem?_toArray, List.getElem?_cons_zero, List.getElem?_cons_succ] at d0 d1 d2 d3 d4 d5 d6 d7
      have z0 := hres.frozen 0
      have z1 := hres.frozen 1
      have z2 := hres.frozen 2
      have z3 := hres.frozen 3
      have z4 := hres.frozen 4
      have z5 := hres.frozen 5
      have z6 := hres.frozen 6
      have z7 := hres.frozen 7
      have hlt3 := hres.lt
      have hrk : r = absorb l (n / 64) s := by rw [hr.out, show n / 64 = k by have := hmk.out; omega]
      have HR := Lib.hid hrk
      clear hr hrk hmk
      go_wp2_with fail
      refine bodyPost_ret (v := (absorb l (n / 64) s).agg) ?_ rfl ⟨rfl, ?_⟩
      · rw [← HR.out]
        simp [results, Tryz.results74, go_sem, St.agg, d0, d1, d2, d3, d4, d5, d6, d7, hlt3]
      · have h1 : Below w.heap.size w (store8 wr w.heap.size r) := store8_below (((Below.refl _ _).alloc (Nat.le_refl _) _).trans (hbel.mono (by simp))) (Nat.le_refl _) r
        exact h1.alloc h1.size _
end Go.Proofs.YtiegapnfbeemcaaGreatDoor
