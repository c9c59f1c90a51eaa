/-
  The hash takes whole blocks. No condition.
-/
import Derived.Test.YtiegapnfbeemcaaGreatDoorA68
import Derived.BigRegion
import Derived.RegionTactic
namespace Go.Proofs.YtiegapnfbeemcaaGreatDoor
set_option maxRecDepth 100000
open Go.RowKit

theorem drew_zero {P : Program} {f : FuncId} {args : Array Value} {w : World} {v : Value} (h : Calls P f args w fun e w' => e = .returned v ∧ w = w') :
    Calls P f args w fun e w' => e = .returned v ∧ ∃ n, w' = w.drewN n :=
  h.mono fun _ _ ⟨he, hw⟩ => ⟨he, 0, hw.symm⟩

/-- The memory of an update: the two arrays of words. -/
structure UM (w wr : World) (bw bx : Nat) (f f1 : Nat → Int) : Prop where
  below : Below w.heap.size w wr
  lw : w.heap.size ≤ bw
  lx : w.heap.size ≤ bx
  ne : bw ≠ bx
  arr : ArrU wr bw 86 68 f
  arx : ArrU wr bx 125 64 f1
theorem UM.drewN {w wr : World} {bw bx : Nat} {f f1 : Nat → Int} (h : UM w wr bw bx f f1) (n : Nat) : UM w (wr.drewN n) bw bx f f1 :=
  ⟨below_drewN h.below n, h.lw, h.lx, h.ne, h.arr, h.arx⟩
theorem UM.bel {w wr : World} {bw bx : Nat} {f f1 : Nat → Int} (h : UM w wr bw bx f f1) (y : Bel wr) : UM w y.w bw bx f f1 :=
  ⟨h.below.trans (y.h.mono h.below.size), h.lw, h.lx, h.ne, h.arr.below y.h h.arr.lt, h.arx.below y.h h.arx.lt⟩
theorem UM.setw {w wr : World} {bw bx : Nat} {f f1 f' : Nat → Int} (h : UM w wr bw bx f f1) (i : Nat) (x : Int) (he : ∀ j, j < 68 → f' j = if j = i then x else f j) :
    UM w (wr.setCell ⟨bw, i, none⟩ (.int .u32 x)) bw bx f' f1 :=
  ⟨h.below.setCell h.lw _, h.lw, h.lx, h.ne, h.arr.set_ i x he, h.arx.far (fun e => h.ne e.symm) _⟩
theorem UM.setx {w wr : World} {bw bx : Nat} {f f1 f' : Nat → Int} (h : UM w wr bw bx f f1) (i : Nat) (x : Int) (he : ∀ j, j < 64 → f' j = if j = i then x else f1 j) :
    UM w (wr.setCell ⟨bx, i, none⟩ (.int .u32 x)) bw bx f f' :=
  ⟨h.below.setCell h.lx _, h.lw, h.lx, h.ne, h.arr.far h.ne _, h.arx.set_ i x he⟩

theorem UM.start (w : World) : UM w ((w.alloc (.cells Z68 86)).alloc (.cells Z64 125)) w.heap.size (w.heap.size + 1) (fun _ => 0) (fun _ => 0) := by
  refine ⟨((Below.refl _ _).alloc (Nat.le_refl _) _).alloc (by simp) _, Nat.le_refl _, by omega, by omega, ?_, ?_⟩
  · exact ⟨Z68, (Blk.new w 86 Z68).alloc _, by simp [Z68], fun j hj => by simp [Z68, hj]⟩
  · have := Blk.new (w.alloc (.cells Z68 86)) 125 Z64
    exact ⟨Z64, by simpa using this, by simp [Z64], fun j hj => by simp [Z64, hj]⟩

theorem store8_sm {w : World} {b : Nat} {s : St} {cs : Array Value} (h : Blk w b 100 (s.cells ++ cs)) (r : St) : Blk (store8 w b r) b 100 (r.cells ++ cs) := by
  have := (((((((h.set_ 0 (.int .u32 r.a)).set_ 1 (.int .u32 r.b)).set_ 2 (.int .u32 r.c)).set_ 3 (.int .u32 r.d)).set_ 4 (.int .u32 r.e)).set_ 5 (.int .u32 r.f)).set_ 6 (.int .u32 r.g)).set_ 7 (.int .u32 r.h)
  simpa [St.cells, store8, Array.setIfInBounds_append] using this
theorem grown_below {a w : World} (h : Below a.heap.size a w) (row : Option Nat) : a.grownBy w row := ⟨h.os, h.tape, h.output, h.size, fun i hi _ => h.block i hi⟩
theorem store8_size (w : World) (b : Nat) (s : St) : (store8 w b s).heap.size = w.heap.size := by simp [store8, World.setCell]
theorem store8_rest (w : World) (b : Nat) (s : St) : (store8 w b s).os = w.os ∧ (store8 w b s).tape = w.tape ∧ (store8 w b s).output = w.output := by
  simp only [store8, World.setCell, and_self]
theorem grown_store8 {a w : World} {b : Nat} (h : a.grownBy w (some b)) (s : St) : a.grownBy (store8 w b s) (some b) := by
  obtain ⟨h1, h2, h3⟩ := store8_rest w b s
  refine ⟨h1.trans h.os, h2.trans h.tape, h3.trans h.output, by rw [store8_size]; exact h.size, fun i hi hne => ?_⟩
  have hib : i ≠ b := fun e => hne (congrArg some e)
  exact (store8_other s hib).trans (h.block i hi hne)
theorem grown_drew {a w : World} {row : Option Nat} (h : a.grownBy w row) (n : Nat) : a.grownBy (w.drewN n) row := ⟨h.os, h.tape, h.output, h.size, h.block⟩

/-- Behind an update: block b, an SM3, holds the state r; what was there but it is as it was. -/
def UpPost (w : World) (b : Nat) (r : St) (cs : Array Value) (e : Ending) (w' : World) : Prop := e = .returned (.tuple #[]) ∧ Blk w' b 100 (r.cells ++ cs) ∧ w.grownBy w' (some b)

/-- The address behind the cut 's[64:]': as it was where nothing is left. -/
def cutA (g o c : Nat) : Option Addr := if c = 64 then some ⟨g, o, none⟩ else some ⟨g, o + 64, none⟩

set_option maxRecDepth 100000 in
set_option maxHeartbeats 4000000 in
theorem update_any (s : St) (b : Nat) (A : Option Addr) (g o n c : Nat) (l : List Int) (w : World) (hn : n ≤ c) (hm : c ≤ maxLen) (hl : l.length = n)
    (hA : 64 ≤ n → A = some ⟨g, o, none⟩ ∧ g < w.heap.size ∧ Bytes w g o l) (hb : b < w.heap.size) (cs : Array Value) (hbl : Blk w b 100 (s.cells ++ cs)) (hcs : cs.size = 2) :
    Calls Tryz.prog 63 #[.pointer (some ⟨b, 0, none⟩), .slice A n c] w (UpPost w b (absorb l (n / 64) s) cs) := by
  have c0 := hbl.cell 0
  have c1 := hbl.cell 1
  have c2 := hbl.cell 2
  have c3 := hbl.cell 3
  have c4 := hbl.cell 4
  have c5 := hbl.cell 5
  have c6 := hbl.cell 6
  have c7 := hbl.cell 7
  simp [St.cells, Array.getElem?_append] at c0 c1 c2 c3 c4 c5 c6 c7
  have hz := zero56
  have hz2 := zero65
  have k0 := fun o1 o2 => (World.cell?_alloc_lt (w.alloc o1) o2 ⟨b, 0, none⟩ (by simp; omega)).trans ((World.cell?_alloc_lt w o1 ⟨b, 0, none⟩ hb).trans c0)
  have k1 := fun o1 o2 => (World.cell?_alloc_lt (w.alloc o1) o2 ⟨b, 1, none⟩ (by simp; omega)).trans ((World.cell?_alloc_lt w o1 ⟨b, 1, none⟩ hb).trans c1)
  have k2 := fun o1 o2 => (World.cell?_alloc_lt (w.alloc o1) o2 ⟨b, 2, none⟩ (by simp; omega)).trans ((World.cell?_alloc_lt w o1 ⟨b, 2, none⟩ hb).trans c2)
  have k3 := fun o1 o2 => (World.cell?_alloc_lt (w.alloc o1) o2 ⟨b, 3, none⟩ (by simp; omega)).trans ((World.cell?_alloc_lt w o1 ⟨b, 3, none⟩ hb).trans c3)
  have k4 := fun o1 o2 => (World.cell?_alloc_lt (w.alloc o1) o2 ⟨b, 4, none⟩ (by simp; omega)).trans ((World.cell?_alloc_lt w o1 ⟨b, 4, none⟩ hb).trans c4)
  have k5 := fun o1 o2 => (World.cell?_alloc_lt (w.alloc o1) o2 ⟨b, 5, none⟩ (by simp; omega)).trans ((World.cell?_alloc_lt w o1 ⟨b, 5, none⟩ hb).trans c5)
  have k6 := fun o1 o2 => (World.cell?_alloc_lt (w.alloc o1) o2 ⟨b, 6, none⟩ (by simp; omega)).trans ((World.cell?_alloc_lt w o1 ⟨b, 6, none⟩ hb).trans c6)
  have k7 := fun o1 o2 => (World.cell?_alloc_lt (w.alloc o1) o2 ⟨b, 7, none⟩ (by simp; omega)).trans ((World.cell?_alloc_lt w o1 ⟨b, 7, none⟩ hb).trans c7)
  clear c0 c1 c2 c3 c4 c5 c6 c7
  have HL := Lib.hid hl
  have HA := Lib.hid hA
  have HCS := Lib.hid hcs
  clear hl hA hcs
  go_enter Tryz.func63, Tryz.ntmps63
  go_wp2_with fail
  go_quiet (fail)
  go_wp2_with fail
  clear k0 k1 k2 k3 k4 k5 k6 k7 hz hz2
  have hstart := (UM.start w).drewN nq
  unfold maxLen at hm
  go_loopw [1, 6, 7, 8, 9, 10, 11, 12, 13] (fun v a1 a2 a3 a4 a5 a6 a7 a8 wr => ∃ (k m c' : Nat) (A' : Option Addr) (r : St) (f f1 : Nat → Int), v = .slice A' m c' ∧ Hid (m + 64 * k = n) ∧ m ≤ c' ∧ c' ≤ c ∧ Hid (64 ≤ m → A' = some ⟨g, o + 64 * k, none⟩) ∧
      Hid (r = absorb l k s) ∧ a1 = .int .u32 r.a ∧ a2 = .int .u32 r.b ∧ a3 = .int .u32 r.c ∧ a4 = .int .u32 r.d ∧ a5 = .int .u32 r.e ∧ a6 = .int .u32 r.f ∧ a7 = .int .u32 r.g ∧ a8 = .int .u32 r.h ∧
      UM w wr w.heap.size (w.heap.size + 1) f f1) (fun v _ _ _ _ _ _ _ _ _ => match v with | .slice _ m _ => m | _ => 0)
  case atStart => exact ⟨0, n, c, A, s, _, _, rfl, by show n + 64 * 0 = n; omega, hn, Nat.le_refl _, fun h => (HA.out h).1, rfl, rfl, rfl, rfl, rfl, rfl, rfl, rfl, rfl, hstart⟩
  case round =>
    clear hstart
    obtain ⟨k, m, c', A', r, f, f1, rfl, hmk, hmc, hcc, hA', hr, rfl, rfl, rfl, rfl, rfl, rfl, rfl, rfl, hum⟩ := hrel
    by_cases hlt : 64 ≤ m
    · as_aux_lemma =>
        have hlt' : (64 : Int) ≤ (m : Int) := by omega
        obtain rfl := hA'.out hlt
        obtain ⟨_, hg, hby⟩ := HA.out (by have := hmk.out; omega)
        have HBY := Lib.hid hby
        have hGN := Lib.hid hg
        clear hA' hby
        go_wp2_with fail
        go_loopw [14] (fun i wr => ∃ (j : Nat) (f : Nat → Int), j ≤ 16 ∧ i = .int .i64 j ∧ Hid (∀ i, i < j → f i = wordAt l (64 * k) i) ∧ UM w wr w.heap.size (w.heap.size + 1) f f1) (fun i _ => 16 - (intOf i).toNat)
        case atStart => exact ⟨0, f, by omega, rfl, fun i hi => absurd hi (by omega), hum⟩
        case round =>
          clear hum
          obtain ⟨j, f, hj, rfl, hf, hum⟩ := hrel
          by_cases hlt2 : j < 16
          · as_aux_lemma =>
              have h4 := HBY.out
              have hlm := HL.out
              have hmk' := hmk.out
              have q0 : ∀ x : Bel wr, x.w.cell? ⟨g, o + 64 * k + 4 * j, none⟩ = some (.int .u8 (l.getD (64 * k + 4 * j) 0)) := fun x => by
                rw [show o + 64 * k + 4 * j = o + (64 * k + 4 * j) by omega]
                exact (Bel.cell x (Nat.lt_of_lt_of_le hGN.out hum.below.size)).trans ((hum.below.cell (p := ⟨g, o + (64 * k + 4 * j), none⟩) hGN.out).trans (h4.cell _ (by omega)))
              have q1 : ∀ x : Bel wr, x.w.cell? ⟨g, o + 64 * k + 4 * j + 1, none⟩ = some (.int .u8 (l.getD (64 * k + 4 * j + 1) 0)) := fun x => by
                rw [show o + 64 * k + 4 * j + 1 = o + (64 * k + 4 * j + 1) by omega]
                exact (Bel.cell x (Nat.lt_of_lt_of_le hGN.out hum.below.size)).trans ((hum.below.cell (p := ⟨g, o + (64 * k + 4 * j + 1), none⟩) hGN.out).trans (h4.cell _ (by omega)))
              have q2 : ∀ x : Bel wr, x.w.cell? ⟨g, o + 64 * k + 4 * j + 2, none⟩ = some (.int .u8 (l.getD (64 * k + 4 * j + 2) 0)) := fun x => by
                rw [show o + 64 * k + 4 * j + 2 = o + (64 * k + 4 * j + 2) by omega]
                exact (Bel.cell x (Nat.lt_of_lt_of_le hGN.out hum.below.size)).trans ((hum.below.cell (p := ⟨g, o + (64 * k + 4 * j + 2), none⟩) hGN.out).trans (h4.cell _ (by omega)))
              have q3 : ∀ x : Bel wr, x.w.cell? ⟨g, o + 64 * k + 4 * j + 3, none⟩ = some (.int .u8 (l.getD (64 * k + 4 * j + 3) 0)) := fun x => by
                rw [show o + 64 * k + 4 * j + 3 = o + (64 * k + 4 * j + 3) by omega]
                exact (Bel.cell x (Nat.lt_of_lt_of_le hGN.out hum.below.size)).trans ((hum.below.cell (p := ⟨g, o + (64 * k + 4 * j + 3), none⟩) hGN.out).trans (h4.cell _ (by omega)))
              have hgx : ∀ x : Bel wr, g < x.w.heap.size := fun x => Nat.lt_of_lt_of_le hGN.out (Nat.le_trans hum.below.size x.h.size)
              have e1 : IntKind.i64.wrap (4 * (j : Int)) = 4 * (j : Int) := IntWalk.i64_in _ (by omega)
              have e2 : IntKind.i64.wrap ((j : Int) + 1) = (j : Int) + 1 := IntWalk.i64_in _ (by omega)
              have e3 : IntKind.i64.wrap (4 * ((j : Int) + 1)) = 4 * ((j : Int) + 1) := IntWalk.i64_in _ (by omega)
              have t1 : (4 * (j : Int)).toNat = 4 * j := by omega
              have t2 : (4 * ((j : Int) + 1)).toNat = 4 * (j + 1) := by omega
              have i1 : (0 : Int) ≤ 4 * (j : Int) := by omega
              have i2 : 4 * (j : Int) ≤ 4 * ((j : Int) + 1) := by omega
              have i3 : 4 * ((j : Int) + 1) ≤ (c' : Int) := by omega
              have i4 : (j : Int) < 68 := by omega
              have i5 : (0 : Int) ≤ 4 * ((j : Int) + 1) := by omega
              have i6 : ¬ c' = 4 * j := by omega
              have i7 : 4 * j ≤ 4 * (j + 1) := by omega
              have i8 : 4 * (j + 1) ≤ c' := by omega
              have i9 : (j : Int) ≤ (j : Int) + 1 := by omega
              clear h4 hlm hmk'
              go_wp2_with fail
              refine region_bel_tail 11 (by kernel_rfl) (by kernel_rfl) ?_
              simp only [List.take_succ_cons, List.take_zero, List.drop_succ_cons, List.drop_zero]
              repeat (quiet_step ((first | rfl | (go_at_call 79; exact bel_call (uint32_any g (o + 64 * k + 4 * j) _ _ _ _ _ _ _ (by omega) (byte_getD HBY.out.byte _) (byte_getD HBY.out.byte _) (byte_getD HBY.out.byte _) (byte_getD HBY.out.byte _) (hgx _) (q0 _) (q1 _) (q2 _) (q3 _))))))
              refine wpQuiet_nil ?_
              intro _ hw'
              obtain ⟨y, rfl⟩ := hw'
              clear q0 q1 q2 q3 hgx
              have hum2 := hum.bel y
              have a1 := hum2.arr.cell (j := j) (by omega)
              have z1 := hum2.arr.frozen j
              go_wp2_with fail
              go_roundw
              case rel =>
                refine ⟨j + 1, fun i => if i = j then wordAt l (64 * k) j else f i, by omega, by go_num, ?_, hum2.setw j _ (fun i _ => rfl)⟩
                intro i hi
                show (if i = j then _ else _) = _
                by_cases h : i = j
                · subst h; rw [if_pos rfl]
                · rw [if_neg h]; exact hf.out i (by omega)
              case measure => simp [intOf]; omega
          · as_aux_lemma =>
              have HJ := Lib.hid (show j = 16 by omega)
              go_wp2_with fail
              go_loopw [15] (fun i wr => ∃ (j : Nat) (f : Nat → Int), 16 ≤ j ∧ j ≤ 68 ∧ i = .int .i64 j ∧ Hid (∀ i, i < j → f i = wexp (wordAt l (64 * k)) i) ∧ UM w wr w.heap.size (w.heap.size + 1) f f1) (fun i _ => 68 - (intOf i).toNat)
              case atStart =>
                obtain rfl := HJ.out
                exact ⟨16, f, by omega, by omega, rfl, fun i hi => by rw [wexp_low _ _ hi]; exact hf.out i hi, hum⟩
              case round =>
                clear hum hf hlt2 hj
                obtain ⟨j, f, hj0, hj, rfl, hf, hum⟩ := hrel
                by_cases hlt2 : j < 68
                · as_aux_lemma =>
                    obtain ⟨p1, e1, q1⟩ : ∃ p : Nat, IntKind.i64.wrap ((j : Int) - 16) = (p : Int) ∧ p + 16 = j := ⟨j - 16, by rw [IntWalk.i64_in _ (by omega)]; omega, by omega⟩
                    obtain ⟨p2, e2, q2⟩ : ∃ p : Nat, IntKind.i64.wrap ((j : Int) - 9) = (p : Int) ∧ p + 9 = j := ⟨j - 9, by rw [IntWalk.i64_in _ (by omega)]; omega, by omega⟩
                    obtain ⟨p3, e3, q3⟩ : ∃ p : Nat, IntKind.i64.wrap ((j : Int) - 3) = (p : Int) ∧ p + 3 = j := ⟨j - 3, by rw [IntWalk.i64_in _ (by omega)]; omega, by omega⟩
                    obtain ⟨p4, e4, q4⟩ : ∃ p : Nat, IntKind.i64.wrap ((j : Int) - 13) = (p : Int) ∧ p + 13 = j := ⟨j - 13, by rw [IntWalk.i64_in _ (by omega)]; omega, by omega⟩
                    obtain ⟨p5, e5, q5⟩ : ∃ p : Nat, IntKind.i64.wrap ((j : Int) - 6) = (p : Int) ∧ p + 6 = j := ⟨j - 6, by rw [IntWalk.i64_in _ (by omega)]; omega, by omega⟩
                    have a1 := hum.arr.cell (j := p1) (by omega)
                    have a2 := hum.arr.cell (j := p2) (by omega)
                    have a3 := hum.arr.cell (j := p3) (by omega)
                    have a4 := hum.arr.cell (j := p4) (by omega)
                    have a5 := hum.arr.cell (j := p5) (by omega)
                    have a6 := hum.arr.cell (j := j) (by omega)
                    rw [hf.out _ (by omega)] at a1 a2 a3 a4 a5
                    have hfz := hum.arr.frozen j
                    have l1 : (p1 : Int) < 68 := by omega
                    have l2 : (p2 : Int) < 68 := by omega
                    have l3 : (p3 : Int) < 68 := by omega
                    have l4 : (p4 : Int) < 68 := by omega
                    have l5 : (p5 : Int) < 68 := by omega
                    have l6 : (j : Int) < 68 := by omega
                    have Q := Lib.hid (And.intro q1 (And.intro q2 (And.intro q3 (And.intro q4 q5))))
                    clear q1 q2 q3 q4 q5
                    go_wp2_with fail
                    refine region_quiet_tail 32 (by kernel_rfl) (by kernel_rfl) ?_
                    simp only [List.take_succ_cons, List.take_zero, List.drop_succ_cons, List.drop_zero]
                    repeat (quiet_step ((first | (go_at_call 81; exact Calls.quiet_of (drew_zero (leftRotate_any _ _ _ _ (by omega)))) | (go_at_call 80; exact Calls.quiet_of (drew_zero (ip1_any _ _ _))))))
                    refine wpQuiet_nil ?_
                    intro _ hw'
                    obtain ⟨nq2, rfl⟩ := hw'
                    go_wp2_with fail
                    go_roundw
                    case rel =>
                      refine ⟨j + 1, fun i => if i = j then _ else f i, by omega, by omega, by go_num, ?_, (hum.drewN nq2).setw j _ (fun i _ => rfl)⟩
                      intro i hi
                      obtain ⟨q1, q2, q3, q4, q5⟩ := Q.out
                      show (if i = j then _ else _) = _
                      by_cases h : i = j
                      · subst h
                        rw [if_pos rfl, wexp_high _ _ hj0, show i - 16 = p1 by omega, show i - 9 = p2 by omega, show i - 3 = p3 by omega, show i - 13 = p4 by omega, show i - 6 = p5 by omega]
                      · rw [if_neg h]; exact hf.out i (by omega)
                    case measure => simp [intOf]; omega
                · as_aux_lemma =>
                    have hum3 : UM w wr w.heap.size (w.heap.size + 1) (wexp (wordAt l (64 * k))) f1 := ⟨hum.below, hum.lw, hum.lx, hum.ne, hum.arr.congr fun i hi => hf.out i (by omega), hum.arx⟩
                    clear hum hf
                    go_wp2_with fail
                    go_loopw [16] (fun i wr => ∃ (j : Nat) (f1 : Nat → Int), j ≤ 64 ∧ i = .int .i64 j ∧ Hid (∀ i, i < j → f1 i = bits .xor .u32 (wexp (wordAt l (64 * k)) i) (wexp (wordAt l (64 * k)) (i + 4))) ∧ UM w wr w.heap.size (w.heap.size + 1) (wexp (wordAt l (64 * k))) f1) (fun i _ => 64 - (intOf i).toNat)
                    case atStart => exact ⟨0, f1, by omega, rfl, fun i hi => absurd hi (by omega), hum3⟩
                    case round =>
                      clear hum3 hlt2 hj0 hj
                      obtain ⟨j, f1, hj, rfl, hf, hum⟩ := hrel
                      by_cases hlt2 : j < 64
                      · as_aux_lemma =>
                          have a1 := hum.arr.cell (j := j) (by omega)
                          have a2 := hum.arr.cell (j := j + 4) (by omega)
                          have a3 := hum.arx.cell (j := j) (by omega)
                          have z1 := hum.arx.frozen j
                          have l1 : (j : Int) < 68 := by omega
                          have l2 : (j : Int) + 4 < 68 := by omega
                          have l4 : (j : Int) < 64 := by omega
                          have e1 : IntKind.i64.wrap ((j : Int) + 4) = (j : Int) + 4 := IntWalk.i64_in _ (by omega)
                          have e2 : ((j : Int) + 4).toNat = j + 4 := by omega
                          have l3 : (0 : Int) ≤ (j : Int) + 4 := by omega
                          go_wp2_with fail
                          refine region_quiet_tail 10 (by kernel_rfl) (by kernel_rfl) ?_
                          simp only [List.take_succ_cons, List.take_zero, List.drop_succ_cons, List.drop_zero]
                          repeat (quiet_step (fail))
                          refine wpQuiet_nil ?_
                          intro _ hw'
                          obtain ⟨nq2, rfl⟩ := hw'
                          go_wp2_with fail
                          go_roundw
                          case rel =>
                            refine ⟨j + 1, fun i => if i = j then _ else f1 i, by omega, by go_num, ?_, (hum.drewN nq2).setx j _ (fun i _ => rfl)⟩
                            intro i hi
                            show (if i = j then _ else _) = _
                            by_cases h : i = j
                            · subst h; rw [if_pos rfl]
                            · rw [if_neg h]; exact hf.out i (by omega)
                          case measure => simp [intOf]; omega
                      · as_aux_lemma =>
                          have hum4 : UM w wr w.heap.size (w.heap.size + 1) (wexp (wordAt l (64 * k))) (fun i => bits .xor .u32 (wexp (wordAt l (64 * k)) i) (wexp (wordAt l (64 * k)) (i + 4))) :=
                            ⟨hum.below, hum.lw, hum.lx, hum.ne, hum.arr, hum.arx.congr fun i hi => hf.out i (by omega)⟩
                          clear hum hf
                          go_wp2_with fail
                          go_loopw [17, 18, 19, 20, 21, 22, 23, 24, 25] (fun b1 b2 b3 b4 b5 b6 b7 b8 i wr => ∃ (j : Nat) (r' : St), j ≤ 16 ∧ i = .int .i64 j ∧ Hid (r' = rounds (wexp (wordAt l (64 * k))) j r) ∧
                            b1 = .int .u32 r'.a ∧ b2 = .int .u32 r'.b ∧ b3 = .int .u32 r'.c ∧ b4 = .int .u32 r'.d ∧ b5 = .int .u32 r'.e ∧ b6 = .int .u32 r'.f ∧ b7 = .int .u32 r'.g ∧ b8 = .int .u32 r'.h ∧
                            UM w wr w.heap.size (w.heap.size + 1) (wexp (wordAt l (64 * k))) (fun i => bits .xor .u32 (wexp (wordAt l (64 * k)) i) (wexp (wordAt l (64 * k)) (i + 4)))) (fun _ _ _ _ _ _ _ _ i _ => 16 - (intOf i).toNat)
                          case atStart => exact ⟨0, r, by omega, rfl, rfl, rfl, rfl, rfl, rfl, rfl, rfl, rfl, rfl, hum4⟩
                          case round =>
                            clear hum4 hlt2 hj
                            obtain ⟨j, r', hj, rfl, hr', rfl, rfl, rfl, rfl, rfl, rfl, rfl, rfl, hum⟩ := hrel
                            by_cases hlt2 : j < 16
                            · as_aux_lemma =>
                                have a1 := hum.arr.cell (j := j) (by omega)
                                have a2 := hum.arx.cell (j := j) (by omega)
                                have l1 : (j : Int) < 68 := by omega
                                have l2 : (j : Int) < 64 := by omega
                                go_wp2_with (first | (go_at_call 81; refine (leftRotate_any _ _ _ _ (by omega)).mono ?_; rintro e w' ⟨rfl, rfl⟩) | (go_at_call 84; refine (ip0_any _ _ _).mono ?_; rintro e w' ⟨rfl, rfl⟩) | go_quiet ((first | (go_at_call 82; exact Calls.quiet_of (drew_zero (ff0_any _ _ _ _ _))) | (go_at_call 82; exact quiet_add (drew_zero (ff0_any _ _ _ _ _))) | (go_at_call 83; exact Calls.quiet_of (drew_zero (gg0_any _ _ _ _ _))) | (go_at_call 83; exact quiet_add (drew_zero (gg0_any _ _ _ _ _))))))
                                go_roundw
                                case rel =>
                                  refine ⟨j + 1, rnd (wexp (wordAt l (64 * k))) j r', by omega, by go_num, by show rnd _ _ _ = _; rw [hr'.out]; rfl, ?_, rfl, rfl, rfl, ?_, rfl, rfl, rfl, hum.drewN _⟩
                                  · rw [rnd_a_low _ _ _ hlt2]; rfl
                                  · rw [rnd_e_low _ _ _ hlt2]; rfl
                                case measure => simp [intOf]; omega
                            · as_aux_lemma =>
                                have HJ := Lib.hid (show j = 16 by omega)
                                go_wp2_with fail
                                go_loopw [17, 18, 19, 20, 21, 22, 23, 24, 30] (fun b1 b2 b3 b4 b5 b6 b7 b8 i wr => ∃ (j : Nat) (r' : St), 16 ≤ j ∧ j ≤ 64 ∧ i = .int .i64 j ∧ Hid (r' = rounds (wexp (wordAt l (64 * k))) j r) ∧
                                  b1 = .int .u32 r'.a ∧ b2 = .int .u32 r'.b ∧ b3 = .int .u32 r'.c ∧ b4 = .int .u32 r'.d ∧ b5 = .int .u32 r'.e ∧ b6 = .int .u32 r'.f ∧ b7 = .int .u32 r'.g ∧ b8 = .int .u32 r'.h ∧
                                  UM w wr w.heap.size (w.heap.size + 1) (wexp (wordAt l (64 * k))) (fun i => bits .xor .u32 (wexp (wordAt l (64 * k)) i) (wexp (wordAt l (64 * k)) (i + 4)))) (fun _ _ _ _ _ _ _ _ i _ => 64 - (intOf i).toNat)
                                case atStart =>
                                  obtain rfl := HJ.out
                                  exact ⟨16, r', by omega, by omega, rfl, hr', rfl, rfl, rfl, rfl, rfl, rfl, rfl, rfl, hum⟩
                                case round =>
                                  clear hum hlt2 hj hr'
                                  obtain ⟨j, r', hj0, hj, rfl, hr', rfl, rfl, rfl, rfl, rfl, rfl, rfl, rfl, hum⟩ := hrel
                                  by_cases hlt2 : j < 64
                                  · as_aux_lemma =>
                                      have a1 := hum.arr.cell (j := j) (by omega)
                                      have a2 := hum.arx.cell (j := j) (by omega)
                                      have l1 : (j : Int) < 68 := by omega
                                      have l2 : (j : Int) < 64 := by omega
                                      have h16 : ¬ j < 16 := by omega
                                      go_wp2_with (first | (go_at_call 81; refine (leftRotate_any _ _ _ _ (by omega)).mono ?_; rintro e w' ⟨rfl, rfl⟩) | (go_at_call 84; refine (ip0_any _ _ _).mono ?_; rintro e w' ⟨rfl, rfl⟩) | go_quiet ((first | (go_at_call 85; exact Calls.quiet_of (drew_zero (ff1_any _ _ _ _ _))) | (go_at_call 85; exact quiet_add (drew_zero (ff1_any _ _ _ _ _))) | (go_at_call 86; exact Calls.quiet_of (drew_zero (gg1_any _ _ _ _ _))) | (go_at_call 86; exact quiet_add (drew_zero (gg1_any _ _ _ _ _))))))
                                      go_roundw
                                      case rel =>
                                        refine ⟨j + 1, rnd (wexp (wordAt l (64 * k))) j r', by omega, by omega, by go_num, by show rnd _ _ _ = _; rw [hr'.out]; rfl, ?_, rfl, rfl, rfl, ?_, rfl, rfl, rfl, hum.drewN _⟩
                                        · rw [rnd_a_high _ _ _ h16]
                                        · rw [rnd_e_high _ _ _ h16]
                                      case measure => simp [intOf]; omega
                                  · as_aux_lemma =>
                                      have HJ := Lib.hid (show j = 64 by omega)
                                      have hr6 : r' = rounds (wexp (wordAt l (64 * k))) 64 r := by rw [hr'.out, HJ.out]
                                      have HR := Lib.hid hr6
                                      clear hr6 hr'
                                      by_cases h64 : c' = 64
                                      · subst h64
                                        obtain rfl : m = 64 := by omega
                                        go_wp2_with fail
                                        go_roundw
                                        case rel =>
                                          refine ⟨k + 1, 0, 0, _, comp r (wordAt l (64 * k)), _, _, rfl, by show 0 + 64 * (k + 1) = n; have := hmk.out; omega, by omega, by omega, fun h => absurd h (by omega), by show comp _ _ = absorb l (k + 1) s; rw [hr.out]; rfl,
                                            ?_, ?_, ?_, ?_, ?_, ?_, ?_, ?_, hum⟩ <;> (rw [comp, ← HR.out]; rfl)
                                        case measure => simp
                                      · go_wp2_with fail
                                        go_roundw
                                        case rel =>
                                          refine ⟨k + 1, m - 64, c' - 64, _, comp r (wordAt l (64 * k)), _, _, rfl, by show m - 64 + 64 * (k + 1) = n; have := hmk.out; omega, by omega, by omega, fun h => by rw [show o + 64 * (k + 1) = o + 64 * k + 64 by omega], by show comp _ _ = absorb l (k + 1) s; rw [hr.out]; rfl,
                                            ?_, ?_, ?_, ?_, ?_, ?_, ?_, ?_, hum⟩ <;> (rw [comp, ← HR.out]; rfl)
                                        case measure => simp; omega
    · have hblr : Blk wr b 100 (s.cells ++ cs) := hbl.below hum.below hb
      have hbel := hum.below
      clear hum hA'
      have d0 := hblr.cell 0
      have d1 := hblr.cell 1
      have d2 := hblr.cell 2
      have d3 := hblr.cell 3
      have d4 := hblr.cell 4
      have d5 := hblr.cell 5
      have d6 := hblr.cell 6
      have d7 := hblr.cell 7
      simp [St.cells, Array.getElem?_append] at d0 d1 d2 d3 d4 d5 d6 d7
      have z0 := hblr.frozen 0
      have z1 := hblr.frozen 1
      have z2 := hblr.frozen 2
      have z3 := hblr.frozen 3
      have z4 := hblr.frozen 4
      have z5 := hblr.frozen 5
      have z6 := hblr.frozen 6
      have z7 := hblr.frozen 7
      have hrk : r = absorb l (n / 64) s := by rw [hr.out, show n / 64 = k by have := hmk.out; omega]
      have HR := Lib.hid hrk
      clear hr hrk hmk
      go_wp2_with fail
      go_region
      all_goals go_end0
      all_goals (show UpPost w b _ cs _ (store8 wr b r).drew; rw [← HR.out]; exact ⟨rfl, (store8_sm hblr r).drew, grown_drew (grown_store8 (grown_below hbel _) r) 1⟩)
end Go.Proofs.YtiegapnfbeemcaaGreatDoor
