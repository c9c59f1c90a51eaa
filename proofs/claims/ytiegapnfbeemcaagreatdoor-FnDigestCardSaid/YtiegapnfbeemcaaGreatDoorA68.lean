/-
  The reference's hash. No condition.
-/
import Derived.Test.YtiegapnfbeemcaaGreatDoorA63
import Derived.Test.YtiegapnfbeemcaaGreatDoorA67
import Derived.Test.YtiegapnfbeemcaaGreatDoorA65
import Derived.Test.YtiegapnfbeemcaaGreatDoorA05
namespace Go.Proofs.YtiegapnfbeemcaaGreatDoor
set_option maxRecDepth 100000
open Go.RowKit

/-- Eight words are stored, one behind the other. -/
def store8 (w : World) (g : Nat) (s : St) : World :=
  (((((((w.setCell ⟨g, 0, none⟩ (.int .u32 s.a)).setCell ⟨g, 1, none⟩ (.int .u32 s.b)).setCell ⟨g, 2, none⟩ (.int .u32 s.c)).setCell ⟨g, 3, none⟩ (.int .u32 s.d)).setCell ⟨g, 4, none⟩ (.int .u32 s.e)).setCell ⟨g, 5, none⟩ (.int .u32 s.f)).setCell ⟨g, 6, none⟩ (.int .u32 s.g)).setCell ⟨g, 7, none⟩ (.int .u32 s.h)
theorem store8_blk {w : World} {g : Nat} {s : St} (h : Blk w g 25 s.cells) (r : St) : Blk (store8 w g r) g 25 r.cells := by
  have := (((((((h.set_ 0 (.int .u32 r.a)).set_ 1 (.int .u32 r.b)).set_ 2 (.int .u32 r.c)).set_ 3 (.int .u32 r.d)).set_ 4 (.int .u32 r.e)).set_ 5 (.int .u32 r.f)).set_ 6 (.int .u32 r.g)).set_ 7 (.int .u32 r.h)
  simpa [St.cells, store8] using this
theorem store8_other {w : World} {g k : Nat} (s : St) (h : k ≠ g) : (store8 w g s).heap[k]? = w.heap[k]? := by
  unfold store8
  rw [Below.heap_setCell _ _ _ _ h, Below.heap_setCell _ _ _ _ h, Below.heap_setCell _ _ _ _ h, Below.heap_setCell _ _ _ _ h, Below.heap_setCell _ _ _ _ h, Below.heap_setCell _ _ _ _ h, Below.heap_setCell _ _ _ _ h, Below.heap_setCell _ _ _ _ h]
theorem store8_below {w w' : World} {B g : Nat} (h : Below B w w') (hg : B ≤ g) (s : St) : Below B w (store8 w' g s) :=
  (((((((h.setCell hg _).setCell hg _).setCell hg _).setCell hg _).setCell hg _).setCell hg _).setCell hg _).setCell hg _
theorem OwnB.keep {w w' : World} {base g n c : Nat} {l : List Int} (h : OwnB w base (.slice (some ⟨g, 0, none⟩) n c) l) (hk : w'.heap[g]? = w.heap[g]?) : OwnB w' base (.slice (some ⟨g, 0, none⟩) n c) l := by
  refine ⟨h.1, ?_⟩
  rcases h.2 with ⟨e, _⟩ | ⟨g', cap, cur, e, hb, hh, h3⟩
  · cases e
  · refine .inr ⟨g', cap, cur, e, hb, ?_, h3⟩
    have e1 : g = g' := by injection e with e1 _ _; injection e1 with e1; injection e1
    rw [← e1] at hh ⊢
    rw [hk]; exact hh

def St.get (s : St) : Nat → Int
  | 0 => s.a
  | 1 => s.b
  | 2 => s.c
  | 3 => s.d
  | 4 => s.e
  | 5 => s.f
  | 6 => s.g
  | _ => s.h
theorem St.get_u32 {s : St} (h : s.U) (k : Nat) : U32 (s.get k) := by
  obtain ⟨h0, h1, h2, h3, h4, h5, h6, h7⟩ := h
  match k with
  | 0 => exact h0
  | 1 => exact h1
  | 2 => exact h2
  | 3 => exact h3
  | 4 => exact h4
  | 5 => exact h5
  | 6 => exact h6
  | _ + 7 => exact h7
def outPre (s : St) : Nat → List Int
  | 0 => []
  | k + 1 => outPre s k ++ bo (s.get k)
theorem outPre_length (s : St) (k : Nat) : (outPre s k).length = 4 * k := by
  induction k with
  | zero => rfl
  | succ k ih => rw [outPre, List.length_append, ih, bo_length]; omega
theorem outPre_all (s : St) : outPre s 8 = outBytes s := rfl
theorem index8 (s : St) (k : Nat) (hk : k < 8) (w : World) :
    (Instr.index 25 (.agg #[.int .u32 s.a, .int .u32 s.b, .int .u32 s.c, .int .u32 s.d, .int .u32 s.e, .int .u32 s.f, .int .u32 s.g, .int .u32 s.h]) (.int .i64 (k : Int))).run Tryz.prog w = .ok (.int .u32 (s.get k)) w := by
  have h : k = 0 ∨ k = 1 ∨ k = 2 ∨ k = 3 ∨ k = 4 ∨ k = 5 ∨ k = 6 ∨ k = 7 := by omega
  rcases h with rfl | rfl | rfl | rfl | rfl | rfl | rfl | rfl <;> rfl
theorem OwnB.nil (w : World) (base : Nat) : OwnB w base (.slice none 0 0) [] := World.ownsRow_nil w base 5 1

theorem zn_stop {n m : Nat} (h0 : n + 1 ≤ m) (h1 : m ≤ n + 1 + zn n) : m % 64 = 56 ↔ m = n + 1 + zn n := by
  unfold zn at *; omega
theorem reads_bo {w : World} {B : Nat} (x : Int) (hB : w.heap.size + 1 ≤ B) :
    Reads (w.alloc (.cells #[.int .u8 (x / 16777216), .int .u8 (x / 65536 % 256), .int .u8 (x / 256 % 256), .int .u8 (x % 256)] 5)) B 1 (some ⟨w.heap.size, 0, none⟩) 4 ((bo x).map (Value.int .u8)) :=
  Reads.lit w 5 #[.int .u8 (x / 16777216), .int .u8 (x / 65536 % 256), .int .u8 (x / 256 % 256), .int .u8 (x % 256)] hB

set_option maxRecDepth 100000 in
set_option maxHeartbeats 1000000 in
theorem sm3_any (A : Option Addr) (n c : Nat) (l : List Int) (w : World) (hr : Reads w w.heap.size 1 A n (l.map (Value.int .u8))) (hby : ∀ x ∈ l, 0 ≤ x ∧ x ≤ 255) (hn : n ≤ 1000000) :
    Calls Tryz.prog 13 #[.slice A n c] w (RetBytes w (sm3 l)) := by
  have hln : l.length = n := by simpa using hr.1
  have HL := Lib.hid hln
  clear hln
  have hbw : Below w.heap.size w (w.alloc (.cells #[] 5)) := (Below.refl _ _).alloc (Nat.le_refl _) _
  go_enter Tryz.func13, Tryz.ntmps13
  go_wp2_with (first
    | (at_builtin; refine app_bytes _ rfl (.tmp 10) (.tmp 11) rfl w.heap.size _ _ rfl (OwnB.empty w (Nat.le_refl _)) w.heap.size A n c l rfl (hr.alloc (Nat.le_refl _) _) (by simp; omega) hbw.size ?_; intro v1 w1 hown1 hb1)
    | (at_builtin; refine app_bytes _ rfl (.tmp 12) (.tmp 13) rfl w.heap.size v1 ([] ++ l) rfl (hown1.alloc _) (w1.heap.size + 1) _ 1 1 [128] rfl (Reads.lit w1 5 #[.int .u8 128] (Nat.le_refl _)) (by have := HL.out; simp; omega) (by have := hb1.size; simp at this; simp; omega) ?_; intro v2 w2 hown2 hb2))
  have hbw2 : Below w.heap.size w w2 := (hbw.trans (hb1.trans (((Below.refl _ _).alloc (by have := hb1.size; simp at this; omega) _).trans hb2)))
  go_loopw [3] (fun v wr => ∃ m g cc : Nat, v = .slice (some ⟨g, 0, none⟩) m cc ∧ n + 1 ≤ m ∧ m ≤ n + 1 + zn n ∧ OwnB wr w.heap.size (.slice (some ⟨g, 0, none⟩) m cc) (l ++ [128] ++ List.replicate (m - (n + 1)) 0) ∧ Below w.heap.size w wr)
    (fun v _ => match v with | .slice _ m _ => n + 1 + zn n - m | _ => 0)
  case atStart =>
    have hl := HL.out
    obtain ⟨g, cc, rfl, _⟩ := hown2.form (by simp)
    refine ⟨n + 1, g, cc, by simp [hl], by omega, by omega, ?_, hbw2⟩
    simpa [hl] using hown2
  case round =>
    clear hown1 hown2 hb1 hb2
    obtain ⟨m, g, cc, rfl, hm0, hm1, hown, hbr⟩ := hrel
    have hz : zn n < 64 := by unfold zn; omega
    by_cases hlt : m = n + 1 + zn n
    · have ht : ((m : Int) % 64 == 56) = true := by
        have := (zn_stop hm0 hm1); simp; omega
      have ht2 : ((m : Int) % 64 != 56) = false := by
        have := (zn_stop hm0 hm1); simp; omega
      have hbrs := hbr.size
      have LT := Lib.hid hlt
      clear hlt
      go_wp2_with (first
        | (go_at_call 26; refine (bytesOf_any _ _ (by omega)).mono ?_; rintro e w' ⟨rfl, rfl⟩)
        | (at_builtin; refine app_bytes _ rfl (.tmp 26) (.tmp 30) rfl w.heap.size _ _ rfl (hown.alloc _) (wr.heap.size + 1) _ 4 4 (bo ((n : Int) * 8 / 4294967296)) rfl (reads_bo _ (Nat.le_refl _)) (by have := HL.out; simp; omega) (by simp; omega) ?_; intro v3 w3 hown3 hb3)
        | (at_builtin; refine app_bytes _ rfl (.tmp 31) (.tmp 34) rfl w.heap.size _ _ rfl (hown3.alloc _) (w3.heap.size + 1) _ 4 4 (bo ((n : Int) * 8)) rfl (reads_bo _ (Nat.le_refl _)) (by have := HL.out; simp [bo]; omega) (by have := hb3.size; simp at this; simp; omega) ?_; intro v4 w4 hown4 hb4))
      have hp : l ++ [128] ++ List.replicate (m - (n + 1)) 0 ++ bo ((n : Int) * 8 / 4294967296) ++ bo ((n : Int) * 8) = pad l := by
        have h1 := HL.out
        have h2 := LT.out
        unfold pad
        rw [h1, show m - (n + 1) = zn n by omega]
      rw [hp] at hown4
      have hbel4 : Below w.heap.size w w4 := (((hbr.alloc hbrs _).trans hb3).alloc (by have := hb3.size; simp at this; omega) _).trans hb4
      have hpos : 0 < (pad l).length := by rw [pad_length]; omega
      have hP0 : (pad l).length ≤ 1000100 := by rw [pad_length, HL.out]; omega
      have hPm := pad_mod l
      obtain ⟨g4, c4, e4, hg4⟩ := hown4.form hpos
      obtain ⟨P, hP⟩ : ∃ P : Nat, P = (pad l).length := ⟨_, rfl⟩
      rw [← hP] at hpos hP0 hPm e4 hg4
      have HP := Lib.hid hP
      subst e4
      have hg4' : g4 < w4.heap.size := hg4.2.1
      clear hown hown3 hb3 hb4 ht ht2 hbr hbrs hm0 hm1 hz hp hbw2 hbw LT hP hg4
      go_loopw [6] (fun i wr => ∃ (k q : Nat) (s : St), i = .int .i64 k ∧ Hid (k = 64 * q) ∧ k ≤ P ∧ OwnB wr w.heap.size (.slice (some ⟨g4, 0, none⟩) P c4) (pad l) ∧
          Hid (s = absorb (pad l) q St.start) ∧ Blk wr w4.heap.size 25 s.cells ∧ Below w.heap.size w wr) (fun i _ => P - (intOf i).toNat)
      case atStart =>
        exact ⟨0, 0, St.start, rfl, rfl, Nat.zero_le _, hown4.alloc _, rfl, Blk.new w4 25 St.start.cells, hbel4.alloc hbel4.size _⟩
      case round =>
        clear hown4
        have hw4 := hbel4.size
        obtain ⟨k, q, s, rfl, hkq, hkP, hown, hs, hblk, hbr⟩ := hrel
        by_cases hlt : k < P
        · have hk64 : k + 64 ≤ P := by have := hkq.out; omega
          obtain ⟨g, c, e', hgw, hgl, hPc, hcm, hcell, _⟩ := hown.form (by rw [← HP.out]; omega)
          obtain ⟨rfl, rfl⟩ : g4 = g ∧ c4 = c := by
            injection e' with e1 e2 e3
            injection e1 with e1
            injection e1 with e1
            exact ⟨e1, e3⟩
          rw [← HP.out] at hPc hcell
          clear e'
          have hbytes : ∀ x : Bel wr, Bytes x.w g4 k (((pad l).drop k).take 64) := fun x => ⟨fun j hj => by
            have hj' : j < 64 ∧ j < (pad l).length - k := by rw [List.length_take, List.length_drop] at hj; omega
            rw [Bel.cell x hgl, hcell (k + j) (by omega), List.getD_eq_getElem?_getD, List.getD_eq_getElem?_getD, List.getElem?_take, if_pos hj'.1, List.getElem?_drop],
            fun y hy => pad_byte hby (by rw [HL.out]; exact hn) y (List.mem_of_mem_drop (List.mem_of_mem_take hy))⟩
          have hlen64 : (((pad l).drop k).take 64).length = 64 := by rw [List.length_take, List.length_drop, ← HP.out]; omega
          have HLEN := Lib.hid hlen64
          clear hlen64
          have hgx : ∀ x : Bel wr, g4 < x.w.heap.size := fun x => Nat.lt_of_lt_of_le hgl x.h.size
          have hvl := hblk.lt
          have c0 : ∀ x : Bel wr, x.w.cell? ⟨w4.heap.size, 0, none⟩ = some (.int .u32 s.a) := fun x => (Bel.cell x hvl).trans (hblk.cell 0)
          have c1 : ∀ x : Bel wr, x.w.cell? ⟨w4.heap.size, 1, none⟩ = some (.int .u32 s.b) := fun x => (Bel.cell x hvl).trans (hblk.cell 1)
          have c2 : ∀ x : Bel wr, x.w.cell? ⟨w4.heap.size, 2, none⟩ = some (.int .u32 s.c) := fun x => (Bel.cell x hvl).trans (hblk.cell 2)
          have c3 : ∀ x : Bel wr, x.w.cell? ⟨w4.heap.size, 3, none⟩ = some (.int .u32 s.d) := fun x => (Bel.cell x hvl).trans (hblk.cell 3)
          have c5 : ∀ x : Bel wr, x.w.cell? ⟨w4.heap.size, 4, none⟩ = some (.int .u32 s.e) := fun x => (Bel.cell x hvl).trans (hblk.cell 4)
          have c6 : ∀ x : Bel wr, x.w.cell? ⟨w4.heap.size, 5, none⟩ = some (.int .u32 s.f) := fun x => (Bel.cell x hvl).trans (hblk.cell 5)
          have c7 : ∀ x : Bel wr, x.w.cell? ⟨w4.heap.size, 6, none⟩ = some (.int .u32 s.g) := fun x => (Bel.cell x hvl).trans (hblk.cell 6)
          have c8 : ∀ x : Bel wr, x.w.cell? ⟨w4.heap.size, 7, none⟩ = some (.int .u32 s.h) := fun x => (Bel.cell x hvl).trans (hblk.cell 7)
          have hfz : ∀ (x : Bel wr) (j : Nat), x.w.frozen? ⟨w4.heap.size, j, none⟩ = false := fun x j => (Bel.frozen x hvl).trans (hblk.frozen j)
          have e1 : IntKind.i64.wrap ((k : Int) + 64) = (k : Int) + 64 := IntWalk.i64_in _ (by omega)
          have e2 : ((k : Int) + 64).toNat = k + 64 := by omega
          have e3 : (0 : Int) ≤ (k : Int) + 64 := by omega
          have e5 : k + 64 ≤ c4 := by omega
          have e6 : ¬ c4 = k := by omega
          have e7 : (k : Int) ≤ (k : Int) + 64 := by omega
          have e8 : (k : Int) + 64 ≤ (c4 : Int) := by omega
          go_wp2_with fail
          refine region_bel_tail 7 (by kernel_rfl) (by kernel_rfl) ?_
          simp only [List.take_succ_cons, List.take_zero, List.drop_succ_cons, List.drop_zero]
          repeat (quiet_step ((first | rfl | (go_at_call 29; exact bel_call (compress_any s g4 k _ _ (((pad l).drop k).take 64) _ (by omega) (by omega) (Nat.le_trans (Nat.sub_le _ _) hcm) (hgx _) HLEN.out (hbytes _))))))
          refine wpQuiet_nil ?_
          intro _ hw'
          obtain ⟨y, rfl⟩ := hw'
          have k1 := c0 y
          have k2 := c1 y
          have k3 := c2 y
          have k4 := c3 y
          have k5 := c5 y
          have k6 := c6 y
          have k7 := c7 y
          have k8 := c8 y
          have z1 := hfz y 0
          have z2 := hfz y 1
          have z3 := hfz y 2
          have z4 := hfz y 3
          have z5 := hfz y 4
          have z6 := hfz y 5
          have z7 := hfz y 6
          have z8 := hfz y 7
          clear c0 c1 c2 c3 c5 c6 c7 c8 hfz
          unfold St.agg
          go_wp2_with fail
          go_roundw
          case rel =>
            have hne : g4 ≠ w4.heap.size := by omega
            refine ⟨k + 64, q + 1, comp s (wordAt (((pad l).drop k).take 64) 0), by go_num, ?_, hk64, ?_, ?_, ?_, ?_⟩
            · show k + 64 = 64 * (q + 1); have := hkq.out; omega
            · exact OwnB.keep (w := wr) hown ((store8_other _ hne).trans (y.h.block g4 hgl))
            · show comp s _ = absorb (pad l) (q + 1) St.start
              rw [comp_cut, hs.out, hkq.out]; rfl
            · exact store8_blk (hblk.below y.h hvl) _
            · exact store8_below (hbr.trans (y.h.mono hbr.size)) hw4 _
          case measure => simp [intOf]; omega
        · have hsq : s = absorb (pad l) ((pad l).length / 64) St.start := by
            rw [hs.out, ← HP.out]
            have := hkq.out
            rw [show P / 64 = q by omega]
          have hsU : s.U := by rw [hsq]; exact u32_absorb _ _ u32_start
          have HS := Lib.hid hsq
          clear hsq hs hkq hown
          have k0 := hblk.cell 0
          have k1 := hblk.cell 1
          have k2 := hblk.cell 2
          have k3 := hblk.cell 3
          have k4 := hblk.cell 4
          have k5 := hblk.cell 5
          have k6 := hblk.cell 6
          have k7 := hblk.cell 7
          simp only [St.cells, List.getElem?_toArray, List.getElem?_cons_zero, List.getElem?_cons_succ] at k0 k1 k2 k3 k4 k5 k6 k7
          go_wp2_with fail
          clear k0 k1 k2 k3 k4 k5 k6 k7 hblk
          go_loopw [7, 51] (fun v i wr => ∃ k : Nat, k ≤ 8 ∧ i = .int .i64 k ∧ OwnB wr w.heap.size v (outPre s k) ∧ Below w.heap.size w wr) (fun _ i _ => 8 - (intOf i).toNat)
          case atStart => exact ⟨0, by omega, rfl, OwnB.nil _ _, hbr⟩
          case round =>
            rename_i K2 _ _ _ _ _ _ _ _
            clear hbr
            obtain ⟨k, hk, rfl, hown, hbr⟩ := hrel
            have hbrs := hbr.size
            by_cases hlt : k < 8
            · have hix := index8 s k hlt
              have hu := St.get_u32 hsU k
              unfold U32 at hu
              go_wp2_with (first
                | (go_at_call 26; refine (bytesOf_any _ _ hu).mono ?_; rintro e w' ⟨rfl, rfl⟩)
                | (at_builtin; refine app_bytes _ rfl (.tmp 54) (.tmp 56) rfl w.heap.size _ _ rfl (hown.alloc _) (wr.heap.size + 1) _ 4 4 (bo (s.get k)) rfl (reads_bo _ (Nat.le_refl _)) (by rw [outPre_length]; omega) (by simp; omega) ?_; intro v5 w5 hown5 hb5))
              go_roundw
              case rel => exact ⟨k + 1, by omega, by go_num, hown5, (hbr.alloc hbrs _).trans hb5⟩
              case measure => simp [intOf]; omega
            · obtain rfl : k = 8 := by omega
              go_wp2_with fail
              go_ret
              refine ⟨_, rfl, ?_, hbr⟩
              rw [sm3, ← HS.out, ← outPre_all]
              exact hown
    · have ht : ((m : Int) % 64 == 56) = false := by
        have := (zn_stop hm0 hm1); simp; omega
      have ht2 : ((m : Int) % 64 != 56) = true := by
        have := (zn_stop hm0 hm1); simp; omega
      have hbrs := hbr.size
      go_wp2_with (at_builtin; refine app_bytes _ rfl (.tmp 19) (.tmp 20) rfl w.heap.size _ _ rfl (hown.alloc _) (wr.heap.size + 1) _ 1 1 [0] rfl (Reads.lit wr 5 #[.int .u8 0] (Nat.le_refl _)) (by have := HL.out; simp; omega) (by simp; omega) ?_; intro v3 w3 hown3 hb3)
      obtain ⟨g3, c3, rfl, _⟩ := hown3.form (by simp; omega)
      have hlen : (l ++ [128] ++ List.replicate (m - (n + 1)) 0 ++ [(0 : Int)]).length = m + 1 := by
        have := HL.out
        simp; omega
      rw [hlen] at hown3 ⊢
      refine ⟨⟨m + 1, g3, c3, rfl, by omega, by omega, ?_, (hbr.alloc hbrs _).trans hb3⟩, by show n + 1 + zn n - (m + 1) < n + 1 + zn n - m; omega⟩
      rw [show m + 1 - (n + 1) = (m - (n + 1)) + 1 by omega, List.replicate_succ', ← List.append_assoc]
      exact hown3
end Go.Proofs.YtiegapnfbeemcaaGreatDoor
