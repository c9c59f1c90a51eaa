/-
  The hash's padding and writing. No condition.
-/
import Derived.Test.YtiegapnfbeemcaaGreatDoorA69
import Derived.Test.YtiegapnfbeemcaaGreatDoorA63
namespace Go.Proofs.YtiegapnfbeemcaaGreatDoor
set_option maxRecDepth 100000
open Go.RowKit

theorem OwnS.alloc {w : World} {base : Nat} {v : Value} {u : List Int} (h : OwnS w base v u) (o : Obj) : OwnS (w.alloc o) base v u := h.keep fun _ _ hb _ => hb.alloc o

/-- The cells of an SM3: the state, eight times how many bytes were written, what is not handled yet. -/
def smCells (s : St) (N : Int) (v : Value) : Array Value := s.cells ++ #[.int .u64 N, v]
theorem smCells_8 (s : St) (N : Int) (v : Value) : (smCells s N v)[8]? = some (.int .u64 N) := by simp [smCells, St.cells]
theorem smCells_9 (s : St) (N : Int) (v : Value) : (smCells s N v)[9]? = some v := by simp [smCells, St.cells]

def PadPost (w : World) (base b : Nat) (s : St) (N : Int) (v : Value) (u p : List Int) (e : Ending) (w' : World) : Prop :=
  ∃ v', e = .returned v' ∧ OwnS w' base v' p ∧ Below base w w' ∧ Blk w' b 100 (smCells s N v) ∧ OwnS w' base v u

/-- What is padded behind what is not handled yet. -/
def padTail (u : List Int) (N : Int) : List Int := u ++ [128] ++ List.replicate (zn u.length) 0 ++ bo (N / 4294967296) ++ bo N

theorem and255 (x : Int) (h0 : 0 ≤ x) (h1 : x ≤ 18446744073709551615) : bits .and .u64 x 255 = x % 256 := by
  obtain ⟨n, rfl⟩ := Int.eq_ofNat_of_zero_le h0
  show IntKind.u64.wrap (((BitVec.ofInt 64 (n : Int)) &&& (BitVec.ofInt 64 255)).toNat : Int) = _
  have e : ((BitVec.ofInt 64 (n : Int)) &&& (BitVec.ofInt 64 255)).toNat = n % 256 := by
    rw [BitVec.toNat_and]
    have e1 : (BitVec.ofInt 64 (n : Int)).toNat = n := by simp; omega
    have e2 : (BitVec.ofInt 64 255).toNat = 2 ^ 8 - 1 := by decide
    rw [e1, e2, Nat.and_two_pow_sub_one_eq_mod]
  rw [e, IntWalk.u64_in _ (by omega)]
  omega
theorem padTail_eq (u : List Int) (N : Int) (m : Nat) (hN : 0 ≤ N ∧ N ≤ 8000000) (hm : m = u.length + 1 + zn u.length) :
    u ++ [128] ++ List.replicate (m - (u.length + 1)) 0 ++ [bits BinOp.and IntKind.u64 (N / 72057594037927936) 255 % 256] ++ [bits BinOp.and IntKind.u64 (N / 281474976710656) 255 % 256] ++
      [bits BinOp.and IntKind.u64 (N / 1099511627776) 255 % 256] ++ [bits BinOp.and IntKind.u64 (N / 4294967296) 255 % 256] ++ [bits BinOp.and IntKind.u64 (N / 16777216) 255 % 256] ++
      [bits BinOp.and IntKind.u64 (N / 65536) 255 % 256] ++ [bits BinOp.and IntKind.u64 (N / 256) 255 % 256] ++ [bits BinOp.and IntKind.u64 N 255 % 256] = padTail u N := by
  unfold padTail bo
  rw [show m - (u.length + 1) = zn u.length by omega, and255 _ (by omega) (by omega), and255 _ (by omega) (by omega), and255 _ (by omega) (by omega), and255 _ (by omega) (by omega), and255 _ (by omega) (by omega), and255 _ (by omega) (by omega), and255 _ (by omega) (by omega), and255 _ (by omega) (by omega)]
  simp only [List.append_assoc, List.cons_append, List.nil_append]
  have h1 : N / 72057594037927936 % 256 % 256 = N / 4294967296 / 16777216 := by omega
  have h2 : N / 281474976710656 % 256 % 256 = N / 4294967296 / 65536 % 256 := by omega
  have h3 : N / 1099511627776 % 256 % 256 = N / 4294967296 / 256 % 256 := by omega
  have h4 : N / 4294967296 % 256 % 256 = N / 4294967296 % 256 := by omega
  have h5 : N / 16777216 % 256 % 256 = N / 16777216 := by omega
  have h6 : N / 65536 % 256 % 256 = N / 65536 % 256 := by omega
  have h7 : N / 256 % 256 % 256 = N / 256 % 256 := by omega
  have h8 : N % 256 % 256 = N % 256 := by omega
  rw [h1, h2, h3, h4, h5, h6, h7, h8]
theorem padTail_length (u : List Int) (N : Int) : (padTail u N).length = u.length + 1 + zn u.length + 8 := by simp only [padTail, List.length_append, bo_length, List.length_replicate, List.length_singleton]
theorem padTail_mod (u : List Int) (N : Int) : (padTail u N).length % 64 = 0 := by rw [padTail_length]; unfold zn; omega

set_option maxRecDepth 100000 in
set_option maxHeartbeats 1000000 in
theorem pad_any (base b : Nat) (s : St) (N : Int) (v : Value) (u : List Int) (w : World) (hb : base ≤ b) (hO : Blk w b 100 (smCells s N v)) (hV : OwnS w base v u) (hN : 0 ≤ N ∧ N ≤ 8000000) (hu : u.length < 64) :
    Calls Tryz.prog 73 #[.pointer (some ⟨b, 0, none⟩)] w (PadPost w base b s N v u (padTail u N)) := by
  have hcs8 := smCells_8 s N v
  have hlt := hO.lt
  have hbw : base ≤ w.heap.size := by omega
  have c8 := hO.cell 8
  have c9 := hO.cell 9
  rw [hcs8] at c8
  rw [smCells_9] at c9
  have hP := Apart.self hV
  go_enter Tryz.func73, Tryz.ntmps73
  go_wp2_with (at_builtin; refine app_s _ rfl (.tmp 9) (.tmp 10) rfl base v u rfl (hV.alloc _) (w.heap.size + 1) _ 1 1 [128] rfl (Reads.lit w 5 #[.int .u8 128] (Nat.le_refl _)) (by omega) (by simp; omega) ?_; intro v1 w1 hS1 hB1' hK1 hA1)
  have hB1 : Below base w w1 := ((Below.refl base w).alloc (by omega) _).trans hB1'
  have hO1 := hK1 b 100 _ (by decide) (hO.alloc _)
  obtain ⟨hV1, hP1⟩ := hA1 v u (hV.alloc _) hP
  have hl1 : (u ++ [(128 : Int)]).length = u.length + 1 := by simp
  obtain ⟨g1, o1, d1, _, e1, _⟩ := (id hS1)
  rw [hl1] at e1
  subst e1
  clear c8 c9 hB1' hK1 hA1 hl1
  go_loopw [3] (fun v' wr => ∃ g o c m : Nat, v' = .slice (some ⟨g, o, none⟩) m c ∧ u.length + 1 ≤ m ∧ m ≤ u.length + 1 + zn u.length ∧ OwnS wr base (.slice (some ⟨g, o, none⟩) m c) (u ++ [128] ++ List.replicate (m - (u.length + 1)) 0) ∧ Below base w wr ∧
      Blk wr b 100 (smCells s N v) ∧ OwnS wr base v u ∧ Apart v (.slice (some ⟨g, o, none⟩) m c) u.length)
    (fun v _ => match v with | .slice _ m _ => u.length + 1 + zn u.length - m | _ => 0)
  case atStart =>
    exact ⟨g1, o1, d1, u.length + 1, rfl, by omega, by omega, by simpa using hS1, hB1, hO1, hV1, hP1⟩
  case round =>
    clear hS1 hB1 hO1 hV1 hP1
    obtain ⟨g, o, c, m, rfl, hm0, hm1, hS, hB, hO2, hV2, hP2⟩ := hrel
    have hz : zn u.length < 64 := by unfold zn; omega
    have hBs := hB.size
    by_cases hlt2 : m = u.length + 1 + zn u.length
    · have ht : ((m : Int) % 64 == 56) = true := by
        have := (zn_stop hm0 hm1); simp; omega
      have ht2 : ((m : Int) % 64 != 56) = false := by
        have := (zn_stop hm0 hm1); simp; omega
      have hpad := padTail_eq u N m hN hlt2
      obtain ⟨L, hL⟩ : ∃ L, (padTail u N).length = L := ⟨_, rfl⟩
      have hL64 : ((L : Int) % 64 == 0) = true := by have := padTail_mod u N; rw [hL] at this; simp; omega
      have hL65 : ((L : Int) % 64 != 0) = false := by have := padTail_mod u N; rw [hL] at this; simp; omega
      have hLm : L ≤ 200 := by have := padTail_length u N; omega
      have LT := Lib.hid hlt2
      clear hlt2
      obtain ⟨v2, e2⟩ : ∃ v2, v2 = Value.slice (some ⟨g, o, none⟩) m c := ⟨_, rfl⟩
      have hS2 := hS
      rw [← e2] at hS2 hP2
      have hV2' := hV2
      obtain ⟨w2, ew⟩ : ∃ w2, w2 = wr := ⟨_, rfl⟩
      subst ew
      subst e2
      have c2 := hO2.cell 8
      rw [hcs8] at c2
      have hB2 := hB
      clear hB hS hV2'
      go_wp2_with (first
        | (at_builtin; refine app_s _ rfl (.tmp 20) (.tmp 28) rfl base _ _ rfl (hS2.alloc _) (w2.heap.size + 1) _ 1 1 [_] rfl (Reads.lit w2 5 #[.int .u8 _] (Nat.le_refl _)) (by simp; omega) (by simp; have := hB2.size; omega) ?_
           intro v3 w3 hS3 hB3' hK3 hA3
           have hB3 := (hB2.alloc (Nat.le_trans hbw hB2.size) _).trans hB3'
           have hO3 := hK3 b 100 _ (by decide) (hO2.alloc _)
           have c3 := hO3.cell 8
           rw [hcs8] at c3
           obtain ⟨hV3, hP3⟩ := hA3 v u (hV2.alloc _) hP2)
        | (at_builtin; refine app_s _ rfl (.tmp 30) (.tmp 38) rfl base v3 _ rfl (hS3.alloc _) (w3.heap.size + 1) _ 1 1 [_] rfl (Reads.lit w3 5 #[.int .u8 _] (Nat.le_refl _)) (by simp; omega) (by simp; have := hB3.size; omega) ?_
           intro v4 w4 hS4 hB4' hK4 hA4
           have hB4 := (hB3.alloc (Nat.le_trans hbw hB3.size) _).trans hB4'
           have hO4 := hK4 b 100 _ (by decide) (hO3.alloc _)
           have c4 := hO4.cell 8
           rw [hcs8] at c4
           obtain ⟨hV4, hP4⟩ := hA4 v u (hV3.alloc _) hP3)
        | (at_builtin; refine app_s _ rfl (.tmp 40) (.tmp 48) rfl base v4 _ rfl (hS4.alloc _) (w4.heap.size + 1) _ 1 1 [_] rfl (Reads.lit w4 5 #[.int .u8 _] (Nat.le_refl _)) (by simp; omega) (by simp; have := hB4.size; omega) ?_
           intro v5 w5 hS5 hB5' hK5 hA5
           have hB5 := (hB4.alloc (Nat.le_trans hbw hB4.size) _).trans hB5'
           have hO5 := hK5 b 100 _ (by decide) (hO4.alloc _)
           have c5 := hO5.cell 8
           rw [hcs8] at c5
           obtain ⟨hV5, hP5⟩ := hA5 v u (hV4.alloc _) hP4)
        | (at_builtin; refine app_s _ rfl (.tmp 50) (.tmp 58) rfl base v5 _ rfl (hS5.alloc _) (w5.heap.size + 1) _ 1 1 [_] rfl (Reads.lit w5 5 #[.int .u8 _] (Nat.le_refl _)) (by simp; omega) (by simp; have := hB5.size; omega) ?_
           intro v6 w6 hS6 hB6' hK6 hA6
           have hB6 := (hB5.alloc (Nat.le_trans hbw hB5.size) _).trans hB6'
           have hO6 := hK6 b 100 _ (by decide) (hO5.alloc _)
           have c6 := hO6.cell 8
           rw [hcs8] at c6
           obtain ⟨hV6, hP6⟩ := hA6 v u (hV5.alloc _) hP5)
        | (at_builtin; refine app_s _ rfl (.tmp 60) (.tmp 68) rfl base v6 _ rfl (hS6.alloc _) (w6.heap.size + 1) _ 1 1 [_] rfl (Reads.lit w6 5 #[.int .u8 _] (Nat.le_refl _)) (by simp; omega) (by simp; have := hB6.size; omega) ?_
           intro v7 w7 hS7 hB7' hK7 hA7
           have hB7 := (hB6.alloc (Nat.le_trans hbw hB6.size) _).trans hB7'
           have hO7 := hK7 b 100 _ (by decide) (hO6.alloc _)
           have c7 := hO7.cell 8
           rw [hcs8] at c7
           obtain ⟨hV7, hP7⟩ := hA7 v u (hV6.alloc _) hP6)
        | (at_builtin; refine app_s _ rfl (.tmp 70) (.tmp 78) rfl base v7 _ rfl (hS7.alloc _) (w7.heap.size + 1) _ 1 1 [_] rfl (Reads.lit w7 5 #[.int .u8 _] (Nat.le_refl _)) (by simp; omega) (by simp; have := hB7.size; omega) ?_
           intro v8 w8 hS8 hB8' hK8 hA8
           have hB8 := (hB7.alloc (Nat.le_trans hbw hB7.size) _).trans hB8'
           have hO8 := hK8 b 100 _ (by decide) (hO7.alloc _)
           have c8 := hO8.cell 8
           rw [hcs8] at c8
           obtain ⟨hV8, hP8⟩ := hA8 v u (hV7.alloc _) hP7)
        | (at_builtin; refine app_s _ rfl (.tmp 80) (.tmp 88) rfl base v8 _ rfl (hS8.alloc _) (w8.heap.size + 1) _ 1 1 [_] rfl (Reads.lit w8 5 #[.int .u8 _] (Nat.le_refl _)) (by simp; omega) (by simp; have := hB8.size; omega) ?_
           intro v9 w9 hS9 hB9' hK9 hA9
           have hB9 := (hB8.alloc (Nat.le_trans hbw hB8.size) _).trans hB9'
           have hO9 := hK9 b 100 _ (by decide) (hO8.alloc _)
           have c9 := hO9.cell 8
           rw [hcs8] at c9
           obtain ⟨hV9, hP9⟩ := hA9 v u (hV8.alloc _) hP8)
        | (at_builtin; refine app_s _ rfl (.tmp 90) (.tmp 98) rfl base v9 _ rfl (hS9.alloc _) (w9.heap.size + 1) _ 1 1 [_] rfl (Reads.lit w9 5 #[.int .u8 _] (Nat.le_refl _)) (by simp; omega) (by simp; have := hB9.size; omega) ?_
           intro v10 w10 hS10 hB10' hK10 hA10
           have hB10 := (hB9.alloc (Nat.le_trans hbw hB9.size) _).trans hB10'
           have hO10 := hK10 b 100 _ (by decide) (hO9.alloc _)
           have c10 := hO10.cell 8
           rw [hcs8] at c10
           obtain ⟨hV10, hP10⟩ := hA10 v u (hV9.alloc _) hP9
           rw [hpad] at hS10
           obtain ⟨g10, o10, d10, _, e10, _⟩ := (id hS10)
           rw [hL] at e10
           subst e10))
      go_ret
      refine ⟨_, rfl, ?_, hB10, hO10, hV10⟩
      rw [← hL] at hS10 ⊢
      exact hS10
    · have ht : ((m : Int) % 64 == 56) = false := by
        have := (zn_stop hm0 hm1); simp; omega
      have ht2 : ((m : Int) % 64 != 56) = true := by
        have := (zn_stop hm0 hm1); simp; omega
      go_wp2_with (at_builtin; refine app_s _ rfl (.tmp 17) (.tmp 18) rfl base _ _ rfl (hS.alloc _) (wr.heap.size + 1) _ 1 1 [0] rfl (Reads.lit wr 5 #[.int .u8 0] (Nat.le_refl _)) (by simp; omega) (by simp; omega) ?_; intro v3 w3 hS3 hB3 hK3 hA3)
      have hO3 := hK3 b 100 _ (by decide) (hO2.alloc _)
      obtain ⟨hV3, hP3⟩ := hA3 v u (hV2.alloc _) hP2
      obtain ⟨g3, o3, c3, _, e3, _⟩ := (id hS3)
      have hlen : (u ++ [128] ++ List.replicate (m - (u.length + 1)) 0 ++ [(0 : Int)]).length = m + 1 := by
        simp; omega
      rw [hlen] at e3
      subst e3
      refine ⟨⟨g3, o3, c3, m + 1, rfl, by omega, by omega, ?_, (hB.alloc (Nat.le_trans hbw hBs) _).trans hB3, hO3, hV3, hP3⟩, by show u.length + 1 + zn u.length - (m + 1) < u.length + 1 + zn u.length - m; omega⟩
      rw [show m + 1 - (u.length + 1) = (m - (u.length + 1)) + 1 by omega, List.replicate_succ', ← List.append_assoc]
      exact hS3
end Go.Proofs.YtiegapnfbeemcaaGreatDoor

namespace Go.Proofs.YtiegapnfbeemcaaGreatDoor
set_option maxRecDepth 100000
open Go.RowKit

theorem blockSize_any (p : Value) (w : World) : Calls Tryz.prog 62 #[p] w fun e w' => e = .returned (.int .i64 64) ∧ w = w' := by
  go_enter Tryz.func62, Tryz.ntmps62
  go_wp2
  go_ret
  exact ⟨rfl, rfl⟩
theorem size_any (p : Value) (w : World) : Calls Tryz.prog 75 #[p] w fun e w' => e = .returned (.int .i64 32) ∧ w = w' := by
  go_enter Tryz.func75, Tryz.ntmps75
  go_wp2
  go_ret
  exact ⟨rfl, rfl⟩

/-- An SM3 object at block b: the state, eight times how many bytes were written, what is not handled yet. -/
def Obj3 (w : World) (base b : Nat) (s : St) (N : Int) (u : List Int) : Prop := ∃ v, Blk w b 100 (smCells s N v) ∧ OwnS w base v u

/-- Bytes that can be read, and go on to be while only block b changes. -/
def Src (w : World) (b : Nat) (A : Option Addr) (n : Nat) (p : List Int) : Prop := ∀ W : World, (∀ k, k ≠ b → W.heap[k]? = w.heap[k]?) → Reads W w.heap.size 1 A n (p.map (Value.int .u8))

def WritePost (w : World) (base b : Nat) (s : St) (N : Int) (t : List Int) (n : Nat) (e : Ending) (w' : World) : Prop :=
  e = .returned (.tuple #[.int .i64 n, .nilIface]) ∧ Obj3 w' base b (absorb t (t.length / 64) s) (N + 8 * n) (t.drop (64 * (t.length / 64))) ∧ Below base w w'

theorem OwnS.form {w : World} {base : Nat} {v : Value} {u : List Int} (h : OwnS w base v u) : ∃ g o c, v = .slice (some ⟨g, o, none⟩) u.length c ∧ u.length ≤ c ∧ c ≤ maxLen := by
  obtain ⟨g, o, c, _, e, _, _, h1, h2, _⟩ := h
  exact ⟨g, o, c, e, h1, h2⟩
theorem blk_ne {w : World} {k g : Nat} {t t' : TypeId} {cs cs' : Array Value} (h : Blk w k t cs) (h' : Blk w g t' cs') (hne : t ≠ t') : k ≠ g := by
  rintro rfl
  unfold Blk at h h'
  rw [h] at h'
  injection h' with h'
  injection h' with _ ht
  exact hne ht
/-- What is cut off at the front. -/
theorem OwnS.cut {w : World} {base g o n c : Nat} {u : List Int} (h : OwnS w base (.slice (some ⟨g, o, none⟩) n c) u) (k : Nat) (hk : k ≤ n) :
    OwnS w base (.slice (if c = k then some ⟨g, o, none⟩ else some ⟨g, o + k, none⟩) (n - k) (c - k)) (u.drop k) := by
  obtain ⟨g', o', c', cur, e, h1, h2, h3, h4, h5, h6⟩ := h
  injection e with e1 e2 e3
  injection e1 with e1
  injection e1 with e1 e4
  subst e1 e2 e3 e4
  by_cases hck : c = k
  · rw [if_pos hck]
    exact ⟨g, o, c - k, cur, by rw [List.length_drop], h1, h2, by rw [List.length_drop]; omega, by omega, by omega, fun j hj => by rw [List.length_drop] at hj; omega⟩
  · rw [if_neg hck]
    refine ⟨g, o + k, c - k, cur, by rw [List.length_drop], h1, h2, by rw [List.length_drop]; omega, by omega, by omega, fun j hj => ?_⟩
    rw [List.length_drop] at hj
    rw [show o + k + j = o + (k + j) by omega, h6 _ (by omega), List.getD_eq_getElem?_getD, List.getD_eq_getElem?_getD, List.getElem?_drop]

theorem smCells_set8 (s : St) (N M : Int) (v : Value) : (smCells s N v).setIfInBounds 8 (.int .u64 M) = smCells s M v := by simp [smCells, St.cells]
theorem smCells_set9 (s : St) (N : Int) (v v' : Value) : (smCells s N v).setIfInBounds 9 v' = smCells s N v' := by simp [smCells, St.cells]

set_option maxRecDepth 100000 in
set_option maxHeartbeats 1000000 in
theorem write_any (base b : Nat) (s : St) (N : Int) (u p : List Int) (A : Option Addr) (n c : Nat) (w : World) (hb : base ≤ b) (hO : Obj3 w base b s N u) (hr : Src w b A n p)
    (hby : ∀ x ∈ u ++ p, 0 ≤ x ∧ x ≤ 255) (hN : 0 ≤ N ∧ N ≤ 8000000) (hn : n ≤ 1000000) (hu : u.length < 64) :
    Calls Tryz.prog 39 #[.pointer (some ⟨b, 0, none⟩), .slice A n c] w (WritePost w base b s N (u ++ p) n) := by
  obtain ⟨v, hO, hV⟩ := hO
  have hp : p.length = n := by have := (hr w (fun _ _ => rfl)).1; simpa using this
  have hlt := hO.lt
  have hbw : base ≤ w.heap.size := by omega
  have c8 := hO.cell 8
  have c9 := hO.cell 9
  rw [smCells_8] at c8
  rw [smCells_9] at c9
  have z8 := hO.frozen 8
  have hO1 : Blk (w.setCell ⟨b, 8, none⟩ (.int .u64 (N + (n : Int) * 8))) b 100 (smCells s (N + (n : Int) * 8) v) := by
    have := hO.set_ 8 (.int .u64 (N + (n : Int) * 8)); rwa [smCells_set8] at this
  have hV1 : OwnS (w.setCell ⟨b, 8, none⟩ (.int .u64 (N + (n : Int) * 8))) base v u := hV.keep fun k cs hk _ => hk.far (p := ⟨b, 8, none⟩) (blk_ne hk hO (by decide)) _
  have hr1 : Reads (w.setCell ⟨b, 8, none⟩ (.int .u64 (N + (n : Int) * 8))) w.heap.size 1 A n (p.map (Value.int .u8)) := hr _ fun k hk => Below.heap_setCell w ⟨b, 8, none⟩ _ k hk
  have hB1 : Below base w (w.setCell ⟨b, 8, none⟩ (.int .u64 (N + (n : Int) * 8))) := (Below.refl _ _).setCell hb _
  obtain ⟨L, hL⟩ : ∃ L, (u ++ p).length = L := ⟨_, rfl⟩
  have hLb : L ≤ 1000100 := by rw [← hL, List.length_append]; omega
  go_enter Tryz.func39, Tryz.ntmps39
  go_wp2_with (first
    | (go_at_call 62; refine (blockSize_any _ _).mono ?_; rintro e w' ⟨rfl, rfl⟩)
    | (at_builtin; refine app_s _ rfl (.tmp 25) (.tmp 26) rfl base v u rfl hV1 w.heap.size A n c p rfl hr1 (by omega) (by simp [World.setCell]; omega) ?_
       intro v2 w2 hV2 hB2 hK2 hA2
       have hO2 := hK2 b 100 _ (by decide) hO1
       obtain ⟨g2, o2, d2, e2, hd2, hm2⟩ := hV2.form
       rw [hL] at e2 hd2
       subst e2))
  have hc2 := hV2.cell
  refine (update_any s b _ g2 o2 L d2 (u ++ p) w2 hd2 hm2 hL (fun _ => ⟨rfl, hc2.2.1, fun j hj => hc2.2.2.2.2.2 j hj, hby⟩) hO2.lt #[.int .u64 (N + (n : Int) * 8), v] hO2 rfl).mono ?_
  rintro e w3 ⟨rfl, hO3, hG3⟩
  have hB3 : Below base w w3 := (hB1.trans hB2).trans ⟨hG3.os, hG3.tape, hG3.output, hG3.size, fun k hk => hG3.block k (by have := hO2.lt; omega) (by simp; omega)⟩
  have hV3 : OwnS w3 base (Value.slice (some ⟨g2, o2, none⟩) L d2) (u ++ p) := hV2.keep fun k cs hk _ => (hG3.block k hk.lt (by have := blk_ne hk hO2 (by decide); simpa using this)).trans hk
  have hO3' : Blk w3 b 100 (smCells (absorb (u ++ p) (L / 64) s) (N + (n : Int) * 8) v) := hO3
  have hV4 := hV3.cut (L / 64 * 64) (by omega)
  have c9' := hO3'.cell 9
  rw [smCells_9] at c9'
  have z9 := hO3'.frozen 9
  have fin : ∀ v', OwnS w3 base v' ((u ++ p).drop (L / 64 * 64)) → WritePost w base b s N (u ++ p) n (.returned (.tuple #[.int .i64 n, .nilIface])) (w3.setCell ⟨b, 9, none⟩ v') := fun v' hv' => by
    refine ⟨rfl, ⟨v', ?_, ?_⟩, hB3.setCell hb _⟩
    · have := hO3'.set_ 9 v'
      rw [smCells_set9] at this
      rw [hL, Int.mul_comm 8]
      exact this
    · rw [hL, Nat.mul_comm 64]
      exact hv'.keep fun k cs hk _ => hk.far (p := ⟨b, 9, none⟩) (blk_ne hk hO3' (by decide)) _
  clear hO3 hG3 hB3 hV2 hc2 hr1 hr
  have hdm : d2 ≤ 9223372036854775807 := by unfold maxLen at hm2; omega
  by_cases hq : d2 = L / 64 * 64
  · rw [if_pos hq] at hV4
    obtain rfl : d2 = L := by omega
    have hK := hq.symm
    clear hq
    rw [hK] at hV4 fin
    rw [Nat.sub_self] at hV4
    have F := fin _ hV4
    have HF := Lib.hid F
    clear F fin hV4
    go_wp2_with (go_at_call 62; refine (blockSize_any _ _).mono ?_; rintro e w' ⟨rfl, rfl⟩)
    go_ret2
    exact HF.out
  · rw [if_neg hq] at hV4
    have F := fin _ hV4
    have HF := Lib.hid F
    clear F fin hV4
    go_wp2_with (go_at_call 62; refine (blockSize_any _ _).mono ?_; rintro e w' ⟨rfl, rfl⟩)
    go_ret2
    exact HF.out
end Go.Proofs.YtiegapnfbeemcaaGreatDoor
