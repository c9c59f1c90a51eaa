/- Two blocks are multiplied as the package does it, exactly. No condition but where things lie. -/
import Derived.Test.YtkfagcpboehjjaaDoorGsh
import Derived.Test.YtkfagcpboehjjaaDoorModw
namespace Go.Proofs.YtkfagcpboehjjaaDoor
set_option maxRecDepth 100000
open Go.RowKit

def R16 (j : Nat) : Int := if j = 0 then 225 else 0
theorem R16_bf : Bf R16 := fun j => by unfold R16; split <;> omega
def mV (x : Nat → Int) : Nat → Nat → Int
  | 0 => x
  | i + 1 => if bits .and .u8 (mV x i 15) 1 = 0 then shr1 (mV x i) else xb (shr1 (mV x i)) R16
def mZ (x y : Nat → Int) : Nat → Nat → Int
  | 0 => fun _ => 0
  | i + 1 => if fyi y i = 1 then xb (mZ x y i) (mV x i) else mZ x y i
/-- The product. -/
def mulB (x y : Nat → Int) : Nat → Int := mZ x y 128
theorem mV_bf {x : Nat → Int} (h : Bf x) : ∀ i, Bf (mV x i)
  | 0 => h
  | i + 1 => by
    unfold mV
    split
    · exact shr1_bf (mV_bf h i)
    · exact xb_bf _ _
theorem mZ_bf (x y : Nat → Int) : ∀ i, Bf (mZ x y i)
  | 0 => fun _ => by show (0 : Int) ≤ 0 ∧ (0 : Int) ≤ 255; omega
  | i + 1 => by
    unfold mZ
    split
    · exact xb_bf _ _
    · exact mZ_bf x y i
theorem mulB_bf (x y : Nat → Int) : Bf (mulB x y) := mZ_bf x y 128
theorem fyi_01 (y : Nat → Int) (i : Nat) : fyi y i = 1 ∨ fyi y i = 0 := by unfold fyi; split <;> simp

/-- In the midst. -/
structure MM (w wr : World) (gz gv : Nat) (z v : Nat → Int) : Prop where
  o : Only [] w wr
  r : ArrB wr w.heap.size 16 R16
  z : ArrB wr gz 16 z
  v : ArrB wr gv 16 v
  n : gz ≠ gv
  hz : w.heap.size < gz
  hv : w.heap.size < gv

set_option maxHeartbeats 4000000 in
theorem mul_any (X Y : Addr) (c d : Nat) (x y : Nat → Int) (w : World) (hX : Src w X 16 x) (hx : Bf x) (hY : Src w Y 16 y) (la : X.block < w.heap.size) (lb : Y.block < w.heap.size) :
    Calls Tryd.prog 71 #[.slice (some X) 16 c, .slice (some Y) 16 d] w (GotB 16 (mulB x y) w) := by
  have m1 := makeB16
  obtain ⟨W, hW⟩ : ∃ W, W = ((w.alloc (.cells ((ZB 16).setIfInBounds 0 (.int .u8 225)) 5)).alloc (.cells (ZB 16) 5)).alloc (.cells (ZB 16) 5) := ⟨_, rfl⟩
  have hr0 : ArrB W w.heap.size 16 R16 := by
    subst hW
    refine ArrB.alloc (ArrB.alloc ⟨_, Blk.new w 5 _, by simp [ZB], fun j hj => ?_⟩ _) _
    rw [Array.getElem?_setIfInBounds]
    unfold R16
    by_cases h : 0 = j
    · subst h; rfl
    · rw [if_neg h, if_neg (fun e => h e.symm)]
      simp [ZB, hj]
  have hz0 : ArrB W (w.heap.size + 1) 16 (fun _ => 0) := by
    subst hW
    have := (ArrB.new (w.alloc (.cells ((ZB 16).setIfInBounds 0 (.int .u8 225)) 5)) 16).alloc (.cells (ZB 16) 5)
    simpa using this
  have hv0 : ArrB W (w.heap.size + 1 + 1) 16 (fun _ => 0) := by
    subst hW
    have := ArrB.new ((w.alloc (.cells ((ZB 16).setIfInBounds 0 (.int .u8 225)) 5)).alloc (.cells (ZB 16) 5)) 16
    simpa using this
  have hoW : Only [] w W := by
    subst hW
    exact (((Only.refl _ _).alloc _).alloc _).alloc _
  have hX0 := hX.only hoW la (by simp)
  rw [hW] at hv0 hX0
  go_enter Tryd.func71, Tryd.ntmps71
  go_wp2_with (refine copy16 rfl (.tmp 13) (.tmp 14) rfl (w.heap.size + 1 + 1) 0 16 16 X c (fun _ => 0) x rfl rfl hv0 (by omega) hX0 ?_; intro w2 ho2 hd2)
  rw [← hW] at ho2
  clear hv0 hX0
  have hm0 : MM w w2 (w.heap.size + 1) (w.heap.size + 1 + 1) (mZ x y 0) (mV x 0) :=
    ⟨hoW.then_ ho2 (by intro k hk hl; simp at hk; omega), hr0.only ho2 (by simp <;> omega), hz0.only ho2 (by simp <;> omega), hd2.congr (fun j hj => by rw [if_pos (by omega)]; rfl), by omega, by omega, by omega⟩
  clear hd2 ho2 hW hr0 hz0 hoW
  go_loopw [7, 4, 6] (fun i z v wr => ∃ k gz gv : Nat, k ≤ 128 ∧ i = .int .i64 k ∧ z = .slice (some ⟨gz, 0, none⟩) 16 16 ∧ v = .slice (some ⟨gv, 0, none⟩) 16 16 ∧ MM w wr gz gv (mZ x y k) (mV x k)) (fun i _ _ _ => 128 - (intOf i).toNat)
  case atStart => exact ⟨0, _, _, by omega, rfl, rfl, rfl, hm0⟩
  case round =>
    clear hm0
    obtain ⟨k, gz, gv, hk, rfl, rfl, rfl, hm⟩ := hrel
    by_cases hlt : k < 128
    · have l1 : (k : Int) ≤ 127 := by omega
      obtain ⟨b, HB⟩ : ∃ b, Hid (b = mV x k 15) := ⟨_, Lib.hid rfl⟩
      have hf := fyi_any Y d y k wr (hY.only hm.o lb (by simp)) hlt
      rcases fyi_01 y k with hy | hy
      · rw [hy] at hf
        have ez : mZ x y (k + 1) = xb (mZ x y k) (mV x k) := by rw [mZ, if_pos hy]
        go_wp2_with fail
        refine hf.mono ?_
        rintro e w' ⟨rfl, rfl⟩
        go_wp2_with fail
        refine (add_any ⟨gz, 0, none⟩ ⟨gv, 0, none⟩ 16 16 (mZ x y k) (mV x k) wr (hm.z.src0 (by omega)) (hm.v.src0 (by omega)) hm.z.lt hm.v.lt).mono ?_
        rintro e w3 ⟨g3, rfl, hg3, hz3, ho3⟩
        have hm3 : MM w w3 g3 gv (xb (mZ x y k) (mV x k)) (mV x k) := ⟨hm.o.trans ho3, hm.r.only ho3 (by simp), hz3, hm.v.only ho3 (by simp), by have := hm.v.lt; omega, by have := hm.r.lt; omega, hm.hv⟩
        have hb3 : w3.cell? ⟨gv, 15, none⟩ = some (.int .u8 b) := by rw [HB.out]; exact hm3.v.cell (by omega)
        have q1 := hm3.hv
        have q2 := hm3.hz
        have q3 := hm3.n
        have q4 := hm3.v.lt
        have q5 := hm3.z.lt
        have q6 := hm3.r.lt
        by_cases hv : bits .and .u8 b 1 = 0
        · have ev : mV x (k + 1) = shr1 (mV x k) := by rw [mV, ← HB.out, if_pos hv]
          go_wp2_with fail
          refine (rshift_any gv 16 (mV x k) w3 (mV_bf hx k) hm3.v).mono ?_
          rintro e w4 ⟨rfl, ho4, hv4⟩
          go_wp2_with fail
          go_roundw
          case rel => exact ⟨k + 1, _, _, by omega, by go_num, rfl, rfl, ⟨hm3.o.then_ ho4 (by intro a ha hl; simp at ha; omega), hm3.r.only ho4 (by simp <;> omega), by rw [ez]; exact hm3.z.only ho4 (by simp <;> omega), by rw [ev]; exact hv4, q3, q2, q1⟩⟩
          case measure => simp [intOf]; omega
        · have hv' : (bits .and .u8 b 1 == 0) = false := by simpa using hv
          have ev : mV x (k + 1) = xb (shr1 (mV x k)) R16 := by rw [mV, ← HB.out, if_neg hv]
          go_wp2_with fail
          refine (rshift_any gv 16 (mV x k) w3 (mV_bf hx k) hm3.v).mono ?_
          rintro e w4 ⟨rfl, ho4, hv4⟩
          have hr4 := hm3.r.only ho4 (by simp <;> omega)
          have hz4 := hm3.z.only ho4 (by simp <;> omega)
          have s4 := ho4.size
          go_wp2_with fail
          refine (add_any ⟨gv, 0, none⟩ ⟨w.heap.size, 0, none⟩ 16 16 (shr1 (mV x k)) R16 w4 (hv4.src0 (by omega)) (hr4.src0 (by omega)) hv4.lt hr4.lt).mono ?_
          rintro e w5 ⟨g5, rfl, hg5, hv5, ho5⟩
          go_wp2_with fail
          go_roundw
          case rel => exact ⟨k + 1, _, _, by omega, by go_num, rfl, rfl, ⟨(hm3.o.then_ ho4 (by intro a ha hl; simp at ha; omega)).trans ho5, hr4.only ho5 (by simp), by rw [ez]; exact hz4.only ho5 (by simp), by rw [ev]; exact hv5, by omega, q2, by omega⟩⟩
          case measure => simp [intOf]; omega
      · rw [hy] at hf
        have ez : mZ x y (k + 1) = mZ x y k := by rw [mZ, if_neg (by rw [hy]; decide)]
        go_wp2_with fail
        refine hf.mono ?_
        rintro e w' ⟨rfl, rfl⟩
        have hb3 : wr.cell? ⟨gv, 15, none⟩ = some (.int .u8 b) := by rw [HB.out]; exact hm.v.cell (by omega)
        have q1 := hm.hv
        have q2 := hm.hz
        have q3 := hm.n
        have q4 := hm.v.lt
        have q5 := hm.z.lt
        have q6 := hm.r.lt
        by_cases hv : bits .and .u8 b 1 = 0
        · have ev : mV x (k + 1) = shr1 (mV x k) := by rw [mV, ← HB.out, if_pos hv]
          go_wp2_with fail
          refine (rshift_any gv 16 (mV x k) wr (mV_bf hx k) hm.v).mono ?_
          rintro e w4 ⟨rfl, ho4, hv4⟩
          go_wp2_with fail
          go_roundw
          case rel => exact ⟨k + 1, _, _, by omega, by go_num, rfl, rfl, ⟨hm.o.then_ ho4 (by intro a ha hl; simp at ha; omega), hm.r.only ho4 (by simp <;> omega), by rw [ez]; exact hm.z.only ho4 (by simp <;> omega), by rw [ev]; exact hv4, q3, q2, q1⟩⟩
          case measure => simp [intOf]; omega
        · have hv' : (bits .and .u8 b 1 == 0) = false := by simpa using hv
          have ev : mV x (k + 1) = xb (shr1 (mV x k)) R16 := by rw [mV, ← HB.out, if_neg hv]
          go_wp2_with fail
          refine (rshift_any gv 16 (mV x k) wr (mV_bf hx k) hm.v).mono ?_
          rintro e w4 ⟨rfl, ho4, hv4⟩
          have hr4 := hm.r.only ho4 (by simp <;> omega)
          have hz4 := hm.z.only ho4 (by simp <;> omega)
          have s4 := ho4.size
          go_wp2_with fail
          refine (add_any ⟨gv, 0, none⟩ ⟨w.heap.size, 0, none⟩ 16 16 (shr1 (mV x k)) R16 w4 (hv4.src0 (by omega)) (hr4.src0 (by omega)) hv4.lt hr4.lt).mono ?_
          rintro e w5 ⟨g5, rfl, hg5, hv5, ho5⟩
          go_wp2_with fail
          go_roundw
          case rel => exact ⟨k + 1, _, _, by omega, by go_num, rfl, rfl, ⟨(hm.o.then_ ho4 (by intro a ha hl; simp at ha; omega)).trans ho5, hr4.only ho5 (by simp), by rw [ez]; exact hz4.only ho5 (by simp), by rw [ev]; exact hv5, by omega, q2, by omega⟩⟩
          case measure => simp [intOf]; omega
    · obtain rfl : k = 128 := by omega
      go_wp2_with fail
      go_ret
      exact ⟨_, rfl, by have := hm.hz; omega, hm.z, hm.o⟩
end Go.Proofs.YtkfagcpboehjjaaDoor
