/-
  A product modulo the prime. No condition.
-/
import Derived.Test.YtiegapnfbeemcaaGreatDoorA03
namespace Go.Proofs.YtiegapnfbeemcaaGreatDoor
set_option maxRecDepth 100000
open Go.RowKit

def foldsL : List Int := [1, 0, -1, 1, 0, 0, 0, 1, 1, 1, -1, 0, 1, 0, 0, 1, 1, 1, 0, 0, 0, 1, 0, 1, 1, 1, 0, 1, 0, 0, 1, 1, 1, 1, 0, 1, 1, 0, 0, 2, 2, 1, -1, 2, 1, 1, 0, 2, 2, 2, -1, 1, 2, 1, 1, 2, 2, 2, 0, 1, 1, 2, 1, 3]
def fo (k : Nat) : Int := foldsL.getD k 0
theorem fo_all : ((List.range 64).all fun k => decide (-1 ≤ fo k ∧ fo k ≤ 3)) = true := by kernel_rfl
theorem fo_le (k : Nat) (h : k < 64) : -1 ≤ fo k ∧ fo k ≤ 3 := of_decide_eq_true (List.all_eq_true.1 fo_all k (List.mem_range.2 h))

theorem folds_any (w : World) : Calls Tryz.prog 55 #[] w fun e w' => e = .returned (.pointer (some ⟨w.heap.size, 0, none⟩)) ∧ Below w.heap.size w w' ∧ ArrK .i64 w' w.heap.size 124 64 fo := by
  go_enter Tryz.func55, Tryz.ntmps55
  go_wp2_with fail
  go_ret
  refine ⟨rfl, (Below.refl _ _).alloc (Nat.le_refl _) _, _, Blk.new w 124 _, rfl, fun j hj => ?_⟩
  have hl : j < foldsL.length := hj
  show ((foldsL.map (Value.int .i64)).toArray)[j]? = some (.int .i64 (fo j))
  rw [List.getElem?_toArray, List.getElem?_map, List.getElem?_eq_getElem hl]
  unfold fo
  rw [List.getD_eq_getElem?_getD, List.getElem?_eq_getElem hl]
  rfl

/-- The memory of a product. -/
structure MM (w wr : World) (a b x : Nat → Int) : Prop where
  below : Below w.heap.size w wr
  size : w.heap.size + 1 + 1 + 1 + 1 ≤ wr.heap.size
  one : ArrU wr w.heap.size 26 8 a
  two : ArrU wr (w.heap.size + 1) 26 8 b
  res : ArrU wr (w.heap.size + 1 + 1) 26 8 (fun _ => 0)
  arr : ArrU wr (w.heap.size + 1 + 1 + 1) 90 16 x
def Z16 : Array Value := Array.replicate 16 (.int .u32 0)
theorem MM.start (w : World) (a b : Nat → Int) : MM w ((((w.alloc (.cells (c8 a) 26)).alloc (.cells (c8 b) 26)).alloc (.cells (c8 fun _ => 0) 26)).alloc (.cells Z16 90)) a b (fun _ => 0) := by
  refine ⟨((((Below.refl _ _).alloc (Nat.le_refl _) _).alloc (by simp) _).alloc (by simp; omega) _).alloc (by simp; omega) _, by simp, (((ArrU.new8 w 26 _).alloc _).alloc _).alloc _, ?_, ?_, ?_⟩
  · have := ((ArrU.new8 (w.alloc (.cells (c8 a) 26)) 26 b).alloc (.cells (c8 fun _ => 0) 26)).alloc (.cells Z16 90)
    simpa using this
  · have := (ArrU.new8 ((w.alloc (.cells (c8 a) 26)).alloc (.cells (c8 b) 26)) 26 (fun _ => 0)).alloc (.cells Z16 90)
    simpa using this
  · have := Blk.new (((w.alloc (.cells (c8 a) 26)).alloc (.cells (c8 b) 26)).alloc (.cells (c8 fun _ => 0) 26)) 90 Z16
    refine ⟨Z16, by simpa using this, by simp [Z16], fun j hj => by simp [Z16, hj]⟩
theorem MM.drewN {w wr : World} {a b x : Nat → Int} (h : MM w wr a b x) (n : Nat) : MM w (wr.drewN n) a b x := ⟨below_drewN h.below n, h.size, h.one, h.two, h.res, h.arr⟩
theorem MM.set_ {w wr : World} {a b x x' : Nat → Int} (h : MM w wr a b x) (i : Nat) (v : Int) (he : ∀ j, j < 16 → x' j = if j = i then v else x j) : MM w (wr.setCell ⟨w.heap.size + 1 + 1 + 1, i, none⟩ (.int .u32 v)) a b x' :=
  ⟨h.below.setCell (by simp; omega) _, by have := h.size; simpa [World.setCell] using this, h.one.far (by simp; omega) _, h.two.far (by simp) _, h.res.far (by simp) _, h.arr.set_ i v he⟩
def U16 (x : Nat → Int) : Prop := ∀ j, j < 16 → U32 (x j)
theorem U16.set_ {x : Nat → Int} (h : U16 x) (i : Nat) {v : Int} (hv : U32 v) : U16 (fun j => if j = i then v else x j) := fun j hj => by
  show U32 (if j = i then v else x j)
  split
  · exact hv
  · exact h j hj

theorem zero90 (w : World) : (zeroValue 90).run Tryz.prog w = .ok (.agg Z16) w := by kernel_rfl

def Z8i : Array Value := Array.replicate 8 (.int .i64 0)
theorem zero91 (w : World) : (zeroValue 91).run Tryz.prog w = .ok (.agg Z8i) w := by kernel_rfl

theorem u64_range (n : Int) : 0 ≤ IntKind.u64.wrap n ∧ IntKind.u64.wrap n ≤ 18446744073709551615 := by
  simp [IntKind.wrap, IntKind.bits, IntKind.signed]; omega
/-- The product digit by digit, as it is reckoned: round m of row k. -/
def mulI (a b : Nat → Int) (k : Nat) (x : Nat → Int) : Nat → Int × (Nat → Int)
  | 0 => (0, x)
  | m + 1 =>
    (IntKind.u64.wrap ((mulI a b k x m).1 + IntKind.u64.wrap (IntKind.u64.wrap (a k * b m) + (mulI a b k x m).2 (k + m))) / 4294967296,
     fun j => if j = k + m then IntKind.u64.wrap ((mulI a b k x m).1 + IntKind.u64.wrap (IntKind.u64.wrap (a k * b m) + (mulI a b k x m).2 (k + m))) % 4294967296 else (mulI a b k x m).2 j)
def mulX (a b : Nat → Int) : Nat → Nat → Int
  | 0 => fun _ => 0
  | k + 1 => fun j => if j = k + 8 then (mulI a b k (mulX a b k) 8).1 else (mulI a b k (mulX a b k) 8).2 j
/-- What goes over is folded back. -/
def mulD (x : Nat → Int) : Nat → Nat → Int
  | 0 => x
  | k + 1 => fun j => mulD x k j + x (8 + k) * fo (k * 8 + j)
def mulF (a b : Nat → Int) : Nat → Int := setF (mulD (mulX a b 8) 8)
theorem mulF_uu (a b : Nat → Int) : UU (mulF a b) := setF_uu _
theorem mulI_le (a b : Nat → Int) (k : Nat) {x : Nat → Int} (hx : U16 x) : ∀ m, (0 ≤ (mulI a b k x m).1 ∧ (mulI a b k x m).1 ≤ 4294967295) ∧ U16 (mulI a b k x m).2
  | 0 => ⟨⟨by simp [mulI], by simp [mulI]⟩, hx⟩
  | m + 1 => by
    have ih := mulI_le a b k hx m
    have h := u64_range ((mulI a b k x m).1 + IntKind.u64.wrap (IntKind.u64.wrap (a k * b m) + (mulI a b k x m).2 (k + m)))
    refine ⟨⟨?_, ?_⟩, ih.2.set_ (k + m) ?_⟩
    · simp only [mulI]; omega
    · simp only [mulI]; omega
    · unfold U32; omega
theorem mulX_le (a b : Nat → Int) : ∀ k, U16 (mulX a b k)
  | 0 => fun _ _ => by simp [mulX, U32]
  | k + 1 => (mulI_le a b k (mulX_le a b k) 8).2.set_ (k + 8) (mulI_le a b k (mulX_le a b k) 8).1

theorem mulD_le {x : Nat → Int} (hx : U16 x) : ∀ k : Nat, k ≤ 8 → ∀ j, j < 8 → 0 - (k : Int) * 12884901885 - 4294967295 ≤ mulD x k j ∧ mulD x k j ≤ 4294967295 + (k : Int) * 12884901885
  | 0, _, j, hj => by
    have := hx j (by omega)
    unfold U32 at this
    simp only [mulD]
    omega
  | k + 1, hk, j, hj => by
    have ih := mulD_le hx k (by omega) j hj
    have h1 := hx (8 + k) (by omega)
    have h2 := fo_le (k * 8 + j) (by omega)
    unfold U32 at h1
    simp only [mulD]
    have h5 : fo (k * 8 + j) = -1 ∨ fo (k * 8 + j) = 0 ∨ fo (k * 8 + j) = 1 ∨ fo (k * 8 + j) = 2 ∨ fo (k * 8 + j) = 3 := by omega
    rcases h5 with h5 | h5 | h5 | h5 | h5 <;> rw [h5] <;> omega
theorem mulD_zero {x : Nat → Int} (k : Nat) (h : x (8 + k) = 0) : mulD x (k + 1) = mulD x k := by
  funext j
  simp only [mulD, h]
  omega

set_option maxHeartbeats 4000000 in
theorem mulp_any (a b : Nat → Int) (w : World) (ha : UU a) (hb : UU b) : Calls Tryz.prog 32 #[N8 a, N8 b] w fun e w' => e = .returned (N8 (mulF a b)) ∧ Below w.heap.size w w' := by
  have hz := zero90
  go_enter Tryz.func32, Tryz.ntmps32
  go_wp2_with fail
  clear hz
  go_loopw [17] (fun i wr => ∃ k : Nat, k ≤ 8 ∧ i = .int .i64 k ∧ MM w wr a b (mulX a b k)) (fun i _ => 8 - (intOf i).toNat)
  case atStart => exact ⟨0, by omega, rfl, MM.start w a b⟩
  case round =>
    obtain ⟨k, hk, rfl, hm⟩ := hrel
    by_cases hlt : k < 8
    · have h1 := hm.one.cell hlt
      have u1 := ha k hlt
      unfold U32 at u1
      have l1 : (k : Int) < 8 := by omega
      obtain ⟨wo, rfl⟩ : ∃ wo : World, wo = wr := ⟨_, rfl⟩
      go_wp2_with fail
      go_loopw [7, 24] (fun c i wr => ∃ m : Nat, m ≤ 8 ∧ i = .int .i64 m ∧ c = .int .u64 (mulI a b k (mulX a b k) m).1 ∧ MM w wr a b (mulI a b k (mulX a b k) m).2) (fun _ i _ => 8 - (intOf i).toNat)
      case atStart => exact ⟨0, by omega, rfl, rfl, hm⟩
      case round =>
        clear hm h1
        obtain ⟨m, hm8, rfl, rfl, hm⟩ := hrel
        have hle := mulI_le a b k (mulX_le a b k) m
        obtain ⟨⟨c0, c1⟩, hx⟩ := hle
        have hlast : Hid (m = 8 → ∀ j, mulX a b (k + 1) j = if j = k + 8 then (mulI a b k (mulX a b k) m).1 else (mulI a b k (mulX a b k) m).2 j) := fun h j => by rw [h]; rfl
        have hnext : Hid (mulI a b k (mulX a b k) (m + 1) = (IntKind.u64.wrap ((mulI a b k (mulX a b k) m).1 + IntKind.u64.wrap (IntKind.u64.wrap (a k * b m) + (mulI a b k (mulX a b k) m).2 (k + m))) / 4294967296,
          fun j => if j = k + m then IntKind.u64.wrap ((mulI a b k (mulX a b k) m).1 + IntKind.u64.wrap (IntKind.u64.wrap (a k * b m) + (mulI a b k (mulX a b k) m).2 (k + m))) % 4294967296 else (mulI a b k (mulX a b k) m).2 j)) := rfl
        generalize hgx : (mulI a b k (mulX a b k) m).2 = x at *
        generalize hgc : (mulI a b k (mulX a b k) m).1 = cc at *
        clear hgx hgc
        by_cases hlt2 : m < 8
        · have h2 := hm.two.cell hlt2
          have u2 := hb m hlt2
          have h3 := hm.arr.cell (j := k + m) (by omega)
          have u3 := hx (k + m) (by omega)
          have f3 := hm.arr.frozen (k + m)
          unfold U32 at u2 u3
          have l2 : (m : Int) < 8 := by omega
          have l3 : (k : Int) + (m : Int) < 16 := by omega
          have l4 : (0 : Int) ≤ (k : Int) + (m : Int) := by omega
          have e1 : IntKind.i64.wrap ((k : Int) + (m : Int)) = (k : Int) + (m : Int) := IntWalk.i64_in _ (by omega)
          have e2 : ((k : Int) + (m : Int)).toNat = k + m := by omega
          go_wp2_with fail
          go_quiet (fail)
          go_wp2_with fail
          go_roundw
          case rel =>
            refine ⟨m + 1, by omega, by go_num, ?_, ?_⟩
            · rw [hnext.out]
            · rw [hnext.out]; exact (hm.drewN nq).set_ (k + m) _ (fun _ _ => rfl)
          case measure => simp [intOf]; omega
        · obtain rfl : m = 8 := by omega
          have h3 := hm.arr.cell (j := k + 8) (by omega)
          have f3 := hm.arr.frozen (k + 8)
          have l3 : (k : Int) + 8 < 16 := by omega
          have l4 : (0 : Int) ≤ (k : Int) + 8 := by omega
          have e1 : IntKind.i64.wrap ((k : Int) + 8) = (k : Int) + 8 := IntWalk.i64_in _ (by omega)
          have e2 : ((k : Int) + 8).toNat = k + 8 := by omega
          go_wp2_with fail
          go_roundw
          case rel =>
            exact ⟨k + 1, by omega, by go_num, hm.set_ (k + 8) _ (fun j _ => hlast.out rfl j)⟩
          case measure => simp [intOf]; omega
    · obtain rfl : k = 8 := by omega
      have hx := mulX_le a b 8
      have hres : Hid (mulF a b = setF (mulD (mulX a b 8) 8)) := rfl
      generalize hgx : mulX a b 8 = x at *
      clear hgx
      obtain ⟨wj, rfl⟩ : ∃ wj : World, wj = wr := ⟨_, rfl⟩
      have hsz := hm.size
      have hzz := zero91
      go_wp2_with fail
      clear hzz
      have D0 : ArrK .i64 (wj.alloc (.cells Z8i 91)) wj.heap.size 91 8 (fun _ => 0) := ⟨Z8i, Blk.new wj 91 _, by simp [Z8i], fun j hj => by simp [Z8i, hj]⟩
      have M0 : MM w (wj.alloc (.cells Z8i 91)) a b x := ⟨hm.below.alloc (by omega) _, by simp; omega, hm.one.alloc _, hm.two.alloc _, hm.res.alloc _, hm.arr.alloc _⟩
      clear hm
      go_loopw [57] (fun i wr => ∃ k : Nat, k ≤ 8 ∧ i = .int .i64 k ∧ MM w wr a b x ∧ ArrK .i64 wr wj.heap.size 91 8 (fun j => if j < k then x j else 0)) (fun i _ => 8 - (intOf i).toNat)
      case atStart => exact ⟨0, by omega, rfl, M0, D0.congr fun j _ => by simp⟩
      case round =>
        clear M0 D0
        obtain ⟨k, hk, rfl, hm, hd⟩ := hrel
        by_cases hlt : k < 8
        · have h3 := hm.arr.cell (j := k) (by omega)
          have u3 := hx k (by omega)
          have h4 := hd.cell hlt
          have f4 := hd.frozen k
          unfold U32 at u3
          have l1 : (k : Int) < 8 := by omega
          have l2 : (k : Int) < 16 := by omega
          go_wp2_with fail
          go_roundw
          case rel =>
            exact ⟨k + 1, by omega, by go_num, ⟨hm.below.setCell (by show w.heap.size ≤ wj.heap.size; omega) _, by have := hm.size; simpa [World.setCell] using this, hm.one.far (by simp; omega) _, hm.two.far (by simp; omega) _, hm.res.far (by simp; omega) _, hm.arr.far (by simp; omega) _⟩, hd.set_ k _ (fun j _ => upto_step x rfl j)⟩
          case measure => simp [intOf]; omega
        · obtain rfl : k = 8 := by omega
          obtain ⟨wk, rfl⟩ : ∃ wk : World, wk = wr := ⟨_, rfl⟩
          go_wp2_with fail
          refine (folds_any _).mono ?_
          rintro e wl ⟨rfl, hBl, hF⟩
          have hdl := hd.lt
          replace hd := hd.congr (f' := mulD x 0) fun j hj => if_pos hj
          have M1 : MM w wl a b x := ⟨hm.below.trans (hBl.mono hm.below.size), by have := hm.size; have := hBl.size; omega, hm.one.down hBl, hm.two.down hBl, hm.res.down hBl, hm.arr.down hBl⟩
          have D1 := hd.down hBl
          have hn1 : ¬ (wj.heap.size = wk.heap.size) := by omega
          have hsl := hF.lt
          clear hd hm hBl
          have hDle := mulD_le hx
          have HDL := Lib.hid hDle
          clear hDle
          go_wp2_with fail
          go_loopw [68] (fun i wr => ∃ k : Nat, k ≤ 8 ∧ i = .int .i64 k ∧ MM w wr a b x ∧ ArrK .i64 wr wj.heap.size 91 8 (mulD x k) ∧ ArrK .i64 wr wk.heap.size 124 64 fo) (fun i _ => 8 - (intOf i).toNat)
          case atStart => exact ⟨0, by omega, rfl, M1, D1, hF⟩
          case round =>
            clear M1 D1 hF
            obtain ⟨k, hk, rfl, hm, hd, hF⟩ := hrel
            by_cases hlt : k < 8
            · have h3 := hm.arr.cell (j := 8 + k) (by omega)
              have u3 := hx (8 + k) (by omega)
              unfold U32 at u3
              have l1 : (k : Int) < 8 := by omega
              have l3 : 8 + (k : Int) < 16 := by omega
              have l4 : (0 : Int) ≤ 8 + (k : Int) := by omega
              have e1 : IntKind.i64.wrap (8 + (k : Int)) = 8 + (k : Int) := IntWalk.i64_in _ (by omega)
              have e2 : (8 + (k : Int)).toNat = 8 + k := by omega
              by_cases h0 : x (8 + k) = 0
              · rw [h0] at h3
                have hsame := Lib.hid (mulD_zero k h0)
                clear h0 u3
                go_wp2_with fail
                go_roundw
                case rel => exact ⟨k + 1, by omega, by go_num, hm, by rw [hsame.out]; exact hd, hF⟩
                case measure => simp [intOf]; omega
              · have hx0 : (x (8 + k) == 0) = false := by simpa using h0
                obtain ⟨wm, rfl⟩ : ∃ wm : World, wm = wr := ⟨_, rfl⟩
                go_wp2_with fail
                go_loopw [82] (fun i wr => ∃ m : Nat, m ≤ 8 ∧ i = .int .i64 m ∧ MM w wr a b x ∧ ArrK .i64 wr wj.heap.size 91 8 (fun j => if j < m then mulD x (k + 1) j else mulD x k j) ∧ ArrK .i64 wr wk.heap.size 124 64 fo) (fun i _ => 8 - (intOf i).toNat)
                case atStart => exact ⟨0, by omega, rfl, hm, hd.congr fun j _ => by simp, hF⟩
                case round =>
                  clear hm hd hF h3 hx0
                  obtain ⟨m, hm8, rfl, hm, hd, hF⟩ := hrel
                  by_cases hlt2 : m < 8
                  · have d1 := hd.cell hlt2
                    have z1 := hd.frozen m
                    have g1 := hF.cell (j := k * 8 + m) (by omega)
                    have gb := fo_le (k * 8 + m) (by omega)
                    simp only [Nat.lt_irrefl, if_false] at d1
                    have db := HDL.out k (by omega) m hlt2
                    have hnx := Lib.hid (show mulD x (k + 1) m = mulD x k m + x (8 + k) * fo (k * 8 + m) from rfl)
                    generalize hdd : mulD x k m = Dm at *
                    have HDD := Lib.hid hdd
                    clear hdd
                    have l2 : (m : Int) < 8 := by omega
                    have hpb : -4294967295 ≤ x (8 + k) * fo (k * 8 + m) ∧ x (8 + k) * fo (k * 8 + m) ≤ 12884901885 := by
                      have h5 : fo (k * 8 + m) = -1 ∨ fo (k * 8 + m) = 0 ∨ fo (k * 8 + m) = 1 ∨ fo (k * 8 + m) = 2 ∨ fo (k * 8 + m) = 3 := by omega
                      rcases h5 with h5 | h5 | h5 | h5 | h5 <;> rw [h5] <;> omega
                    have e3 : IntKind.i64.wrap (x (8 + k) * fo (k * 8 + m)) = x (8 + k) * fo (k * 8 + m) := IntWalk.i64_in _ (by omega)
                    have e4 : IntKind.i64.wrap (Dm + x (8 + k) * fo (k * 8 + m)) = Dm + x (8 + k) * fo (k * 8 + m) := IntWalk.i64_in _ (by omega)
                    go_wp2_with fail
                    refine region_quiet_tail 12 (by kernel_rfl) (by kernel_rfl) ?_
                    simp only [List.take_succ_cons, List.take_zero, List.drop_succ_cons, List.drop_zero]
                    repeat (quiet_step (fail))
                    refine wpQuiet_nil ?_
                    intro _ hw'
                    obtain ⟨nq, rfl⟩ := hw'
                    go_wp2_with fail
                    go_roundw
                    case rel =>
                      refine ⟨m + 1, by omega, by go_num, ⟨(below_drewN hm.below nq).setCell (by show w.heap.size ≤ wj.heap.size; omega) _, by have := hm.size; simpa [World.setCell] using this, (hm.one.drewN nq).far (by simp; omega) _, (hm.two.drewN nq).far (by simp; omega) _, (hm.res.drewN nq).far (by simp; omega) _, (hm.arr.drewN nq).far (by simp; omega) _⟩, (hd.drewN nq).set_ m _ (fun j hj => ?_), (hF.drewN nq).far (by simp; omega) _⟩
                      by_cases h7 : j = m
                      · subst h7; rw [if_pos (by omega), if_pos rfl, hnx.out]
                      · rw [if_neg h7]
                        by_cases h8 : j < m
                        · rw [if_pos (by omega), if_pos h8]
                        · rw [if_neg (by omega), if_neg h8]
                    case measure => simp [intOf]; omega
                  · obtain rfl : m = 8 := by omega
                    go_wp2_with fail
                    go_roundw
                    case rel => exact ⟨k + 1, by omega, by go_num, hm, hd.congr fun j hj => if_pos hj, hF⟩
                    case measure => simp [intOf]; omega
            · obtain rfl : k = 8 := by omega
              have hsm : small (mulD x 8) := fun j hj => by have := HDL.out 8 (by omega) j hj; omega
              go_wp2_with fail
              refine (settle_any wj.heap.size (mulD x 8) _ hd hsm).mono ?_
              rintro e wz ⟨rfl, hBz⟩
              have hb2 := hm.below.trans (hBz.mono (by omega))
              have hr := hm.res.below hBz (by omega)
              clear hm hd hF hBz
              have hR2 := Lib.hid (congrArg (fun f => Ending.returned (N8 f)) hres.out.symm)
              generalize setF (mulD x 8) = f at *
              obtain ⟨r0, r1, r2, r3, r4, r5, r6, r7⟩ := hr.eight
              obtain ⟨f0, f1, f2, f3, f4, f5, f6, f7⟩ := hr.free8
              obtain ⟨k0, k1, k2, k3, k4, k5, k6, k7⟩ := (hr.put8 f).eight
              simp only [put8] at k0 k1 k2 k3 k4 k5 k6 k7
              go_wp2_with fail
              refine bodyPost_ret (v := N8 f) ?_ rfl ⟨hR2.out, put8_below hb2 (by omega) f⟩
              simp [results, Tryz.results32, go_sem, k0, k1, k2, k3, k4, k5, k6, k7]
end Go.Proofs.YtiegapnfbeemcaaGreatDoor
