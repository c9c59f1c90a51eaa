/-
  A number is settled below the prime. No condition.
-/
import Derived.Test.YtiegapnfbeemcaaGreatDoorA02
namespace Go.Proofs.YtiegapnfbeemcaaGreatDoor
set_option maxRecDepth 100000
open Go.RowKit

theorem and32_i64 {c : Int} : bits .and .i64 c 4294967295 = c % 4294967296 := by
  have h127 : (BitVec.ofInt 64 4294967295).toNat = 2 ^ 32 - 1 := by decide
  have key : (BitVec.ofInt 64 c &&& BitVec.ofInt 64 4294967295).toNat = (c % ((2 ^ 64 : Nat) : Int)).toNat % 2 ^ 32 := by
    rw [BitVec.toNat_and, BitVec.toNat_ofInt, h127, Nat.and_two_pow_sub_one_eq_mod]
  show IntKind.i64.wrap ((BitVec.ofInt 64 c &&& BitVec.ofInt 64 4294967295).toNat : Nat) = c % 4294967296
  rw [key, IntKind.wrap_i64]
  omega
theorem val_minus {a b : Nat → Int} : val8 (minusF a b) = val8 a - val8 b - 115792089237316195423570985008687907853269984665640564039457584007913129639936 * mc a b 8 := by
  have e0 : mc a b 1 = (mc a b 0 + (a 0 - b 0)) / 4294967296 := rfl
  have e1 : mc a b 2 = (mc a b 1 + (a 1 - b 1)) / 4294967296 := rfl
  have e2 : mc a b 3 = (mc a b 2 + (a 2 - b 2)) / 4294967296 := rfl
  have e3 : mc a b 4 = (mc a b 3 + (a 3 - b 3)) / 4294967296 := rfl
  have e4 : mc a b 5 = (mc a b 4 + (a 4 - b 4)) / 4294967296 := rfl
  have e5 : mc a b 6 = (mc a b 5 + (a 5 - b 5)) / 4294967296 := rfl
  have e6 : mc a b 7 = (mc a b 6 + (a 6 - b 6)) / 4294967296 := rfl
  have e7 : mc a b 8 = (mc a b 7 + (a 7 - b 7)) / 4294967296 := rfl
  have e : mc a b 0 = 0 := rfl
  unfold val8 minusF
  omega
theorem val_prime : val8 primeF = 115792089210356248756420345214020892766250353991924191454421193933289684991999 := by unfold val8; rfl
theorem minus_less {f : Nat → Int} (h : UU f) (hl : ¬ val8 f < val8 primeF) : (val8 (minusF f primeF)).toNat < (val8 f).toNat := by
  have h1 := val_uu h
  have h2 := val_uu (minusF_uu f primeF)
  have h3 := val_minus (a := f) (b := primeF)
  have h4 := val_prime
  omega

theorem far8 {wr : World} {g k : Nat} {t : TypeId} {n : Nat} {x : Nat → Int} (hk : k ≠ g) (hx : ArrU wr k t n x) (f : Nat → Int) : ArrU (put8 wr g f) k t n x :=
  (((((((hx.far (p := ⟨g, 0, none⟩) hk _).far (p := ⟨g, 1, none⟩) hk _).far (p := ⟨g, 2, none⟩) hk _).far (p := ⟨g, 3, none⟩) hk _).far (p := ⟨g, 4, none⟩) hk _).far (p := ⟨g, 5, none⟩) hk _).far (p := ⟨g, 6, none⟩) hk _).far (p := ⟨g, 7, none⟩) hk _

/-- The cell of block g at i, as an integer. -/
def rd (w : World) (g i : Nat) : Int := match w.cell? ⟨g, i, none⟩ with | some (.int _ x) => x | _ => 0
theorem ArrK.rd {q : IntKind} {w : World} {g n : Nat} {t : TypeId} {f : Nat → Int} (h : ArrK q w g t n f) {j : Nat} (hj : j < n) : rd w g j = f j := by
  unfold YtiegapnfbeemcaaGreatDoor.rd
  rw [h.cell hj]
theorem ArrU.rd {w : World} {g n : Nat} {t : TypeId} {f : Nat → Int} (h : ArrU w g t n f) {j : Nat} (hj : j < n) : rd w g j = f j := by
  unfold YtiegapnfbeemcaaGreatDoor.rd
  rw [h.cell hj]
theorem val8_congr {f f' : Nat → Int} (h : ∀ j, j < 8 → f j = f' j) : val8 f = val8 f' := by
  unfold val8
  rw [h 0 (by omega), h 1 (by omega), h 2 (by omega), h 3 (by omega), h 4 (by omega), h 5 (by omega), h 6 (by omega), h 7 (by omega)]

structure SM (w wr : World) (g : Nat) (D : Nat → Int) : Prop where
  below : Below g w wr
  size : w.heap.size + 1 ≤ wr.heap.size
  res : ArrU wr w.heap.size 26 8 (fun _ => 0)
  arr : ArrK .i64 wr g 91 8 D
theorem SM.drewN {w wr : World} {g : Nat} {D : Nat → Int} (h : SM w wr g D) (n : Nat) : SM w (wr.drewN n) g D := ⟨below_drewN h.below n, h.size, h.res, h.arr⟩
theorem SM.set_ {w wr : World} {g : Nat} {D D' : Nat → Int} (h : SM w wr g D) (hg : g < w.heap.size) (i : Nat) (x : Int) (he : ∀ j, j < 8 → D' j = if j = i then x else D j) : SM w (wr.setCell ⟨g, i, none⟩ (.int .i64 x)) g D' :=
  ⟨h.below.setCell (Nat.le_refl _) _, by have := h.size; simpa [World.setCell] using this, h.res.far (by simp; omega) _, h.arr.set_ i x he⟩

/-- The digits of a number. -/
def dg8 (v : Int) (j : Nat) : Int := v / 4294967296 ^ j % 4294967296
theorem dg8_uu (v : Int) : UU (dg8 v) := fun j _ => by unfold dg8 U32; omega
theorem dg8_val {f : Nat → Int} (h : UU f) (j : Nat) (hj : j < 8) : f j = dg8 (val8 f) j := by
  have := h.all
  have h8 : j = 0 ∨ j = 1 ∨ j = 2 ∨ j = 3 ∨ j = 4 ∨ j = 5 ∨ j = 6 ∨ j = 7 := by omega
  unfold dg8 val8
  rcases h8 with rfl | rfl | rfl | rfl | rfl | rfl | rfl | rfl <;> simp only [Int.pow_zero, Int.pow_succ] <;> omega
theorem N8_congr {f f' : Nat → Int} (h : ∀ j, j < 8 → f j = f' j) : N8 f = N8 f' := by
  unfold N8 c8
  rw [h 0 (by omega), h 1 (by omega), h 2 (by omega), h 3 (by omega), h 4 (by omega), h 5 (by omega), h 6 (by omega), h 7 (by omega)]
def PP : Int := 115792089210356248756420345214020892766250353991924191454421193933289684991999
/-- What a row of digits is by the prime. -/
def setF (D : Nat → Int) : Nat → Int := dg8 (val8 D % PP)
theorem setF_uu (D : Nat → Int) : UU (setF D) := dg8_uu _
theorem nx_mod (D : Nat → Int) : val8 (nx D) % PP = val8 D % PP := by
  have h1 := val_split D
  have h2 := val_nx D
  have h3 : val8 (nx D) = val8 D + PP * (- sc D 8) := by unfold PP; omega
  rw [h3, Int.add_mul_emod_self_left]
theorem se_mod {D : Nat → Int} (h : sc D 8 = 0) : val8 (se D) % PP = val8 D % PP := by
  have h1 := val_split D
  rw [h, Int.mul_zero, Int.add_zero] at h1
  rw [h1]
theorem minus_mod {f : Nat → Int} (h : UU f) (hl : ¬ val8 f < val8 primeF) : val8 (minusF f primeF) % PP = val8 f % PP := by
  have h1 := val_uu h
  have h2 := val_uu (minusF_uu f primeF)
  have h3 := val_minus (a := f) (b := primeF)
  have h4 := val_prime
  have h5 : val8 (minusF f primeF) = val8 f + PP * (-1) := by unfold PP; omega
  rw [h5, Int.add_mul_emod_self_left]
theorem set_end {f : Nat → Int} {v : Int} (h : UU f) (hl : val8 f < val8 primeF) (hv : val8 f % PP = v) : N8 f = N8 (dg8 v) := by
  have h1 := val_uu h
  have h4 := val_prime
  have h5 : val8 f = v := by rw [← hv]; unfold PP; omega
  exact N8_congr fun j hj => by rw [dg8_val h j hj, h5]

set_option maxHeartbeats 4000000 in
theorem settle_any (g : Nat) (D : Nat → Int) (w : World) (hD : ArrK .i64 w g 91 8 D) (hs : small D) :
    Calls Tryz.prog 56 #[.pointer (some ⟨g, 0, none⟩)] w fun e w' => e = .returned (N8 (setF D)) ∧ Below g w w' := by
  unfold setF
  obtain ⟨V, hV⟩ : ∃ V, V = val8 D % PP := ⟨_, rfl⟩
  rw [← hV]
  have HV0 := Lib.hid hV
  clear hV
  have hg := hD.lt
  have hS : SM w (w.alloc (.cells (c8 fun _ => 0) 26)) g D := ⟨(Below.refl _ _).alloc (by omega) _, by simp, ArrU.new8 w 26 _, hD.alloc _⟩
  go_enter Tryz.func56, Tryz.ntmps56
  go_wp2_with fail
  go_loopw [3] (fun _ wr => ∃ D, SM w wr g D ∧ small D ∧ Hid (val8 D % PP = V)) (fun _ wr => stg (val8 (rd wr g)))
  case atStart => exact ⟨D, hS, hs, HV0.out.symm⟩
  case round =>
    clear hS hs hD HV0 D
    obtain ⟨D, hS, hs, hV⟩ := hrel
    obtain ⟨wo, hwo⟩ : ∃ wo : World, wo = wr := ⟨_, rfl⟩
    have hval : val8 (rd wr g) = val8 D := val8_congr fun j hj => hS.arr.rd hj
    have HV := Lib.hid hval
    clear hval
    go_wp2_with fail
    go_loopw [3, 8] (fun c i w2 => ∃ k : Nat, k ≤ 8 ∧ i = .int .i64 k ∧ c = .int .i64 (sc D k) ∧ SM w w2 g (fun j => if j < k then se D j else D j)) (fun _ i _ => 8 - (intOf i).toNat)
    case atStart => exact ⟨0, by omega, rfl, rfl, hS.below, hS.size, hS.res, hS.arr.congr fun j _ => by simp⟩
    case round =>
      obtain ⟨k, hk, rfl, rfl, hm⟩ := hrel
      have hp := sc_le hs k hk
      by_cases hlt : k < 8
      · have h1 := hm.arr.cell hlt
        simp only [Nat.lt_irrefl, if_false] at h1
        have f1 := hm.arr.frozen k
        have u1 := hs k hlt
        have l1 : (k : Int) < 8 := by omega
        have e1 : IntKind.i64.wrap (sc D k + D k) = sc D k + D k := IntWalk.i64_in _ (by omega)
        have e2 := and32_i64 (c := sc D k + D k)
        go_wp2_with fail
        go_roundw
        case rel =>
          refine ⟨k + 1, by omega, by go_num, rfl, hm.set_ hg k _ fun j hj => ?_⟩
          by_cases h : j = k
          · subst h; rw [if_pos (by omega), if_pos rfl]; rfl
          · rw [if_neg h]
            by_cases h2 : j < k
            · rw [if_pos (by omega), if_pos h2]
            · rw [if_neg (by omega), if_neg h2]
        case measure => simp [intOf]; omega
      · obtain rfl : k = 8 := by omega
        have harr := hm.arr.congr (f' := se D) fun j hj => if_pos hj
        by_cases hc : sc D 8 = 0
        · rw [hc]
          have hV1 := Lib.hid ((se_mod hc).trans hV.out)
          clear hp hc hV
          obtain ⟨wi, rfl⟩ : ∃ wi : World, wi = wr := ⟨_, rfl⟩
          have S0 : SM w (wi.alloc (.cells (c8 fun _ => 0) 26)) g (se D) := ⟨hm.below.alloc (by have := hm.size; omega) _, by have := hm.size; simp; omega, hm.res.alloc _, harr.alloc _⟩
          have O0 := ArrU.new8 wi 26 (fun _ => 0)
          have hwi := hm.size
          clear hm harr
          go_wp2_with fail
          go_loopw [61] (fun i w3 => ∃ k : Nat, k ≤ 8 ∧ i = .int .i64 k ∧ SM w w3 g (se D) ∧ ArrU w3 wi.heap.size 26 8 (fun j => if j < k then se D j else 0)) (fun i _ => 8 - (intOf i).toNat)
          case atStart => exact ⟨0, by omega, rfl, S0, O0.congr fun j _ => by simp⟩
          case round =>
            clear S0 O0
            obtain ⟨k, hk, rfl, hm, ho⟩ := hrel
            by_cases hlt : k < 8
            · have h1 := hm.arr.cell hlt
              have o1 := ho.cell hlt
              have z1 := ho.frozen k
              have u1 := se_uu D k hlt
              unfold U32 at u1
              have l1 : (k : Int) < 8 := by omega
              go_wp2_with fail
              go_roundw
              case rel =>
                refine ⟨k + 1, by omega, by go_num, ⟨hm.below.setCell (by show g ≤ wi.heap.size; omega) _, by have := hm.size; simpa [World.setCell] using this, hm.res.far (by simp; omega) _, hm.arr.far (by simp; omega) _⟩, ho.set_ k _ fun j hj => upto_step (se D) rfl j⟩
              case measure => simp [intOf]; omega
            · obtain rfl : k = 8 := by omega
              have ho' := ho.congr (f' := se D) fun j hj => if_pos hj
              clear ho
              obtain ⟨wj, rfl⟩ : ∃ wj : World, wj = wr := ⟨_, rfl⟩
              go_wp2_with fail
              refine (prime_any _).mono ?_
              rintro e w4 ⟨rfl, hB4⟩
              have hOl := ho'.lt
              have r4 := (hm.res.down hB4).alloc (.cells (c8 primeF) 26)
              have o4 := (ho'.down hB4).alloc (.cells (c8 primeF) 26)
              have p4 := ArrU.new8 w4 26 primeF
              have b4 : Below g w (w4.alloc (.cells (c8 primeF) 26)) := (hm.below.trans (hB4.mono (by omega))).alloc (by have := hB4.size; omega) _
              have hsz4 : wi.heap.size < w4.heap.size := by have := hB4.size; omega
              have U4 := se_uu D
              clear hB4 hm ho'
              go_wp2_with fail
              go_loopw [] (fun w5 => ∃ f, UU f ∧ Hid (val8 f % PP = V) ∧ Below g w w5 ∧ ArrU w5 w.heap.size 26 8 (fun _ => 0) ∧ ArrU w5 wi.heap.size 26 8 f ∧ ArrU w5 w4.heap.size 26 8 primeF) (fun w5 => (val8 (rd w5 wi.heap.size)).toNat)
              case atStart => exact ⟨_, U4, hV1, b4, r4, o4, p4⟩
              case round =>
                clear r4 o4 p4 b4 U4 hV1
                obtain ⟨f, U, hVf, hb, hr, ho, hp⟩ := hrel
                have hval := val8_congr (f := rd wr wi.heap.size) (f' := f) fun j hj => ho.rd hj
                have HV2 := Lib.hid hval
                clear hval
                obtain ⟨o0, o1, o2, o3, o4, o5, o6, o7⟩ := ho.eight
                obtain ⟨p0, p1, p2, p3, p4, p5, p6, p7⟩ := hp.eight
                go_wp2_with fail
                refine (less_any f primeF _ U primeF_uu).mono ?_
                rintro e w6 ⟨rfl, hB6⟩
                replace hr := hr.down hB6
                replace ho := ho.down hB6
                replace hp := hp.down hB6
                have hge : g ≤ wr.heap.size := by have := hb.size; omega
                replace hb := hb.trans (hB6.mono hge)
                clear hB6 o0 o1 o2 o3 o4 o5 o6 o7 p0 p1 p2 p3 p4 p5 p6 p7
                obtain ⟨o0, o1, o2, o3, o4, o5, o6, o7⟩ := ho.eight
                obtain ⟨p0, p1, p2, p3, p4, p5, p6, p7⟩ := hp.eight
                by_cases hl : val8 f < val8 primeF
                · rw [show decide (val8 f < val8 primeF) = true by simpa using hl]
                  have hend := Lib.hid (set_end U hl hVf.out)
                  clear hl
                  obtain ⟨r0, r1, r2, r3, r4, r5, r6, r7⟩ := hr.eight
                  obtain ⟨f0, f1, f2, f3, f4, f5, f6, f7⟩ := hr.free8
                  obtain ⟨k0, k1, k2, k3, k4, k5, k6, k7⟩ := (hr.put8 f).eight
                  simp only [put8] at k0 k1 k2 k3 k4 k5 k6 k7
                  go_wp2_with fail
                  refine bodyPost_ret (v := N8 f) ?_ rfl ⟨congrArg Ending.returned hend.out, put8_below hb (by omega) f⟩
                  simp [results, Tryz.results56, go_sem, k0, k1, k2, k3, k4, k5, k6, k7]
                · have hlt := Lib.hid (minus_less U hl)
                  have hVm := Lib.hid ((minus_mod U hl).trans hVf.out)
                  rw [show decide (val8 f < val8 primeF) = false by simpa using hl]
                  clear hl
                  go_wp2_with fail
                  refine (minus_any f primeF _ U primeF_uu).mono ?_
                  rintro e w7 ⟨rfl, hB7⟩
                  replace hr := hr.down hB7
                  replace ho := ho.down hB7
                  replace hp := hp.down hB7
                  have hge7 : g ≤ w6.heap.size := by have := hb.size; omega
                  replace hb := hb.trans (hB7.mono hge7)
                  clear hB7 o0 o1 o2 o3 o4 o5 o6 o7 p0 p1 p2 p3 p4 p5 p6 p7
                  obtain ⟨o0, o1, o2, o3, o4, o5, o6, o7⟩ := ho.eight
                  obtain ⟨z0, z1, z2, z3, z4, z5, z6, z7⟩ := ho.free8
                  have U2 := minusF_uu f primeF
                  generalize hy : minusF f primeF = y at *
                  clear hy
                  go_wp2_with fail
                  have ho2 := ho.put8 y
                  go_roundw
                  case rel => exact ⟨y, U2, hVm, put8_below hb (by omega) y, far8 (by omega) hr y, ho2, far8 (by omega) hp y⟩
                  case measure =>
                    have h := hlt.out
                    have hv2 := val8_congr (f := rd _ wi.heap.size) (f' := y) fun j hj => ho2.rd hj
                    rw [← hv2, ← HV2.out] at h
                    exact h
        · have hc1 : (sc D 8 == 0) = false := by simpa using hc
          have d0 := harr.cell (j := 0) (by omega)
          have d2 := harr.cell (j := 2) (by omega)
          have d3 := harr.cell (j := 3) (by omega)
          have d7 := harr.cell (j := 7) (by omega)
          have z0 := harr.frozen 0
          have z2 := harr.frozen 2
          have z3 := harr.frozen 3
          have z7 := harr.frozen 7
          have b0 := se_uu D 0 (by omega)
          have b2 := se_uu D 2 (by omega)
          have b3 := se_uu D 3 (by omega)
          have b7 := se_uu D 7 (by omega)
          unfold U32 at b0 b2 b3 b7
          have w0 : IntKind.i64.wrap (se D 0 + sc D 8) = se D 0 + sc D 8 := IntWalk.i64_in _ (by omega)
          have w2' : IntKind.i64.wrap (se D 2 - sc D 8) = se D 2 - sc D 8 := IntWalk.i64_in _ (by omega)
          have w3 : IntKind.i64.wrap (se D 3 + sc D 8) = se D 3 + sc D 8 := IntWalk.i64_in _ (by omega)
          have w7 : IntKind.i64.wrap (se D 7 + sc D 8) = se D 7 + sc D 8 := IntWalk.i64_in _ (by omega)
          go_wp2_with fail
          refine region_quiet_tail 8 (by kernel_rfl) (by kernel_rfl) ?_
          simp only [List.take_succ_cons, List.take_zero, List.drop_succ_cons, List.drop_zero]
          repeat (quiet_step (fail))
          refine wpQuiet_nil ?_
          intro _ hw'
          obtain ⟨n0, rfl⟩ := hw'
          go_wp2_with fail
          refine region_quiet_tail 8 (by kernel_rfl) (by kernel_rfl) ?_
          simp only [List.take_succ_cons, List.take_zero, List.drop_succ_cons, List.drop_zero]
          repeat (quiet_step (fail))
          refine wpQuiet_nil ?_
          intro _ hw'
          obtain ⟨n2, rfl⟩ := hw'
          go_wp2_with fail
          refine region_quiet_tail 8 (by kernel_rfl) (by kernel_rfl) ?_
          simp only [List.take_succ_cons, List.take_zero, List.drop_succ_cons, List.drop_zero]
          repeat (quiet_step (fail))
          refine wpQuiet_nil ?_
          intro _ hw'
          obtain ⟨n3, rfl⟩ := hw'
          go_wp2_with fail
          refine region_quiet_tail 8 (by kernel_rfl) (by kernel_rfl) ?_
          simp only [List.take_succ_cons, List.take_zero, List.drop_succ_cons, List.drop_zero]
          repeat (quiet_step (fail))
          refine wpQuiet_nil ?_
          intro _ hw'
          obtain ⟨n7, rfl⟩ := hw'
          go_wp2_with fail
          have S7 : SM w _ g (nx D) := (((((((SM.mk hm.below hm.size hm.res harr).drewN n0).set_ hg 0 (se D 0 + sc D 8) (D' := fun j => if j = 0 then se D 0 + sc D 8 else se D j) (fun j _ => rfl)).drewN n2).set_ hg 2 (se D 2 - sc D 8) (D' := fun j => if j = 2 then se D 2 - sc D 8 else if j = 0 then se D 0 + sc D 8 else se D j) (fun j _ => rfl)).drewN n3).set_ hg 3 (se D 3 + sc D 8)
            (D' := fun j => if j = 3 then se D 3 + sc D 8 else if j = 2 then se D 2 - sc D 8 else if j = 0 then se D 0 + sc D 8 else se D j) (fun j _ => rfl)).drewN n7 |>.set_ hg 7 (se D 7 + sc D 8) (D' := nx D) (fun j hj => by
              unfold nx
              have h8 : j = 0 ∨ j = 1 ∨ j = 2 ∨ j = 3 ∨ j = 4 ∨ j = 5 ∨ j = 6 ∨ j = 7 := by omega
              rcases h8 with rfl | rfl | rfl | rfl | rfl | rfl | rfl | rfl <;> rfl)
          go_roundw
          case rel => exact ⟨nx D, S7, nx_small hs, (nx_mod D).trans hV.out⟩
          case measure =>
            have hnew := val8_congr (f := rd _ g) (f' := nx D) fun j hj => S7.arr.rd hj
            have h := stg_nx hs hc
            rw [← hnew, ← HV.out] at h
            exact h
end Go.Proofs.YtiegapnfbeemcaaGreatDoor
