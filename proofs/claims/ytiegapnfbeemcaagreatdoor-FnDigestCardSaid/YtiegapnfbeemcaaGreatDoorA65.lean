/-
  Numbers to bytes and back. No condition.
-/
import Derived.Test.YtiegapnfbeemcaaGreatDoorA01
import Derived.Test.YtiegapnfbeemcaaGreatDoorA02
import Derived.Test.YtiegapnfbeemcaaGreatDoorA05
import Derived.Test.YtiegapnfbeemcaaGreatDoorA63
namespace Go.Proofs.YtiegapnfbeemcaaGreatDoor

def xr (x y : Int) : Int := bits .xor .u32 x y

/-- The 68 words that the 16 words of a block make. -/
def wexp (b : Nat → Int) (j : Nat) : Int :=
  if j < 16 then b j
  else bits .xor .u32 (bits .xor .u32 (pp1 (bits .xor .u32 (bits .xor .u32 (wexp b (j - 16)) (wexp b (j - 9))) (rot (wexp b (j - 3)) 15))) (rot (wexp b (j - 13)) 7)) (wexp b (j - 6))
termination_by j
decreasing_by all_goals omega

theorem wexp_low (b : Nat → Int) (j : Nat) (h : j < 16) : wexp b j = b j := by rw [wexp, if_pos h]
theorem wexp_high (b : Nat → Int) (j : Nat) (h : 16 ≤ j) :
    wexp b j = bits .xor .u32 (bits .xor .u32 (pp1 (bits .xor .u32 (bits .xor .u32 (wexp b (j - 16)) (wexp b (j - 9))) (rot (wexp b (j - 3)) 15))) (rot (wexp b (j - 13)) 7)) (wexp b (j - 6)) := by
  rw [wexp, if_neg (by omega)]

/-- The eight words of a state. -/
structure St where
  (a b c d e f g h : Int)

def St.agg (s : St) : Value := .agg #[.int .u32 s.a, .int .u32 s.b, .int .u32 s.c, .int .u32 s.d, .int .u32 s.e, .int .u32 s.f, .int .u32 s.g, .int .u32 s.h]
def St.cells (s : St) : Array Value := #[.int .u32 s.a, .int .u32 s.b, .int .u32 s.c, .int .u32 s.d, .int .u32 s.e, .int .u32 s.f, .int .u32 s.g, .int .u32 s.h]
def St.U (s : St) : Prop := U32 s.a ∧ U32 s.b ∧ U32 s.c ∧ U32 s.d ∧ U32 s.e ∧ U32 s.f ∧ U32 s.g ∧ U32 s.h
def St.start : St := ⟨1937774191, 1226093241, 388252375, 3666478592, 2842636476, 372324522, 3817729613, 2969243214⟩

def sOne (a e t : Int) (j : Nat) : Int := rot (((rot a 12 + e) % 4294967296 + rot t j) % 4294967296) 7
def tOne (ff d ss1 a x : Int) : Int := (((ff + d) % 4294967296 + bits .xor .u32 ss1 (rot a 12)) % 4294967296 + x) % 4294967296
def tTwo (gg h ss1 x : Int) : Int := (((gg + h) % 4294967296 + ss1) % 4294967296 + x) % 4294967296
def tj (j : Nat) : Int := if j < 16 then 2043430169 else 2055708042
def ffj (j : Nat) (x y z : Int) : Int := if j < 16 then xor3 x y z else maj x y z
def ggj (j : Nat) (x y z : Int) : Int := if j < 16 then xor3 x y z else cho x y z

def rnd (W : Nat → Int) (j : Nat) (s : St) : St :=
  ⟨tOne (ffj j s.a s.b s.c) s.d (sOne s.a s.e (tj j) j) s.a (bits .xor .u32 (W j) (W (j + 4))), s.a, rot s.b 9, s.c,
   pp0 (tTwo (ggj j s.e s.f s.g) s.h (sOne s.a s.e (tj j) j) (W j)), s.e, rot s.f 19, s.g⟩
def rounds (W : Nat → Int) : Nat → St → St
  | 0, s => s
  | n + 1, s => rnd W n (rounds W n s)
def St.mix (s r : St) : St :=
  ⟨bits .xor .u32 s.a r.a, bits .xor .u32 s.b r.b, bits .xor .u32 s.c r.c, bits .xor .u32 s.d r.d, bits .xor .u32 s.e r.e, bits .xor .u32 s.f r.f, bits .xor .u32 s.g r.g, bits .xor .u32 s.h r.h⟩
/-- The words of the block that begins at byte o. -/
def wordAt (l : List Int) (o j : Nat) : Int := wd (l.getD (o + 4 * j) 0) (l.getD (o + 4 * j + 1) 0) (l.getD (o + 4 * j + 2) 0) (l.getD (o + 4 * j + 3) 0)
def comp (s : St) (b : Nat → Int) : St := s.mix (rounds (wexp b) 64 s)
end Go.Proofs.YtiegapnfbeemcaaGreatDoor

namespace Go.Proofs.YtiegapnfbeemcaaGreatDoor

def bo (x : Int) : List Int := [x / 16777216, x / 65536 % 256, x / 256 % 256, x % 256]
theorem bo_length (x : Int) : (bo x).length = 4 := rfl
theorem bo_byte {x : Int} (h : 0 ≤ x ∧ x ≤ 4294967295) : ∀ y ∈ bo x, 0 ≤ y ∧ y ≤ 255 := by
  intro y hy
  simp only [bo, List.mem_cons, List.not_mem_nil, or_false] at hy
  omega
/-- How many zeros go in. -/
def zn (n : Nat) : Nat := (119 - n % 64) % 64
def pad (l : List Int) : List Int := l ++ [128] ++ List.replicate (zn l.length) 0 ++ bo ((l.length : Int) * 8 / 4294967296) ++ bo ((l.length : Int) * 8)
theorem pad_length (l : List Int) : (pad l).length = l.length + 1 + zn l.length + 8 := by simp only [pad, List.length_append, bo_length, List.length_replicate, List.length_singleton]
theorem pad_mod (l : List Int) : (pad l).length % 64 = 0 := by rw [pad_length]; unfold zn; omega
theorem pad_byte {l : List Int} (h : ∀ x ∈ l, 0 ≤ x ∧ x ≤ 255) (hn : l.length ≤ 1000000) : ∀ x ∈ pad l, 0 ≤ x ∧ x ≤ 255 := by
  intro x hx
  simp only [pad, List.mem_append, List.mem_singleton, List.mem_replicate] at hx
  rcases hx with (((hx | rfl) | ⟨_, rfl⟩) | hx) | hx
  · exact h x hx
  · omega
  · omega
  · exact bo_byte (by omega) x hx
  · exact bo_byte (by omega) x hx

theorem wexp_congr {b b' : Nat → Int} (h : ∀ j, j < 16 → b j = b' j) (j : Nat) : wexp b j = wexp b' j := by
  induction j using Nat.strongRecOn with
  | _ j ih =>
    by_cases hj : j < 16
    · rw [wexp_low _ _ hj, wexp_low _ _ hj, h j hj]
    · rw [wexp_high b _ (by omega), wexp_high b' _ (by omega), ih (j - 16) (by omega), ih (j - 9) (by omega), ih (j - 3) (by omega), ih (j - 13) (by omega), ih (j - 6) (by omega)]
theorem comp_congr (s : St) {b b' : Nat → Int} (h : ∀ j, j < 16 → b j = b' j) : comp s b = comp s b' := by
  unfold comp
  rw [show wexp b = wexp b' from funext (wexp_congr h)]
theorem wordAt_cut (p : List Int) (o j : Nat) (hj : j < 16) : wordAt ((p.drop o).take 64) 0 j = wordAt p o j := by
  have h : ∀ i, i < 64 → ((p.drop o).take 64).getD i 0 = p.getD (o + i) 0 := fun i hi => by
    rw [List.getD_eq_getElem?_getD, List.getD_eq_getElem?_getD, List.getElem?_take, if_pos hi, List.getElem?_drop]
  unfold wordAt
  rw [h _ (by omega), h _ (by omega), h _ (by omega), h _ (by omega)]
  simp only [Nat.zero_add, Nat.add_assoc]
theorem comp_cut (s : St) (p : List Int) (o : Nat) : comp s (wordAt ((p.drop o).take 64) 0) = comp s (wordAt p o) := comp_congr s fun j hj => wordAt_cut p o j hj

/-- The first k blocks, one behind the other. -/
def absorb (p : List Int) : Nat → St → St
  | 0, s => s
  | k + 1, s => comp (absorb p k s) (wordAt p (64 * k))
def outBytes (s : St) : List Int := bo s.a ++ bo s.b ++ bo s.c ++ bo s.d ++ bo s.e ++ bo s.f ++ bo s.g ++ bo s.h
/-- The hash. -/
def sm3 (l : List Int) : List Int := outBytes (absorb (pad l) ((pad l).length / 64) St.start)
theorem u32_xor (x y : Int) : U32 (bits .xor .u32 x y) := u32_bits .xor x y
theorem u32_mix (s r : St) : (s.mix r).U :=
  ⟨u32_xor s.a r.a, u32_xor s.b r.b, u32_xor s.c r.c, u32_xor s.d r.d, u32_xor s.e r.e, u32_xor s.f r.f, u32_xor s.g r.g, u32_xor s.h r.h⟩
theorem u32_start : St.start.U := by
  have h : ∀ x : Nat, x ≤ 4294967295 → U32 (x : Int) := fun x hx => ⟨by omega, by omega⟩
  exact ⟨h 1937774191 (by omega), h 1226093241 (by omega), h 388252375 (by omega), h 3666478592 (by omega), h 2842636476 (by omega), h 372324522 (by omega), h 3817729613 (by omega), h 2969243214 (by omega)⟩
theorem u32_absorb (p : List Int) (k : Nat) {s : St} (h : s.U) : (absorb p k s).U := by
  cases k with
  | zero => exact h
  | succ k => rw [absorb, comp]; exact u32_mix _ _
end Go.Proofs.YtiegapnfbeemcaaGreatDoor

namespace Go.Proofs.YtiegapnfbeemcaaGreatDoor
set_option maxRecDepth 100000
open Go.RowKit

/-- One byte more, k bytes behind it. -/
def fbStep (b : Int) (k : Nat) (st : Nat → Int) : Nat → Int := fun j => if j = k / 4 then bits .or .u32 (st j) (b * 2 ^ (8 * (k % 4)) % 4294967296) else st j
def fbL : List Int → (Nat → Int) → Nat → Int
  | [], st => st
  | b :: r, st => fbL r (fbStep b r.length st)
def fbS (p : List Int) : Nat → Nat → Int
  | 0 => fun _ => 0
  | i + 1 => fbStep (p.getD i 0) (p.length - 1 - i) (fbS p i)
theorem fbS_L (p : List Int) : ∀ i, i ≤ p.length → fbL (p.drop i) (fbS p i) = fbL p (fun _ => 0)
  | 0, _ => rfl
  | i + 1, h => by
    rw [← fbS_L p i (by omega), List.drop_eq_getElem_cons (by omega : i < p.length)]
    show _ = fbL (p.drop (i + 1)) (fbStep p[i] (p.drop (i + 1)).length (fbS p i))
    rw [List.length_drop, show p.length - (i + 1) = p.length - 1 - i by omega]
    show fbL (p.drop (i + 1)) (fbStep (p.getD i 0) (p.length - 1 - i) (fbS p i)) = _
    rw [show p.getD i 0 = p[i] by rw [List.getD_eq_getElem?_getD, List.getElem?_eq_getElem (by omega : i < p.length)]; rfl]
/-- The number of some bytes. -/
def fb (p : List Int) : Nat → Int := fbL p fun _ => 0
theorem fbS_all (p : List Int) : fbS p p.length = fb p := by
  have := fbS_L p p.length (Nat.le_refl _)
  rw [List.drop_length] at this
  exact this
theorem fbStep_zero (k : Nat) : fbStep 0 k (fun _ => 0) = fun _ => 0 := by
  funext j
  unfold fbStep
  split
  · simp [bits, IntKind.wrap, IntKind.bits, IntKind.signed]
  · rfl
/-- Zeros ahead count for nothing. -/
theorem fb_zeros (n : Nat) (p : List Int) : fb (List.replicate n 0 ++ p) = fb p := by
  induction n with
  | zero => rfl
  | succ n ih =>
    rw [List.replicate_succ, List.cons_append]
    show fbL (List.replicate n 0 ++ p) (fbStep 0 _ fun _ => 0) = _
    rw [fbStep_zero]
    exact ih
theorem fbStep_u {b : Int} {k : Nat} {st : Nat → Int} (h : UU st) : UU (fbStep b k st) := fun j hj => by
  unfold fbStep
  split
  · exact u32_bits _ _ _
  · exact h j hj
theorem fbL_u : ∀ (p : List Int) (st : Nat → Int), UU st → UU (fbL p st)
  | [], _, h => h
  | _ :: r, _, h => fbL_u r _ (fbStep_u h)
theorem fb_u (p : List Int) : UU (fb p) := fbL_u p _ fun _ _ => ⟨by omega, by omega⟩

/-- The 32 bytes of a number, the highest first. -/
def nb8 (f : Nat → Int) : List Int := bo (f 7) ++ bo (f 6) ++ bo (f 5) ++ bo (f 4) ++ bo (f 3) ++ bo (f 2) ++ bo (f 1) ++ bo (f 0)
theorem nb8_length (f : Nat → Int) : (nb8 f).length = 32 := rfl
end Go.Proofs.YtiegapnfbeemcaaGreatDoor

namespace Go.Proofs.YtiegapnfbeemcaaGreatDoor
set_option maxRecDepth 100000
open Go.RowKit

theorem reads_byte {w : World} {B n : Nat} {A : Option Addr} {p : List Int} (h : Reads w B 1 A n (p.map (Value.int .u8))) {k : Nat} (hk : k < n) : ∃ ad, A = some ad ∧ ad.block < B ∧ w.cell? (ad.add k) = some (.int .u8 (p.getD k 0)) := by
  obtain ⟨ad, u, e, hb, hu, hc⟩ := h.at_ hk
  refine ⟨ad, e, hb, ?_⟩
  have hp : p.length = n := by simpa using h.1
  rw [List.getElem?_map, List.getElem?_eq_getElem (by omega)] at hu
  rw [hc, ← hu, List.getD_eq_getElem?_getD, List.getElem?_eq_getElem (by omega)]
  rfl
theorem fb_step (p : List Int) (k m q r : Nat) (hm : p.length - 1 - k = m) (hq : q = m / 4) (hr : r = m % 4) (x : Int) (hx : x = bits .or .u32 (fbS p k q) (p.getD k 0 * 2 ^ min (8 * r) 32 % 4294967296)) (j : Nat) :
    fbS p (k + 1) j = if j = q then x else fbS p k j := by
  show fbStep (p.getD k 0) (p.length - 1 - k) (fbS p k) j = _
  unfold fbStep
  rw [hm, hx, Nat.min_eq_left (by omega), ← hq, ← hr]
  by_cases h : j = q
  · subst h; simp
  · rw [if_neg h, if_neg h]

theorem from_any (A : Option Addr) (n c : Nat) (p : List Int) (w : World) (hr : Reads w w.heap.size 1 A n (p.map (Value.int .u8))) (hp : Hid (∀ x ∈ p, 0 ≤ x ∧ x ≤ 255)) (hn : n ≤ 32) :
    Calls Tryz.prog 18 #[.slice A n c] w fun e w' => e = .returned (N8 (fb p)) ∧ Below w.heap.size w w' := by
  have hln : p.length = n := by simpa using hr.1
  have HL := Lib.hid hln
  clear hln
  go_enter Tryz.func18, Tryz.ntmps18
  go_wp2_with fail
  go_loopw [8] (fun i wr => ∃ k : Nat, k ≤ n ∧ i = .int .i64 k ∧ HM w wr (fbS p k)) (fun i _ => n - (intOf i).toNat)
  case atStart => exact ⟨0, by omega, rfl, HM.start w⟩
  case round =>
    obtain ⟨k, hk, rfl, hm⟩ := hrel
    by_cases hlt : k < n
    · obtain ⟨ad, rfl, hadb, had⟩ := reads_byte (hr.below hm.below) hlt
      have hby := hp.out (p.getD k 0) (by
        have := HL.out
        rw [List.getD_eq_getElem?_getD, List.getElem?_eq_getElem (by omega)]
        exact List.getElem_mem _)
      obtain ⟨x, hx⟩ : ∃ x, p.getD k 0 = x := ⟨_, rfl⟩
      rw [hx] at had hby
      have HX := Lib.hid hx
      clear hx
      obtain ⟨m, hmk⟩ : ∃ m, m + k + 1 = n := ⟨n - 1 - k, by omega⟩
      have hmi : (n : Int) - 1 - (k : Int) = (m : Int) := by omega
      have HMI := Lib.hid hmi
      clear hmi
      obtain ⟨q, e1, hq⟩ : ∃ q : Nat, IntKind.i64.wrap ((m : Int) / 4) = (q : Int) ∧ q = m / 4 := ⟨m / 4, by rw [IntWalk.i64_in _ (by omega)]; omega, rfl⟩
      obtain ⟨r, e2, hr4⟩ : ∃ r : Nat, (m : Int).tmod 4 = (r : Int) ∧ r = m % 4 := ⟨m % 4, by rw [Int.tmod_eq_emod_of_nonneg (by omega)]; omega, rfl⟩
      have e3 : IntKind.i64.wrap (8 * (r : Int)) = 8 * (r : Int) := IntWalk.i64_in _ (by omega)
      have e4 : (8 * (r : Int)).toNat = 8 * r := by omega
      have l1 : (q : Int) < 8 := by omega
      have l2 : (0 : Int) ≤ 8 * (r : Int) := by omega
      have l3 : ¬ (8 * (r : Int) < 0) := by omega
      have l4 : (k : Int) < n := by omega
      have ha := hm.arr.cell (j := q) (by omega)
      have hf := hm.arr.frozen q
      have hM : p.length - 1 - k = m := by have := HL.out; omega
      have HQ := Lib.hid (And.intro hM (And.intro hq hr4))
      clear hq hr4 hM hmk
      go_wp2_with fail
      refine region_quiet_tail 15 (by kernel_rfl) (by kernel_rfl) ?_
      simp only [List.take_succ_cons, List.take_zero, List.drop_succ_cons, List.drop_zero]
      rw [HMI.out]
      repeat (quiet_step (fail))
      refine wpQuiet_nil ?_
      intro _ hw'
      obtain ⟨nq, rfl⟩ := hw'
      go_wp2_with fail
      go_roundw
      case rel => exact ⟨k + 1, by omega, by go_num, (hm.drewN nq).set_ q _ fun j hj => fb_step p k m q r HQ.out.1 HQ.out.2.1 HQ.out.2.2 _ (by rw [HX.out]) j⟩
      case measure => simp [intOf]; omega
    · obtain rfl : k = n := by omega
      have hall : fbS p k = fb p := by have := fbS_all p; rw [HL.out] at this; exact this
      rw [hall] at hm
      obtain ⟨c0, c1, c2, c3, c4, c5, c6, c7⟩ := hm.arr.eight
      obtain ⟨r0, r1, r2, r3, r4, r5, r6, r7⟩ := hm.res.eight
      obtain ⟨f0, f1, f2, f3, f4, f5, f6, f7⟩ := hm.res.free8
      have hR := hm.res.put8 (fb p)
      obtain ⟨k0, k1, k2, k3, k4, k5, k6, k7⟩ := hR.eight
      simp only [put8] at k0 k1 k2 k3 k4 k5 k6 k7
      clear hR
      go_wp2_with fail
      refine bodyPost_ret (v := N8 (fb p)) ?_ rfl ⟨rfl, put8_below hm.below (Nat.le_refl _) (fb p)⟩
      simp [results, Tryz.results18, go_sem, N8, c8, k0, k1, k2, k3, k4, k5, k6, k7]
end Go.Proofs.YtiegapnfbeemcaaGreatDoor

namespace Go.Proofs.YtiegapnfbeemcaaGreatDoor
set_option maxRecDepth 100000
open Go.RowKit

section
variable {ops : Array Oper} {rest : List Oper} {o : Oper} {a : Act} {w : World} {Q : Exit → Act → World → Prop}
theorem st26 (hgd : o.guard = none) (p v : Operand) (ho : o.op = .store 26 p v) (g : Nat) (x : Nat → Int) (hx : a.eval p = .pointer (some ⟨g, 0, none⟩)) (hv : a.eval v = N8 x) (old : Array Value) (hc : Blk w g 26 old) (hs : old.size = 8)
    (h : wpList Tryz.prog ops Q rest (a.put o.dst undef) (w.setRow g (c8 x))) : wpList Tryz.prog ops Q (o :: rest) a w :=
  wpList_store_row hgd 26 p v ho g (c8 x) hx hv 26 old hc (size26.trans rfl) hs (c8_one x) h
end
theorem res26 {fn : Func} {p : Tmp} (h : fn.results = #[.cell p 26]) (tmps : Array Value) (w : World) (g : Nat) (x : Nat → Int) (hp : tmps.getD p undef = .pointer (some ⟨g, 0, none⟩)) (hg : Blk w g 26 (c8 x)) :
    (results fn tmps).run Tryz.prog w = .ok (N8 x) w := results_cell_row h tmps w g 26 _ (0, 0) _ hp hg Tryz.underlying26 rfl (size26.trans rfl)

theorem toN_any (A : Option Addr) (n c : Nat) (p : List Int) (w : World) (hr : Reads w w.heap.size 1 A n (p.map (Value.int .u8))) (hp : Hid (∀ x ∈ p, 0 ≤ x ∧ x ≤ 255)) (hn : n ≤ 32) :
    Calls Tryz.prog 6 #[.slice A n c] w fun e w' => e = .returned (N8 (fb p)) ∧ Below w.heap.size w w' := by
  go_enter Tryz.func6, Tryz.ntmps6
  have h0 := Blk.new w 26 (c8 fun _ => 0)
  have hB0 : Below w.heap.size w (w.alloc (.cells (c8 fun _ => 0) 26)) := (Below.refl _ _).alloc (Nat.le_refl _) _
  have hr0 := (hr.alloc (Nat.le_refl _) (.cells (c8 fun _ => 0) 26)).more (B' := (w.alloc (.cells (c8 fun _ => 0) 26)).heap.size) (by simp)
  go_wp2_with (first
    | (go_at_call 18; refine (from_any A n c p _ hr0 hp hn).mono ?_; rintro e w1 ⟨rfl, hB1⟩)
    | (refine st26 rfl (.tmp 2) (.tmp 4) rfl w.heap.size (fb p) rfl rfl _ (h0.down hB1) rfl ?_))
  refine bodyPost_ret (v := N8 (fb p)) (res26 rfl _ _ _ _ rfl ((h0.down hB1).setRow _)) rfl ⟨rfl, (hB0.trans (hB1.mono hB0.size)).trans (setRow_below _ _ _ (Nat.le_refl _))⟩

/-- The bytes of a text, and whether they are digits. -/
def txt (s : ByteArray) (i : Nat) : Int := ((s.data[i]?).getD 0).toNat
def digs (s : ByteArray) : Bool := (List.range 64).all fun i => decide ((48 ≤ txt s i ∧ txt s i ≤ 57) ∨ (65 ≤ txt s i ∧ txt s i ≤ 70))
def hexB (s : ByteArray) : Nat → Int := hexF (txt s) 64
theorem hexc (s : ByteArray) (w : World) (hs : s.size = 64) (hd : digs s = true) : Calls Tryz.prog 19 #[.string s] w fun e w' => e = .returned (N8 (hexB s)) ∧ Below w.heap.size w w' :=
  hex_any s (txt s) w hs (fun i h => by
    unfold txt
    rw [Array.getElem?_eq_getElem (show i < s.data.size from h)]; rfl) (fun i hi => of_decide_eq_true (List.all_eq_true.1 hd i (List.mem_range.2 hi)))

def sA : ByteArray := ⟨#[70, 70, 70, 70, 70, 70, 70, 69, 70, 70, 70, 70, 70, 70, 70, 70, 70, 70, 70, 70, 70, 70, 70, 70, 70, 70, 70, 70, 70, 70, 70, 70, 70, 70, 70, 70, 70, 70, 70, 70, 48, 48, 48, 48, 48, 48, 48, 48, 70, 70, 70, 70, 70, 70, 70, 70, 70, 70, 70, 70, 70, 70, 70, 67]⟩
def sB : ByteArray := ⟨#[50, 56, 69, 57, 70, 65, 57, 69, 57, 68, 57, 70, 53, 69, 51, 52, 52, 68, 53, 65, 57, 69, 52, 66, 67, 70, 54, 53, 48, 57, 65, 55, 70, 51, 57, 55, 56, 57, 70, 53, 49, 53, 65, 66, 56, 70, 57, 50, 68, 68, 66, 67, 66, 68, 52, 49, 52, 68, 57, 52, 48, 69, 57, 51]⟩
def sGx : ByteArray := ⟨#[51, 50, 67, 52, 65, 69, 50, 67, 49, 70, 49, 57, 56, 49, 49, 57, 53, 70, 57, 57, 48, 52, 52, 54, 54, 65, 51, 57, 67, 57, 57, 52, 56, 70, 69, 51, 48, 66, 66, 70, 70, 50, 54, 54, 48, 66, 69, 49, 55, 49, 53, 65, 52, 53, 56, 57, 51, 51, 52, 67, 55, 52, 67, 55]⟩
def sGy : ByteArray := ⟨#[66, 67, 51, 55, 51, 54, 65, 50, 70, 52, 70, 54, 55, 55, 57, 67, 53, 57, 66, 68, 67, 69, 69, 51, 54, 66, 54, 57, 50, 49, 53, 51, 68, 48, 65, 57, 56, 55, 55, 67, 67, 54, 50, 65, 52, 55, 52, 48, 48, 50, 68, 70, 51, 50, 69, 53, 50, 49, 51, 57, 70, 48, 65, 48]⟩
theorem sA_ok : sA.size = 64 ∧ digs sA = true := ⟨by kernel_rfl, by kernel_rfl⟩
theorem sB_ok : sB.size = 64 ∧ digs sB = true := ⟨by kernel_rfl, by kernel_rfl⟩
theorem sGx_ok : sGx.size = 64 ∧ digs sGx = true := ⟨by kernel_rfl, by kernel_rfl⟩
theorem sGy_ok : sGy.size = 64 ∧ digs sGy = true := ⟨by kernel_rfl, by kernel_rfl⟩
theorem a_any (w : World) : Calls Tryz.prog 20 #[] w fun e w' => e = .returned (N8 (hexB sA)) ∧ Below w.heap.size w w' := by
  have h0 := Blk.new w 26 (c8 fun _ => 0)
  have hB0 : Below w.heap.size w (w.alloc (.cells (c8 fun _ => 0) 26)) := (Below.refl _ _).alloc (Nat.le_refl _) _
  go_enter Tryz.func20, Tryz.ntmps20
  go_wp2_with (first
    | (go_at_call 19; refine (hexc sA _ sA_ok.1 sA_ok.2).mono ?_; rintro e w1 ⟨rfl, hB1⟩)
    | (refine st26 rfl (.tmp 0) (.tmp 1) rfl w.heap.size (hexB sA) rfl rfl _ (h0.down hB1) rfl ?_))
  refine bodyPost_ret (v := N8 (hexB sA)) (res26 rfl _ _ _ _ rfl ((h0.down hB1).setRow _)) rfl ⟨rfl, (hB0.trans (hB1.mono hB0.size)).trans (setRow_below _ _ _ (Nat.le_refl _))⟩
theorem b_any (w : World) : Calls Tryz.prog 21 #[] w fun e w' => e = .returned (N8 (hexB sB)) ∧ Below w.heap.size w w' := by
  have h0 := Blk.new w 26 (c8 fun _ => 0)
  have hB0 : Below w.heap.size w (w.alloc (.cells (c8 fun _ => 0) 26)) := (Below.refl _ _).alloc (Nat.le_refl _) _
  go_enter Tryz.func21, Tryz.ntmps21
  go_wp2_with (first
    | (go_at_call 19; refine (hexc sB _ sB_ok.1 sB_ok.2).mono ?_; rintro e w1 ⟨rfl, hB1⟩)
    | (refine st26 rfl (.tmp 0) (.tmp 1) rfl w.heap.size (hexB sB) rfl rfl _ (h0.down hB1) rfl ?_))
  refine bodyPost_ret (v := N8 (hexB sB)) (res26 rfl _ _ _ _ rfl ((h0.down hB1).setRow _)) rfl ⟨rfl, (hB0.trans (hB1.mono hB0.size)).trans (setRow_below _ _ _ (Nat.le_refl _))⟩
theorem base_any (w : World) : Calls Tryz.prog 7 #[] w fun e w' => e = .returned (Pt (hexB sGx) (hexB sGy) false) ∧ Below w.heap.size w w' := by
  have h0 := Blk.new w 28 (c17 zF zF false)
  have hB0 : Below w.heap.size w (w.alloc (.cells (c17 zF zF false) 28)) := (Below.refl _ _).alloc (Nat.le_refl _) _
  go_enter Tryz.func7, Tryz.ntmps7
  go_wp2_with (first
    | (have h1 := h0.down hB1; go_at_call 19; refine (hexc sGy _ sGy_ok.1 sGy_ok.2).mono ?_; rintro e w2 ⟨rfl, hB2⟩; have h2 := h1.down hB2)
    | (go_at_call 19; refine (hexc sGx _ sGx_ok.1 sGx_ok.2).mono ?_; rintro e w1 ⟨rfl, hB1⟩)
    | (refine bld28 rfl _ rfl (hexB sGx) (hexB sGy) rfl ?_)
    | (refine st28 rfl (.tmp 0) (.tmp 3) rfl w.heap.size (hexB sGx) (hexB sGy) false rfl rfl _ h2 rfl ?_))
  refine bodyPost_ret (v := Pt (hexB sGx) (hexB sGy) false) (res28 rfl _ _ _ _ _ _ rfl (h2.setRow _)) rfl ⟨rfl, ((hB0.trans (hB1.mono hB0.size)).trans (hB2.mono (Nat.le_trans hB0.size hB1.size))).trans (setRow_below _ _ _ (Nat.le_refl _))⟩

/-- The bytes of the first k words, the highest first. -/
def nbPre (f : Nat → Int) : Nat → List Int
  | 0 => []
  | k + 1 => nbPre f k ++ bo (f (7 - k))
theorem nbPre_length (f : Nat → Int) (k : Nat) : (nbPre f k).length = 4 * k := by
  induction k with
  | zero => rfl
  | succ k ih => rw [nbPre, List.length_append, ih, bo_length]; omega
theorem nbPre_all (f : Nat → Int) : nbPre f 8 = nb8 f := rfl
theorem nb8_byte {f : Nat → Int} (h : UU f) : ∀ x ∈ nb8 f, 0 ≤ x ∧ x ≤ 255 := fun x hx => by
  unfold nb8 at hx
  simp only [List.mem_append] at hx
  rcases hx with ((((((h1 | h1) | h1) | h1) | h1) | h1) | h1) | h1
  · exact bo_byte (h 7 (by omega)) x h1
  · exact bo_byte (h 6 (by omega)) x h1
  · exact bo_byte (h 5 (by omega)) x h1
  · exact bo_byte (h 4 (by omega)) x h1
  · exact bo_byte (h 3 (by omega)) x h1
  · exact bo_byte (h 2 (by omega)) x h1
  · exact bo_byte (h 1 (by omega)) x h1
  · exact bo_byte (h 0 (by omega)) x h1
theorem reads_bo' {w : World} {B : Nat} (x : Int) (hB : w.heap.size + 1 ≤ B) :
    Reads (w.alloc (.cells #[.int .u8 (x / 16777216), .int .u8 (x / 65536 % 256), .int .u8 (x / 256 % 256), .int .u8 (x % 256)] 5)) B 1 (some ⟨w.heap.size, 0, none⟩) 4 ((bo x).map (Value.int .u8)) :=
  Reads.lit w 5 #[.int .u8 (x / 16777216), .int .u8 (x / 65536 % 256), .int .u8 (x / 256 % 256), .int .u8 (x % 256)] hB
theorem nbytes8_any (f : Nat → Int) (hf : UU f) (w : World) : Calls Tryz.prog 10 #[N8 f] w (RetBytes w (nb8 f)) := by
  have hA0 := ArrU.new8 w 26 f
  have hB0 : Below w.heap.size w (w.alloc (.cells (c8 f) 26)) := (Below.refl _ _).alloc (Nat.le_refl _) _
  go_enter Tryz.func10, Tryz.ntmps10
  go_wp2_with fail
  go_loopw [3, 4] (fun v i wr => ∃ k : Nat, k ≤ 8 ∧ i = .int .i64 (7 - (k : Int)) ∧ OwnB wr (w.heap.size + 1) v (nbPre f k) ∧ ArrU wr w.heap.size 26 8 f ∧ Below w.heap.size w wr ∧ w.heap.size + 1 ≤ wr.heap.size) (fun _ i _ => (intOf i + 1).toNat)
  case atStart => exact ⟨0, by omega, by simp, World.ownsRow_nil _ _ 5 1, hA0, hB0, by simp⟩
  case round =>
    obtain ⟨k, hk, rfl, hown, harr, hbel, hsz⟩ := hrel
    obtain ⟨A, c, hv⟩ := hown.shaped
    rw [nbPre_length] at hv
    subst hv
    by_cases hlt : k < 8
    · obtain ⟨m, hmk⟩ : ∃ m, m + k = 7 := ⟨7 - k, by omega⟩
      have hmi : (7 : Int) - (k : Int) = (m : Int) := by omega
      have hm7 : 7 - k = m := by omega
      have ha := harr.cell (j := m) (by omega)
      have hfu := hf m (by omega)
      have l1 : (m : Int) < 8 := by omega
      rw [hmi]
      have HMI := Lib.hid hmi
      clear hmi
      go_wp2_with (first
        | (go_at_call 26; refine (bytesOf_any _ _ hfu).mono ?_; rintro e w1 ⟨rfl, rfl⟩)
        | (at_builtin; refine app_bytes _ rfl (.tmp 9) (.tmp 13) rfl (w.heap.size + 1) _ (nbPre f k) rfl (hown.alloc _) (wr.heap.size + 1) _ 4 4 (bo (f m)) rfl (reads_bo' _ (Nat.le_refl _)) (by rw [nbPre_length]; omega) (by simp; omega) ?_; intro v3 w3 hown3 hb3))
      go_roundw
      case rel =>
        have hs3 := hb3.size
        refine ⟨k + 1, by omega, by rw [← HMI.out]; go_num, ?_, (harr.alloc _).below hb3 (by omega), (hbel.alloc (by omega) _).trans (hb3.mono (by omega)), by simp at hs3; omega⟩
        rw [nbPre, hm7]
        exact hown3
      case measure => simp [intOf]
    · obtain rfl : k = 8 := by omega
      go_wp2_with fail
      go_ret
      rw [← nbPre_all]
      exact ⟨_, rfl, hown.lift (by omega), hbel⟩
end Go.Proofs.YtiegapnfbeemcaaGreatDoor
