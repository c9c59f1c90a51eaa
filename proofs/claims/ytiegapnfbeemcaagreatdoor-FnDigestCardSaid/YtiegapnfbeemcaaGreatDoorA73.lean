/-
  The hash as a whole, and the identity's bytes. No condition.
-/
import Derived.Test.YtiegapnfbeemcaaGreatDoorA71
import Derived.Test.YtiegapnfbeemcaaGreatDoorA72
import Derived.Test.YtiegapnfbeemcaaGreatDoorA65
import Derived.Deep.RegionHeld3
import Derived.Test.YtiegapnfbeemcaaGreatDoorA64
import Derived.Test.YtiegapnfbeemcaaGreatDoorA66
import Derived.Deep.DeepCutAuto
namespace Go.Proofs.YtiegapnfbeemcaaGreatDoor
set_option maxRecDepth 100000

theorem getD_drop (p : List Int) (o i : Nat) : (p.drop o).getD i 0 = p.getD (o + i) 0 := by
  rw [List.getD_eq_getElem?_getD, List.getD_eq_getElem?_getD, List.getElem?_drop]
theorem wordAt_drop (p : List Int) (o a j : Nat) : wordAt (p.drop o) a j = wordAt p (o + a) j := by
  unfold wordAt
  rw [getD_drop, getD_drop, getD_drop, getD_drop]
  simp only [Nat.add_assoc]
theorem absorb_add (p : List Int) (q : Nat) (s : St) : ∀ k, absorb p (q + k) s = absorb (p.drop (64 * q)) k (absorb p q s)
  | 0 => rfl
  | k + 1 => by
    rw [← Nat.add_assoc, absorb, absorb, absorb_add p q s k]
    congr 1
    funext j
    rw [wordAt_drop, Nat.mul_add]
theorem absorb_congr (p p' : List Int) (s : St) : ∀ q, (∀ i, i < 64 * q → p.getD i 0 = p'.getD i 0) → absorb p q s = absorb p' q s
  | 0, _ => rfl
  | q + 1, h => by
    rw [absorb, absorb, absorb_congr p p' s q (fun i hi => h i (by omega))]
    refine comp_congr _ fun j hj => ?_
    unfold wordAt
    rw [h _ (by omega), h _ (by omega), h _ (by omega), h _ (by omega)]

/-- The object behind so much written: its state, and what is not handled yet. -/
def stOf (t : List Int) : St := absorb t (t.length / 64) St.start
def restOf (t : List Int) : List Int := t.drop (64 * (t.length / 64))
theorem rest_length (t : List Int) : (restOf t).length < 64 := by unfold restOf; rw [List.length_drop]; omega
theorem stOf_U (t : List Int) : (stOf t).U := u32_absorb _ _ u32_start

theorem getD_append_left (a b : List Int) (i : Nat) (h : i < a.length) : (a ++ b).getD i 0 = a.getD i 0 := by
  rw [List.getD_eq_getElem?_getD, List.getD_eq_getElem?_getD, List.getElem?_append_left h]

theorem st_write (t p : List Int) : absorb (restOf t ++ p) ((restOf t ++ p).length / 64) (stOf t) = stOf (t ++ p) ∧ (restOf t ++ p).drop (64 * ((restOf t ++ p).length / 64)) = restOf (t ++ p) := by
  have hq : 64 * (t.length / 64) ≤ t.length := by omega
  have hd : (t ++ p).drop (64 * (t.length / 64)) = restOf t ++ p := by
    unfold restOf
    rw [List.drop_append_of_le_length hq]
  have hl : (t ++ p).length / 64 = t.length / 64 + (restOf t ++ p).length / 64 := by
    rw [← hd, List.length_drop, List.length_append]; omega
  constructor
  · unfold stOf
    rw [hl, absorb_add, hd]
    congr 1
    exact absorb_congr _ _ _ _ fun i hi => (getD_append_left t p i (by omega)).symm
  · rw [show restOf (t ++ p) = (t ++ p).drop (64 * ((t ++ p).length / 64)) from rfl, hl, Nat.mul_add, ← List.drop_drop, hd]

theorem zn_mod (n : Nat) : zn (n - 64 * (n / 64)) = zn n := by unfold zn; rw [show (n - 64 * (n / 64)) % 64 = n % 64 by omega]
theorem pad_split (l : List Int) : pad l = l.take (64 * (l.length / 64)) ++ padTail (restOf l) ((l.length : Int) * 8) := by
  have h : zn (restOf l).length = zn l.length := by unfold restOf; rw [List.length_drop]; exact zn_mod _
  unfold pad padTail
  rw [h]
  simp only [← List.append_assoc]
  rw [show l.take (64 * (l.length / 64)) ++ restOf l = l from List.take_append_drop _ _]
/-- The hash so far is the hash of all that was written. -/
theorem sm3_parts (l : List Int) : outBytes (absorb (padTail (restOf l) ((l.length : Int) * 8)) ((padTail (restOf l) ((l.length : Int) * 8)).length / 64) (stOf l)) = sm3 l := by
  have hq : 64 * (l.length / 64) ≤ l.length := by omega
  have ht : (l.take (64 * (l.length / 64))).length = 64 * (l.length / 64) := by rw [List.length_take]; omega
  have hd : (pad l).drop (64 * (l.length / 64)) = padTail (restOf l) ((l.length : Int) * 8) := by
    rw [pad_split, List.drop_append_of_le_length (by omega)]
    rw [show (l.take (64 * (l.length / 64))).drop (64 * (l.length / 64)) = [] from List.drop_eq_nil_of_le (by omega), List.nil_append]
  have hl : (pad l).length / 64 = l.length / 64 + (padTail (restOf l) ((l.length : Int) * 8)).length / 64 := by
    rw [pad_split, List.length_append, ht]; omega
  unfold sm3
  rw [hl, absorb_add, hd]
  congr 2
  unfold stOf
  refine absorb_congr _ _ _ _ fun i hi => ?_
  rw [pad]
  simp only [List.append_assoc]
  exact (getD_append_left l _ i (by omega)).symm
end Go.Proofs.YtiegapnfbeemcaaGreatDoor

namespace Go.Proofs.YtiegapnfbeemcaaGreatDoor
set_option maxRecDepth 100000
open Go.RowKit

theorem reset_any (base b : Nat) (s : St) (N : Int) (v : Value) (w : World) (hbb : base ≤ b) (hb : Blk w b 100 (smCells s N v)) :
    Calls Tryz.prog 61 #[.pointer (some ⟨b, 0, none⟩)] w fun e w' => e = .returned (.tuple #[]) ∧ Obj3 w' base b St.start 0 [] ∧ w.grownBy w' (some b) := by
  have c0 := hb.cell 0
  have c1 := hb.cell 1
  have c2 := hb.cell 2
  have c3 := hb.cell 3
  have c4 := hb.cell 4
  have c5 := hb.cell 5
  have c6 := hb.cell 6
  have c7 := hb.cell 7
  have c8 := hb.cell 8
  have c9 := hb.cell 9
  simp [smCells, St.cells] at c0 c1 c2 c3 c4 c5 c6 c7 c8 c9
  have z0 := hb.frozen 0
  have z1 := hb.frozen 1
  have z2 := hb.frozen 2
  have z3 := hb.frozen 3
  have z4 := hb.frozen 4
  have z5 := hb.frozen 5
  have z6 := hb.frozen 6
  have z7 := hb.frozen 7
  have z8 := hb.frozen 8
  have z9 := hb.frozen 9
  have hlt := hb.lt
  go_enter Tryz.func61, Tryz.ntmps61
  go_wp2
  go_end0
  show _ ∧ Obj3 ((((store8 w b St.start).setCell ⟨b, 8, none⟩ (.int .u64 0)).setCell ⟨b, 9, none⟩ (.slice (some ⟨w.heap.size, 0, none⟩) 0 0)).alloc (.cells #[] 5)) base b St.start 0 [] ∧ w.grownBy ((((store8 w b St.start).setCell ⟨b, 8, none⟩ (.int .u64 0)).setCell ⟨b, 9, none⟩ (.slice (some ⟨w.heap.size, 0, none⟩) 0 0)).alloc (.cells #[] 5)) (some b)
  have h1 : Blk (store8 w b St.start) b 100 (smCells St.start N v) := store8_sm hb St.start
  have h2 := h1.set_ 8 (.int .u64 0)
  rw [smCells_set8] at h2
  have h3 := h2.set_ 9 (.slice (some ⟨w.heap.size, 0, none⟩) 0 0)
  rw [smCells_set9] at h3
  have hsz : (((store8 w b St.start).setCell ⟨b, 8, none⟩ (.int .u64 0)).setCell ⟨b, 9, none⟩ (.slice (some ⟨w.heap.size, 0, none⟩) 0 0)).heap.size = w.heap.size := by
    have := store8_size w b St.start
    simpa [World.setCell] using this
  refine ⟨rfl, ⟨_, h3.alloc _, ?_⟩, grown_alloc (grown_setCell (grown_setCell (grown_store8 (World.grownBy.refl w _) _) _ _) _ _) _⟩
  have := OwnS.new (((store8 w b St.start).setCell ⟨b, 8, none⟩ (.int .u64 0)).setCell ⟨b, 9, none⟩ (.slice (some ⟨w.heap.size, 0, none⟩) 0 0)) (base := base) (by rw [hsz]; omega) #[] [] rfl (by unfold maxLen; simp)
  rw [hsz] at this
  exact this

def St.zero : St := ⟨0, 0, 0, 0, 0, 0, 0, 0⟩
theorem Obj3.lt {w : World} {base b : Nat} {s : St} {N : Int} {u : List Int} (h : Obj3 w base b s N u) : b < w.heap.size := let ⟨_, h, _⟩ := h; h.lt

theorem OwnB.mono {w : World} {base base' : Nat} {v : Value} {l : List Int} (h : OwnB w base v l) (hb : base' ≤ base) : OwnB w base' v l :=
  ⟨h.1, h.2.imp id fun ⟨g, c, cur, h1, h2, h3⟩ => ⟨g, c, cur, h1, Nat.le_trans hb h2, h3⟩⟩
/-- A slice of the call's own, as it is written. -/
theorem OwnB.shape {w : World} {base : Nat} {v : Value} {l : List Int} (h : OwnB w base v l) : ∃ A c, v = .slice A l.length c := by
  rcases h.2 with ⟨e, h0⟩ | ⟨g, cap, cur, e, _⟩
  · refine ⟨none, 0, ?_⟩
    rw [h0]; exact e
  · exact ⟨_, _, e⟩
end Go.Proofs.YtiegapnfbeemcaaGreatDoor

namespace Go.Proofs.YtiegapnfbeemcaaGreatDoor
set_option maxRecDepth 100000
open Go.RowKit

theorem reset_f (base b : Nat) (s : St) (N : Int) (v : Value) (w : World) (hbb : base ≤ b) (hb : Blk w b 100 (smCells s N v)) :
    Calls Tryz.prog 61 #[.pointer (some ⟨b, 0, none⟩)] w fun e w' => e = .returned (.tuple #[]) ∧ (∃ v', Blk w' b 100 (smCells St.start 0 v') ∧ OwnS w' base v' [] ∧ w.heap.size ≤ blk v') ∧ w.grownBy w' (some b) := by
  have c0 := hb.cell 0
  have c1 := hb.cell 1
  have c2 := hb.cell 2
  have c3 := hb.cell 3
  have c4 := hb.cell 4
  have c5 := hb.cell 5
  have c6 := hb.cell 6
  have c7 := hb.cell 7
  have c8 := hb.cell 8
  have c9 := hb.cell 9
  simp [smCells, St.cells] at c0 c1 c2 c3 c4 c5 c6 c7 c8 c9
  have z0 := hb.frozen 0
  have z1 := hb.frozen 1
  have z2 := hb.frozen 2
  have z3 := hb.frozen 3
  have z4 := hb.frozen 4
  have z5 := hb.frozen 5
  have z6 := hb.frozen 6
  have z7 := hb.frozen 7
  have z8 := hb.frozen 8
  have z9 := hb.frozen 9
  have hlt := hb.lt
  go_enter Tryz.func61, Tryz.ntmps61
  go_wp2
  go_end0
  show _ ∧ (∃ v', Blk ((((store8 w b St.start).setCell ⟨b, 8, none⟩ (.int .u64 0)).setCell ⟨b, 9, none⟩ (.slice (some ⟨w.heap.size, 0, none⟩) 0 0)).alloc (.cells #[] 5)) b 100 (smCells St.start 0 v') ∧ OwnS ((((store8 w b St.start).setCell ⟨b, 8, none⟩ (.int .u64 0)).setCell ⟨b, 9, none⟩ (.slice (some ⟨w.heap.size, 0, none⟩) 0 0)).alloc (.cells #[] 5)) base v' [] ∧ w.heap.size ≤ blk v') ∧ w.grownBy ((((store8 w b St.start).setCell ⟨b, 8, none⟩ (.int .u64 0)).setCell ⟨b, 9, none⟩ (.slice (some ⟨w.heap.size, 0, none⟩) 0 0)).alloc (.cells #[] 5)) (some b)
  have h1 : Blk (store8 w b St.start) b 100 (smCells St.start N v) := store8_sm hb St.start
  have h2 := h1.set_ 8 (.int .u64 0)
  rw [smCells_set8] at h2
  have h3 := h2.set_ 9 (.slice (some ⟨w.heap.size, 0, none⟩) 0 0)
  rw [smCells_set9] at h3
  have hsz : (((store8 w b St.start).setCell ⟨b, 8, none⟩ (.int .u64 0)).setCell ⟨b, 9, none⟩ (.slice (some ⟨w.heap.size, 0, none⟩) 0 0)).heap.size = w.heap.size := by
    have := store8_size w b St.start
    simpa [World.setCell] using this
  refine ⟨rfl, ⟨_, h3.alloc _, ?_, Nat.le_refl _⟩, grown_alloc (grown_setCell (grown_setCell (grown_store8 (World.grownBy.refl w _) _) _ _) _ _) _⟩
  have := OwnS.new (((store8 w b St.start).setCell ⟨b, 8, none⟩ (.int .u64 0)).setCell ⟨b, 9, none⟩ (.slice (some ⟨w.heap.size, 0, none⟩) 0 0)) (base := base) (by rw [hsz]; omega) #[] [] rfl (by unfold maxLen; simp)
  rw [hsz] at this
  exact this

theorem new_f (w : World) :
    Calls Tryz.prog 37 #[] w fun e w' => e = .returned (.pointer (some ⟨w.heap.size, 0, none⟩)) ∧ (∃ v', Blk w' w.heap.size 100 (smCells St.start 0 v') ∧ OwnS w' w.heap.size v' [] ∧ w.heap.size + 1 ≤ blk v') ∧ Below w.heap.size w w' := by
  have hO0 : Blk (w.alloc (.cells (smCells St.zero 0 (.slice none 0 0)) 100)) w.heap.size 100 (smCells St.zero 0 (.slice none 0 0)) := Blk.new w 100 _
  go_enter Tryz.func37, Tryz.ntmps37
  go_wp2_with fail
  refine (reset_f w.heap.size w.heap.size St.zero 0 (.slice none 0 0) _ (Nat.le_refl _) hO0).mono ?_
  rintro e w1 ⟨rfl, ⟨v', h1, h2, h3⟩, hG1⟩
  have hB1 : Below w.heap.size w w1 := ((Below.refl w.heap.size w).alloc (Nat.le_refl _) _).trans ⟨hG1.os, hG1.tape, hG1.output, hG1.size, fun k hk => hG1.block k (by simp; omega) (by simp; omega)⟩
  go_wp2_with fail
  go_ret
  exact ⟨rfl, ⟨v', h1, h2, by simpa using h3⟩, hB1⟩
end Go.Proofs.YtiegapnfbeemcaaGreatDoor

namespace Go.Proofs.YtiegapnfbeemcaaGreatDoor
set_option maxRecDepth 100000
open Go.RowKit

def SO (w : World) (base b : Nat) (v : Value) (t : List Int) : Prop := Blk w b 100 (smCells (stOf t) (8 * (t.length : Int)) v) ∧ OwnS w base v (restOf t)
def BB (t : List Int) : Prop := ∀ x ∈ t, 0 ≤ x ∧ x ≤ 255
theorem BB.app {t p : List Int} (h : BB t) (h' : BB p) : BB (t ++ p) := fun x hx => by
  rcases List.mem_append.1 hx with h1 | h1
  · exact h x h1
  · exact h' x h1
theorem BB.rest {t : List Int} (h : BB t) : BB (restOf t) := fun x hx => h x (List.mem_of_mem_drop (by unfold restOf at hx; exact hx))
theorem so_write (base b : Nat) (v : Value) (t p : List Int) (A : Option Addr) (n c : Nat) (w : World) (hb : base ≤ b) (h : SO w base b v t) (hr : Src w b A n p) (ht : BB t) (hp : BB p) (hl : t.length + n ≤ 100000) :
    Calls Tryz.prog 39 #[.pointer (some ⟨b, 0, none⟩), .slice A n c] w fun e w' => e = .returned (.tuple #[.int .i64 n, .nilIface]) ∧ ∃ v', SO w' base b v' (t ++ p) ∧ Below base w w' ∧ Fb b w v w' v' := by
  have hn : p.length = n := by have := (hr w (fun _ _ => rfl)).1; simpa using this
  refine (write_f base b (stOf t) (8 * (t.length : Int)) v (restOf t) p A n c w hb h.1 h.2 hr (BB.app ht.rest hp) (by omega) (by omega) (rest_length t)).mono ?_
  rintro e w' ⟨he, v', h1, h2, h3, h4⟩
  obtain ⟨e1, e2⟩ := st_write t p
  rw [e1] at h1
  rw [e2] at h2
  refine ⟨he, v', ⟨?_, h2⟩, h3, h4⟩
  rw [List.length_append, hn, show (8 : Int) * ((t.length + n : Nat) : Int) = 8 * (t.length : Int) + 8 * n by omega]
  exact h1
theorem so_sum (base b : Nat) (v : Value) (t : List Int) (A : Option Addr) (w : World) (hb : base ≤ b) (h : SO w base b v t) (ht : BB t) (hl : t.length ≤ 100000) :
    Calls Tryz.prog 47 #[.pointer (some ⟨b, 0, none⟩), .slice A 0 0] w fun e w' => ∃ r, e = .returned r ∧ OwnB w' base r (sm3 t) ∧ Below base w w' := by
  refine (sum_f base b (stOf t) (8 * (t.length : Int)) v (restOf t) A w hb h.1 h.2 (stOf_U t) ht.rest (by omega) (rest_length t)).mono ?_
  rintro e w' ⟨r, he, h1, v', _, _, h3, _⟩
  rw [show (8 : Int) * (t.length : Int) = (t.length : Int) * 8 by omega, sm3_parts] at h1
  exact ⟨r, he, h1, h3⟩
theorem so_new (w : World) : Calls Tryz.prog 37 #[] w fun e w' => e = .returned (.pointer (some ⟨w.heap.size, 0, none⟩)) ∧ ∃ v', SO w' w.heap.size w.heap.size v' [] ∧ w.heap.size + 1 ≤ blk v' ∧ Below w.heap.size w w' := by
  refine (new_f w).mono ?_
  rintro e w' ⟨he, ⟨v', h1, h2, h3⟩, h4⟩
  exact ⟨he, v', ⟨h1, h2⟩, h3, h4⟩
theorem SO.below {w w' : World} {base b : Nat} {v : Value} {t : List Int} (h : SO w base b v t) (hB : Below w.heap.size w w') : SO w' base b v t :=
  ⟨h.1.below hB h.1.lt, h.2.keep fun _ _ hk _ => hk.below hB hk.lt⟩
/-- What is read from below the object is read whatever is written into it. -/
theorem src_of {w : World} {B b n : Nat} {A : Option Addr} {p : List Int} (h : Reads w B 1 A n (p.map (Value.int .u8))) (hB : B ≤ b) (hs : B ≤ w.heap.size) : Src w b A n p := fun W hW => by
  refine ⟨h.1, fun hp => ?_⟩
  obtain ⟨ad, e, hlt, hc⟩ := h.2 hp
  exact ⟨ad, e, by omega, fun j u hj => by
    rw [← hc j u hj]
    have e1 : (ad.add j).block = ad.block := by unfold Addr.add; split <;> rfl
    unfold World.cell?
    rw [e1, hW _ (by omega)]⟩
/-- What lies in a block that is not the object's. -/
theorem src_at {w : World} {b g n : Nat} {p : List Int} (hn : p.length = n) (hg : g < w.heap.size) (hgb : g ≠ b) (h : ∀ j, j < n → w.cell? ⟨g, j, none⟩ = some (.int .u8 (p.getD j 0))) : Src w b (some ⟨g, 0, none⟩) n p := fun W hW => by
  refine ⟨by simp [hn], fun hp => ⟨_, rfl, hg, fun j u hj => ?_⟩⟩
  have hj' : j < p.length := by
    rcases Nat.lt_or_ge j p.length with h1 | h1
    · exact h1
    · rw [List.getElem?_eq_none (by simpa using h1)] at hj; cases hj
  rw [List.getElem?_map, List.getElem?_eq_getElem hj'] at hj
  injection hj with hj
  have := h j (by omega)
  rw [List.getD_eq_getElem?_getD, List.getElem?_eq_getElem hj'] at this
  rw [← hj]
  have e1 : ((⟨g, 0, none⟩ : Addr).add j) = ⟨g, j, none⟩ := by unfold Addr.add; split <;> simp_all
  rw [e1]
  refine Eq.trans ?_ this
  unfold World.cell?
  simp only
  rw [hW g hgb]
end Go.Proofs.YtiegapnfbeemcaaGreatDoor

namespace Go.Proofs.YtiegapnfbeemcaaGreatDoor
set_option maxRecDepth 100000
open Go.RowKit

def idF (x y : Nat → Int) : Nat → Nat → Int
  | 0 => hexB sA
  | 1 => hexB sB
  | 2 => hexB sGx
  | 3 => hexB sGy
  | 4 => x
  | _ => y
def idPre (x y : Nat → Int) : Nat → List Int
  | 0 => []
  | k + 1 => idPre x y k ++ nb8 (idF x y k)
theorem idPre_length (x y : Nat → Int) (k : Nat) : (idPre x y k).length = 32 * k := by
  induction k with
  | zero => rfl
  | succ k ih => rw [idPre, List.length_append, ih, nb8_length]; omega
def idHead (n : Nat) : List Int := [(n : Int) * 8 / 256, (n : Int) * 8 % 256]
def idData (n : Nat) (p : List Int) (x y : Nat → Int) : List Int := idHead n ++ p ++ idPre x y 6

/-- The six numbers, one behind the other. -/
def rows6 (x y : Nat → Int) : Array Value := #[.int .u32 (hexB sA 0), .int .u32 (hexB sA 1), .int .u32 (hexB sA 2), .int .u32 (hexB sA 3), .int .u32 (hexB sA 4), .int .u32 (hexB sA 5), .int .u32 (hexB sA 6), .int .u32 (hexB sA 7), .int .u32 (hexB sB 0), .int .u32 (hexB sB 1), .int .u32 (hexB sB 2), .int .u32 (hexB sB 3), .int .u32 (hexB sB 4), .int .u32 (hexB sB 5), .int .u32 (hexB sB 6), .int .u32 (hexB sB 7), .int .u32 (hexB sGx 0), .int .u32 (hexB sGx 1), .int .u32 (hexB sGx 2), .int .u32 (hexB sGx 3), .int .u32 (hexB sGx 4), .int .u32 (hexB sGx 5), .int .u32 (hexB sGx 6), .int .u32 (hexB sGx 7), .int .u32 (hexB sGy 0), .int .u32 (hexB sGy 1), .int .u32 (hexB sGy 2), .int .u32 (hexB sGy 3), .int .u32 (hexB sGy 4), .int .u32 (hexB sGy 5), .int .u32 (hexB sGy 6), .int .u32 (hexB sGy 7), .int .u32 (x 0), .int .u32 (x 1), .int .u32 (x 2), .int .u32 (x 3), .int .u32 (x 4), .int .u32 (x 5), .int .u32 (x 6), .int .u32 (x 7), .int .u32 (y 0), .int .u32 (y 1), .int .u32 (y 2), .int .u32 (y 3), .int .u32 (y 4), .int .u32 (y 5), .int .u32 (y 6), .int .u32 (y 7)]
theorem rows6_at (x y : Nat → Int) (k : Nat) (hk : k < 6) : ∀ j v, (c8 (idF x y k)).toList[j]? = some v → (rows6 x y)[k * 8 + j]? = some v := at8 rfl fun j hj v hv => by
  have h : k = 0 ∨ k = 1 ∨ k = 2 ∨ k = 3 ∨ k = 4 ∨ k = 5 := by omega
  rcases h with rfl | rfl | rfl | rfl | rfl | rfl <;> rcases lt8 hj with rfl | rfl | rfl | rfl | rfl | rfl | rfl | rfl <;> exact hv
theorem hexF_uu (s : Nat → Int) : ∀ k, UU (hexF s k)
  | 0 => fun _ _ => ⟨by unfold hexF; omega, by unfold hexF; omega⟩
  | k + 1 => fun j hj => by
    unfold hexF
    split
    · exact u32_bits _ _ _
    · exact hexF_uu s k j hj
theorem idF_uu {x y : Nat → Int} (hx : UU x) (hy : UU y) (k : Nat) : UU (idF x y k) := by
  unfold idF
  split
  · exact hexF_uu _ _
  · exact hexF_uu _ _
  · exact hexF_uu _ _
  · exact hexF_uu _ _
  · exact hx
  · exact hy
/-- Such a slice is read. -/
theorem OwnS.reads {w : World} {base n c : Nat} {A : Option Addr} {u : List Int} (h : OwnS w base (.slice A n c) u) : n = u.length ∧ Reads w w.heap.size 1 A n (u.map (Value.int .u8)) := by
  obtain ⟨g, o, cap, cur, e, h1, h2, h3, h4, h5, h6⟩ := h
  injection e with e1 e2 e3
  subst e1; subst e2
  refine ⟨rfl, by simp, fun _ => ⟨_, rfl, h2.lt, fun j v hj => ?_⟩⟩
  have hj' : j < u.length := by
    rcases Nat.lt_or_ge j u.length with hh | hh
    · exact hh
    · rw [List.getElem?_eq_none (by simpa using hh)] at hj; cases hj
  rw [Addr.add_mid, h2.cell, h6 j hj']
  rw [List.getElem?_map, List.getElem?_eq_getElem hj'] at hj
  rw [List.getD_eq_getElem?_getD, List.getElem?_eq_getElem hj']
  exact hj
theorem idData_byte {n : Nat} (hn : n < 8192) {p : List Int} (hp : ∀ z ∈ p, 0 ≤ z ∧ z ≤ 255) {x y : Nat → Int} (hx : UU x) (hy : UU y) : ∀ z ∈ idData n p x y, 0 ≤ z ∧ z ≤ 255 := fun z hz => by
  unfold idData at hz
  rcases List.mem_append.1 hz with hz | hz
  · rcases List.mem_append.1 hz with hz | hz
    · unfold idHead at hz
      simp only [List.mem_cons, List.not_mem_nil, or_false] at hz
      rcases hz with rfl | rfl <;> omega
    · exact hp z hz
  · have key : ∀ k, ∀ z ∈ idPre x y k, 0 ≤ z ∧ z ≤ 255 := fun k => by
      induction k with
      | zero => intro z hz; cases hz
      | succ k ih =>
        intro z hz
        unfold idPre at hz
        rcases List.mem_append.1 hz with hz | hz
        · exact ih z hz
        · exact nb8_byte (idF_uu hx hy k) z hz
    exact key 6 z hz
theorem own_lit (w : World) {base : Nat} (hb : base ≤ w.heap.size) (cs : Array Value) (l : List Int) (hc : cs.toList = l.map (Value.int .u8)) (hl : l.length ≤ maxLen) :
    OwnB (w.alloc (.cells cs 5)) base (.slice (some ⟨w.heap.size, 0, none⟩) l.length l.length) l := by
  have hs : cs.size = l.length := by rw [← Array.length_toList, hc, List.length_map]
  refine ⟨by simp, .inr ⟨w.heap.size, l.length, cs, rfl, hb, Blk.new w 5 cs, Nat.le_refl _, hl, by omega, ?_⟩⟩
  rw [hc, List.take_of_length_le (by simp)]
set_option maxHeartbeats 2000000 in
theorem identity_any (x y : Nat → Int) (b : Bool) (A : Option Addr) (n c : Nat) (p : List Int) (w : World) (hx : UU x) (hy : UU y) (hr : Reads w w.heap.size 1 A n (p.map (Value.int .u8))) (hp : ∀ z ∈ p, 0 ≤ z ∧ z ≤ 255) (hn : n < 8192) :
    Calls Tryz.prog 8 #[Pt x y b, .slice A n c] w fun e w' => ∃ r, e = .returned (.tuple #[r, .bool true]) ∧ OwnB w' w.heap.size r (sm3 (idData n p x y)) ∧ Below w.heap.size w w' := by
  have hln : p.length = n := by simpa using hr.1
  have HL := Lib.hid hln
  clear hln
  have l1 : ¬ ((8192 : Int) ≤ (n : Int)) := by omega
  have l2 : IntKind.i64.wrap ((n : Int) * 8) = (n : Int) * 8 := IntWalk.i64_in _ (by omega)
  have hq0 : Blk (w.alloc (.cells (c17 x y b) 28)) w.heap.size 28 (c17 x y b) := Blk.new w 28 _
  have hB0 : Below w.heap.size w (w.alloc (.cells (c17 x y b) 28)) := (Below.refl _ _).alloc (Nat.le_refl _) _
  go_enter Tryz.func8, Tryz.ntmps8
  have hO := own_lit (w.alloc (.cells (c17 x y b) 28)) (base := w.heap.size + 1) (by simp) #[.int .u8 ((n : Int) * 8 / 256), .int .u8 ((n : Int) * 8 % 256)] (idHead n) rfl (by unfold maxLen; simp [idHead])
  rw [World.size_alloc] at hO
  have hrA := (hr.alloc (Nat.le_refl _) (.cells (c17 x y b) 28)).alloc (by simp) (.cells #[.int .u8 ((n : Int) * 8 / 256), .int .u8 ((n : Int) * 8 % 256)] 5)
  go_wp2_with (first
    | (at_builtin; refine app_bytes _ rfl (.tmp 21) (.tmp 22) rfl (w.heap.size + 1) _ (idHead n) rfl hO w.heap.size A n c p rfl hrA (by simp [idHead]; omega) (by simp) ?_; intro v1 w1 hown1 hb1))
  have hB1 : Below w.heap.size w w1 := (hB0.alloc (by simp) _).trans (hb1.mono (by omega))
  have hq1 : Blk w1 w.heap.size 28 (c17 x y b) := (hq0.alloc (.cells #[.int .u8 ((n : Int) * 8 / 256), .int .u8 ((n : Int) * 8 % 256)] 5)).below hb1 (by omega)
  have hs1 : w.heap.size + 1 ≤ w1.heap.size := by have := hq1.lt; omega
  obtain ⟨A1, c1, hv1⟩ := hown1.shaped
  have hl1 : (idHead n ++ p).length = n + 2 := by have := HL.out; simp [idHead]; omega
  rw [hl1] at hv1
  subst hv1
  have hS : Below w1.heap.size w1 w1.drew := ⟨rfl, rfl, rfl, Nat.le_refl _, fun _ _ => rfl⟩
  have hX : ∀ W, Below w1.heap.size w1 W → W.rangeAt w.heap.size 0 (c8 x).toList := fun W h => range28x (hq1.below h hq1.lt)
  have hY : ∀ W, Below w1.heap.size w1 W → W.rangeAt w.heap.size 8 (c8 y).toList := fun W h => range28y (hq1.below h hq1.lt)
  refine Code.wp_mono NoPanic.imp ?_
  refine wp_region_held (S := fun W : World => Below w1.heap.size w1 W) (by kernel_rfl) ?_
  refine wpAnyH_take (i := 12) (v := .int .i64 0) rfl (by kernel_rfl) (by kernel_rfl) (by kernel_rfl) (fun _ _ _ h => h) (.inl ⟨rfl, fun W _ => rfl⟩) hS ?_
  refine wpAnyH_take (i := 6) (v := .pointer (some ⟨w.heap.size, 0, none⟩)) rfl (by kernel_rfl) (by kernel_rfl) (by kernel_rfl) (fun _ _ _ h => h) (.inl ⟨rfl, fun W _ => by simp [execOp, Act.eval, Act.put, go_sem]⟩) hS ?_
  refine wpAnyH_take (i := 8) (v := .pointer (some ⟨w.heap.size, 8, none⟩)) rfl (by kernel_rfl) (by kernel_rfl) (by kernel_rfl) (fun _ _ _ h => h) (.inl ⟨rfl, fun W _ => by simp [execOp, Act.eval, Act.put, go_sem]⟩) hS ?_
  refine wpAnyH_take (i := 7) (v := N8 x) rfl (by kernel_rfl) (by kernel_rfl) (by kernel_rfl) (fun _ _ _ h => h) (yieldsIf_load_mid rfl 26 (.tmp 30) rfl w.heap.size 0 rfl (c8 x).toList _ hX Tryz.underlying26 rfl size26) hS ?_
  refine wpAnyH_take (i := 9) (v := N8 y) rfl (by kernel_rfl) (by kernel_rfl) (by kernel_rfl) (fun _ _ _ h => h) (yieldsIf_load_mid rfl 26 (.tmp 32) rfl w.heap.size 8 rfl (c8 y).toList _ hY Tryz.underlying26 rfl size26) hS ?_
  refine wpAnyH_ready (rs := [0]) (by kernel_rfl) (by simp) (AllReadyH.cons rfl (fun K1 hK1 => ?_) AllReadyH.nil)
  rw [if_pos (by rfl)]
  go_wp2_with (go_at_call 20; refine (a_any _).mono ?_; rintro r W1 ⟨rfl, hW1⟩)
  replace hS : Below w1.heap.size w1 W1 := hS.trans (hW1.mono hS.size)
  refine hK1.out _ _ hS (fun _ => ?_)
  refine wpAnyH_ready (rs := [1]) (by kernel_rfl) (by simp) (AllReadyH.cons rfl (fun K2 hK2 => ?_) AllReadyH.nil)
  rw [if_pos (by rfl)]
  go_wp2_with (go_at_call 21; refine (b_any _).mono ?_; rintro r W2 ⟨rfl, hW2⟩)
  replace hS : Below w1.heap.size w1 W2 := hS.trans (hW2.mono hS.size)
  refine hK2.out _ _ hS (fun _ => ?_)
  refine wpAnyH_ready (rs := [2]) (by kernel_rfl) (by simp) (AllReadyH.cons rfl (fun K3 hK3 => ?_) AllReadyH.nil)
  rw [if_pos (by rfl)]
  go_wp2_with (go_at_call 7; refine (base_any _).mono ?_; rintro r W3 ⟨rfl, hW3⟩)
  replace hS : Below w1.heap.size w1 W3 := hS.trans (hW3.mono hS.size)
  refine hK3.out _ _ hS (fun _ => ?_)
  refine wpAnyH_take (i := 3) (v := N8 (hexB sGx)) rfl (by kernel_rfl) (by kernel_rfl) (by kernel_rfl) (fun _ _ _ h => h) (.inl ⟨rfl, fun W _ => by kernel_rfl⟩) hS ?_
  refine wpAnyH_ready (rs := [4]) (by kernel_rfl) (by simp) (AllReadyH.cons rfl (fun K4 hK4 => ?_) AllReadyH.nil)
  rw [if_pos (by rfl)]
  go_wp2_with (go_at_call 7; refine (base_any _).mono ?_; rintro r W4 ⟨rfl, hW4⟩)
  replace hS : Below w1.heap.size w1 W4 := hS.trans (hW4.mono hS.size)
  refine hK4.out _ _ hS (fun _ => ?_)
  refine wpAnyH_take (i := 5) (v := N8 (hexB sGy)) rfl (by kernel_rfl) (by kernel_rfl) (by kernel_rfl) (fun _ _ _ h => h) (.inl ⟨rfl, fun W _ => by kernel_rfl⟩) hS ?_
  refine wpAnyH_ready (rs := [10]) (by kernel_rfl) (by simp) (AllReadyH.cons rfl (fun K5 hK5 => ?_) AllReadyH.nil)
  rw [if_pos (by rfl)]
  go_simp
  change K5 _ (W4.alloc (.cells (rows6 x y) 26))
  have hB5 : Below w1.heap.size w1 (W4.alloc (.cells (rows6 x y) 26)) := hS.alloc hS.size _
  have hrow : Blk (W4.alloc (.cells (rows6 x y) 26)) W4.heap.size 26 (rows6 x y) := Blk.new W4 26 _
  have hown5 : OwnS (W4.alloc (.cells (rows6 x y) 26)) (w.heap.size + 1) (.slice A1 (n + 2) c1) (idHead n ++ p) := OwnS.of_own (hown1.below hB5 (Nat.le_refl _)) (by rw [hl1]; omega)
  have hBw : Below w.heap.size w (W4.alloc (.cells (rows6 x y) 26)) := hB1.trans (hB5.mono hB1.size)
  refine hK5.out _ _ hB5 (fun _ => ?_)
  generalize W4.alloc (.cells (rows6 x y) 26) = W5 at hB5 hrow hown5 hBw ⊢
  replace hS := hB5
  refine wpAnyH_take (i := 11) (v := .int .i64 6) rfl (by kernel_rfl) (by kernel_rfl) (by kernel_rfl) (fun _ _ _ h => h) (.inl ⟨rfl, fun W _ => by simp [execOp, Act.eval, go_sem]⟩) hS ?_
  refine wpAnyH_done (by kernel_rfl) ?_ _
  refine NoPanic.normal ?_
  have hs5 : w.heap.size + 1 ≤ W5.heap.size := Nat.le_trans hs1 hB5.size
  clear hS hB5 hX hY hq1 hB1 hown1 hb1 hrA hO hB0 hq0 hW1 hW2 hW3 hW4 l1 l2 hr
  generalize W4.heap.size = G at hrow ⊢
  go_simp
  go_wp2_with fail
  go_loopw [7, 36] (fun v i wr => ∃ k : Nat, k ≤ 6 ∧ i = .int .i64 (k : Int) ∧ OwnS wr (w.heap.size + 1) v (idHead n ++ p ++ idPre x y k) ∧ Blk wr G 26 (rows6 x y) ∧ Below w.heap.size w wr ∧ w.heap.size + 1 ≤ wr.heap.size) (fun _ i _ => 6 - (intOf i).toNat)
  case atStart => exact ⟨0, by omega, rfl, by rw [idPre, List.append_nil]; exact hown5, hrow, hBw, hs5⟩
  case round =>
    obtain ⟨k, hk, rfl, hown, hb, hbel, hsz⟩ := hrel
    have hlen : (idHead n ++ p ++ idPre x y k).length = n + 2 + 32 * k := by rw [List.length_append, hl1, idPre_length]
    obtain ⟨g, o, cc, hv, hc1, hc2⟩ := hown.form
    rw [hlen] at hv
    subst hv
    by_cases hlt : k < 6
    · have hF := idF_uu hx hy k
      have lk : (k : Int) < 6 := by omega
      go_wp2_with (first
        | (refine ld26 rfl (.tmp 38) rfl G (k * 8) (idF x y k) rfl (range_of hb (rows6_at x y k hlt)) ?_)
        | (refine wpList_plain rfl fun _ hK => wp_new zero26 rfl (hK _ _ ?_))
        | (refine st26 rfl (.tmp 9) (.tmp 39) rfl wr.heap.size (idF x y k) rfl rfl _ (Blk.new wr 26 _) rfl ?_)
        | (refine ld26 rfl (.tmp 9) rfl wr.heap.size 0 (idF x y k) rfl (range26 ((Blk.new wr 26 _).setRow _)) ?_)
        | (go_at_call 10; refine (nbytes8_any (idF x y k) hF _).mono ?_; rintro e w7 ⟨v7, rfl, hown7, hb7⟩; obtain ⟨A7, c7, hv7⟩ := hown7.shaped; rw [nb8_length] at hv7; subst hv7
           have hs7 : wr.heap.size + 1 ≤ w7.heap.size := by
             have h1 := hb7.size
             rw [setRow_size, World.size_alloc] at h1
             exact h1
           have hown8 := hown.keep (w' := w7) fun q cs hq _ => ((hq.alloc _).setRow_far (Nat.ne_of_lt hq.lt) _).down hb7
           have hr7 := hown7.reads.2)
        | (at_builtin; refine app_f _ rfl (.tmp 40) (.tmp 42) rfl (w.heap.size + 1) _ (idHead n ++ p ++ idPre x y k) rfl hown8 w7.heap.size A7 32 c7 (nb8 (idF x y k)) rfl hr7 (by rw [hlen]; omega) (by omega) ?_; intro v8 w8 hown9 hb8 hkeep _ _))
      have hs9 : wr.heap.size + 1 ≤ w8.heap.size := Nat.le_trans hs7 hb8.size
      go_roundw
      case rel =>
        refine ⟨k + 1, by omega, by go_num, ?_, hkeep _ _ _ (by decide) (((hb.alloc _).setRow_far (Nat.ne_of_lt hb.lt) _).down hb7), ?_, by omega⟩
        · rw [idPre, ← List.append_assoc]
          exact hown9
        · exact ((hbel.alloc hbel.size _).trans (setRow_below _ _ _ hbel.size)).trans ((hb7.mono (by rw [setRow_size, World.size_alloc]; omega)).trans (hb8.mono (by omega)))
      case measure => simp [intOf]; omega
    · obtain rfl : k = 6 := by omega
      have hfin : idHead n ++ p ++ idPre x y 6 = idData n p x y := rfl
      rw [hfin] at hown hlen
      obtain ⟨hl2, hrd⟩ := hown.reads
      have hby : ∀ z ∈ idData n p x y, 0 ≤ z ∧ z ≤ 255 := idData_byte hn hp hx hy
      clear hl2
      go_wp2_with (go_at_call 13; refine (sm3_any _ _ _ _ wr hrd hby (by omega)).mono ?_; rintro e w9 ⟨r, rfl, hr9, hb9⟩)
      exact bodyPost_ret (v := .tuple #[r, .bool true]) (by simp [results, Tryz.results8, go_sem]) rfl ⟨r, rfl, hr9.lift hbel.size, hbel.trans (hb9.mono hbel.size)⟩
end Go.Proofs.YtiegapnfbeemcaaGreatDoor

namespace Go.Proofs.YtiegapnfbeemcaaGreatDoor
set_option maxRecDepth 100000
open Go.RowKit
open X (WR E0 H0 bsA bsB bsGx bsGy)

theorem and255u (v : Nat) (h : v < 65536) : bits .and .u16 (v : Int) 255 = ((v % 256 : Nat) : Int) := by
  show IntKind.u16.wrap ((BitVec.ofInt 16 (v : Int) &&& BitVec.ofInt 16 255).toNat : Int) = _
  have e : (BitVec.ofInt 16 (v : Int) &&& BitVec.ofInt 16 255).toNat = v % 256 := by
    rw [BitVec.toNat_and]
    have h1 : (BitVec.ofInt 16 (v : Int)).toNat = v := by
      rw [BitVec.toNat_ofInt]; omega
    have h2 : (BitVec.ofInt 16 255).toNat = 2 ^ 8 - 1 := by decide
    rw [h1, h2, Nat.and_two_pow_sub_one_eq_mod]
  rw [e]
  simp [IntKind.wrap, IntKind.bits, IntKind.signed]
  omega
/-- The memory in the midst: the object's, with what was written. -/
structure ZM (w wr : World) (v : Value) (t : List Int) : Prop where
  so : SO wr w.heap.size w.heap.size v t
  below : Below w.heap.size w wr
  big : w.heap.size + 1 ≤ wr.heap.size
theorem ZM.down {w wr w' : World} {v : Value} {t : List Int} (h : ZM w wr v t) (hB : Below wr.heap.size wr w') : ZM w w' v t :=
  ⟨h.so.below hB, h.below.trans (hB.mono h.below.size), Nat.le_trans h.big hB.size⟩
theorem ZM.write {w wr : World} {v : Value} {t : List Int} (h : ZM w wr v t) (p : List Int) (A : Option Addr) (n c : Nat) (hr : Src wr w.heap.size A n p) (ht : BB t) (hp : BB p) (hl : t.length + n ≤ 100000) :
    Calls Tryz.prog 39 #[.pointer (some ⟨w.heap.size, 0, none⟩), .slice A n c] wr fun e w' => e = .returned (.tuple #[.int .i64 n, .nilIface]) ∧ ∃ v', ZM w w' v' (t ++ p) ∧ Fb w.heap.size wr v w' v' ∧ wr.heap.size ≤ w'.heap.size :=
  (so_write w.heap.size w.heap.size v t p A n c wr (Nat.le_refl _) h.so hr ht hp hl).mono fun _ _ ⟨he, v', h1, h2, h3⟩ => ⟨he, v', ⟨h1, h.below.trans h2, Nat.le_trans h.big h2.size⟩, h3, h2.size⟩
/-- A slice of 32 bytes at or above a height. -/
def B32 (w : World) (h : Nat) (bs : List Int) (v : Value) : Prop := ∃ (ad : Addr) (c : Nat), v = .slice (some ad) 32 c ∧ h ≤ ad.block ∧ Reads w w.heap.size 1 (some ad) 32 (bs.map (Value.int .u8))
theorem src_rd {w : World} {b n : Nat} {ad : Addr} {p : List Int} (h : Reads w w.heap.size 1 (some ad) n (p.map (Value.int .u8))) (hb : ad.block ≠ b) : Src w b (some ad) n p := fun W hW => by
  refine ⟨h.1, fun hp => ?_⟩
  obtain ⟨ad', e, hlt, hc⟩ := h.2 hp
  injection e with e
  subst e
  exact ⟨ad, rfl, hlt, fun j u hj => by
    rw [← hc j u hj]
    unfold World.cell?
    rw [block_of_add, hW _ hb]⟩
theorem B32.keep {w w' : World} {h : Nat} {bs : List Int} {v : Value} (hb : B32 w h bs v) (hs : w.heap.size ≤ w'.heap.size) (hk : ∀ k, h ≤ k → k < w.heap.size → w'.heap[k]? = w.heap[k]?) : B32 w' h bs v := by
  obtain ⟨ad, c, e, h1, h2⟩ := hb
  refine ⟨ad, c, e, h1, h2.1, fun hp => ?_⟩
  obtain ⟨ad', e', hlt, hc⟩ := h2.2 hp
  injection e' with e'
  subst e'
  exact ⟨ad, rfl, by omega, fun j u hj => by
    rw [← hc j u hj]
    unfold World.cell?
    rw [block_of_add, hk _ h1 hlt]⟩
theorem tail_eq {bx : List Int} (hl : bx.length = 32) {L : Nat} (hL : L ≤ 32) (hz : ∀ j, j < 32 - L → bx.getD j 0 = 0) : List.replicate (32 - L) 0 ++ (List.range L).map (fun i => bx.getD (32 - L + i) 0) = bx := by
  apply List.ext_getElem?
  intro j
  rcases Nat.lt_or_ge j (32 - L) with h | h
  · rw [List.getElem?_append_left (by simpa using h), List.getElem?_replicate, if_pos h]
    have := hz j h
    rw [List.getD_eq_getElem?_getD, List.getElem?_eq_getElem (by omega)] at this
    rw [List.getElem?_eq_getElem (by omega)]
    simp at this
    rw [this]
  · rw [List.getElem?_append_right (by simpa using h), List.length_replicate, List.getElem?_map]
    rcases Nat.lt_or_ge j 32 with h2 | h2
    · rw [List.getElem?_range (by omega)]
      simp only [Option.map_some]
      rw [show 32 - L + (j - (32 - L)) = j by omega, List.getD_eq_getElem?_getD, List.getElem?_eq_getElem (by omega)]
      rfl
    · have h3 : (List.range L)[j - (32 - L)]? = none := List.getElem?_eq_none (by rw [List.length_range]; omega)
      have h4 : bx[j]? = none := List.getElem?_eq_none (by omega)
      rw [h3, h4]; rfl
def Zer : Array Value := #[.int .u8 0, .int .u8 0, .int .u8 0, .int .u8 0, .int .u8 0, .int .u8 0, .int .u8 0, .int .u8 0, .int .u8 0, .int .u8 0, .int .u8 0, .int .u8 0, .int .u8 0, .int .u8 0, .int .u8 0, .int .u8 0, .int .u8 0, .int .u8 0, .int .u8 0, .int .u8 0, .int .u8 0, .int .u8 0, .int .u8 0, .int .u8 0, .int .u8 0, .int .u8 0, .int .u8 0, .int .u8 0, .int .u8 0, .int .u8 0, .int .u8 0, .int .u8 0]
theorem zer_at (j : Nat) (h : j < 32) : Zer[j]? = some (.int .u8 0) := by
  have : (List.range 32).all (fun j => match Zer[j]? with | some (.int .u8 0) => true | _ => false) = true := by kernel_rfl
  have := List.all_eq_true.1 this j (List.mem_range.2 h)
  split at this
  · rename_i h; exact h
  · cases this
theorem zer_any (w : World) : Calls Tryz.prog 46 #[] w fun e w' => e = .returned (.slice (some ⟨w.heap.size, 0, none⟩) 32 32) ∧ w.alloc (.cells Zer 5) = w' := by
  go_enter Tryz.func46, Tryz.ntmps46
  go_wp2_with fail
  go_ret
  exact ⟨rfl, rfl⟩
/-- The zeros ahead. -/
theorem zer_own (w : World) (m : Nat) (hm : m ≤ 32) : OwnS (w.alloc (.cells Zer 5)) w.heap.size (.slice (some ⟨w.heap.size, 0, none⟩) m 32) (List.replicate m 0) := by
  refine ⟨w.heap.size, 0, 32, Zer, by simp, Nat.le_refl _, Blk.new w 5 Zer, by simpa using hm, by unfold maxLen; omega, by decide, fun j hj => ?_⟩
  simp at hj
  rw [Nat.zero_add, zer_at j (by omega)]
  simp [hj]
theorem B32.low {w : World} {h h' : Nat} {bs : List Int} {v : Value} (hb : B32 w h bs v) (hl : h' ≤ h) : B32 w h' bs v := let ⟨ad, c, e, h1, h2⟩ := hb; ⟨ad, c, e, Nat.le_trans hl h1, h2⟩
theorem B32.of_own {w : World} {base : Nat} {bs : List Int} {v : Value} (h : OwnS w base v bs) (hl : bs.length = 32) : B32 w base bs v := by
  obtain ⟨g, o, c, hv, _, _⟩ := h.form
  subst hv
  have h2 := h.reads.2
  have h3 := h.cell.2.2.1
  rw [hl] at h2 ⊢
  exact ⟨_, _, rfl, h3, h2⟩
theorem src_ao {w : World} {b g o n : Nat} {p : List Int} (hn : p.length = n) (hg : g < w.heap.size) (hgb : g ≠ b) (h : ∀ j, j < n → w.cell? ⟨g, o + j, none⟩ = some (.int .u8 (p.getD j 0))) : Src w b (some ⟨g, o, none⟩) n p := fun W hW => by
  refine ⟨by simp [hn], fun hp => ⟨_, rfl, hg, fun j u hj => ?_⟩⟩
  have hj' : j < p.length := by
    rcases Nat.lt_or_ge j p.length with h1 | h1
    · exact h1
    · rw [List.getElem?_eq_none (by simpa using h1)] at hj; cases hj
  rw [List.getElem?_map, List.getElem?_eq_getElem hj'] at hj
  injection hj with hj
  have := h j (by omega)
  rw [List.getD_eq_getElem?_getD, List.getElem?_eq_getElem hj'] at this
  rw [← hj, Addr.add_mid]
  refine Eq.trans ?_ this
  unfold World.cell?
  simp only
  rw [hW g hgb]
theorem ZM.byte {w wr : World} {v : Value} {t : List Int} (h : ZM w wr v t) (x : Int) (ht : BB t) (hx : 0 ≤ x ∧ x ≤ 255) (hl : t.length + 1 ≤ 100000) :
    Calls Tryz.prog 39 #[.pointer (some ⟨w.heap.size, 0, none⟩), .slice (some ⟨wr.heap.size, 0, none⟩) 1 1] (wr.alloc (.cells #[.int .u8 x] 5)) fun e w' => e = .returned (.tuple #[.int .i64 1, .nilIface]) ∧ ∃ v', ZM w w' v' (t ++ [x]) := by
  have hb := Blk.new wr 5 #[.int .u8 x]
  have hbig := h.big
  refine ((h.down ((Below.refl _ _).alloc (Nat.le_refl _) (.cells #[.int .u8 x] 5))).write [x] (some ⟨wr.heap.size, 0, none⟩) 1 1 (src_ao rfl hb.lt (by omega) fun j hj => ?_) ht (fun y hy => ?_) hl).mono fun _ _ ⟨he, v', h1, _⟩ => ⟨he, v', h1⟩
  · obtain rfl : j = 0 := by omega
    exact hb.cell 0
  · simp only [List.mem_singleton] at hy
    subst hy; exact hx
theorem ZM.konst {w wr : World} {v : Value} {t : List Int} (h : ZM w wr v t) (bs : List Int) (g : Nat) (hbs : bs.length = 32) (hg : w.heap.size + 1 ≤ g) (hgl : g < wr.heap.size) (hc : ∀ j, j < 32 → wr.cell? ⟨g, j, none⟩ = some (.int .u8 (bs.getD j 0))) (ht : BB t) (hb : BB bs) (hl : t.length + 32 ≤ 100000) :
    Calls Tryz.prog 39 #[.pointer (some ⟨w.heap.size, 0, none⟩), .slice (some ⟨g, 0, none⟩) 32 32] wr fun e w' => e = .returned (.tuple #[.int .i64 32, .nilIface]) ∧ ∃ v', ZM w w' v' (t ++ bs) :=
  (h.write bs (some ⟨g, 0, none⟩) 32 32 (src_ao hbs hgl (by omega) fun j hj => by rw [Nat.zero_add]; exact hc j hj) ht hb hl).mono fun _ _ ⟨he, v', h1, _⟩ => ⟨he, v', h1⟩
theorem zzA_lit (w : World) : Calls Tryz.prog 40 #[] w fun e w' => e = .returned (.agg #[.int .u32 536870905, .int .u32 268435455, .int .u32 895, .int .u32 268428288, .int .u32 536870911, .int .u32 268435455, .int .u32 536870911, .int .u32 150994943, .int .u32 268435455]) ∧ Below w.heap.size w w' := X.zzA_any w
theorem bs_ok (s : ByteArray) : (nb8 (hexB s)).length = 32 ∧ BB (nb8 (hexB s)) := ⟨rfl, nb8_byte (hexF_uu _ _)⟩
theorem bsA_ok : bsA.length = 32 ∧ BB bsA := by rw [X.same_A]; exact bs_ok _
theorem bsB_ok : bsB.length = 32 ∧ BB bsB := by rw [X.same_B]; exact bs_ok _
theorem bsGx_ok : bsGx.length = 32 ∧ BB bsGx := by rw [X.same_Gx]; exact bs_ok _
theorem bsGy_ok : bsGy.length = 32 ∧ BB bsGy := by rw [X.same_Gy]; exact bs_ok _

theorem sm3_length (l : List Int) : (sm3 l).length = 32 := rfl
end Go.Proofs.YtiegapnfbeemcaaGreatDoor
