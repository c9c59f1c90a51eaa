/- The SM3 hash in plain numbers, third part: a hash that is written in parts is that of the whole. No program in sight; no condition. -/
import Derived.Test.YtmhjbkkbbhioeaaPad
namespace Go.Proofs.Ytmhjbkkbbhioeaa

theorem getD_drop (p : List Int) (o i : Nat) : (p.drop o).getD i 0 = p.getD (o + i) 0 := by
  rw [List.getD_eq_getElem?_getD, List.getD_eq_getElem?_getD, List.getElem?_drop]
theorem wordAt_drop (p : List Int) (o a j : Nat) : wordAt (p.drop o) a j = wordAt p (o + a) j := by
  unfold wordAt
  rw [getD_drop, getD_drop, getD_drop, getD_drop]
  simp only [Nat.add_assoc]
theorem absorb_add (p : List Int) (q : Nat) (s : St) : ∀ k, absorb p (q + k) s = absorb (p.drop (64 * q)) k (absorb p q s)
  | 0 => rfl
  | k + 1 => by
    rw [← Nat.add_assoc, absorb, absorb, absorb_add p q s k]
    congr 1
    funext j
    rw [wordAt_drop, Nat.mul_add]
theorem absorb_congr (p p' : List Int) (s : St) : ∀ q, (∀ i, i < 64 * q → p.getD i 0 = p'.getD i 0) → absorb p q s = absorb p' q s
  | 0, _ => rfl
  | q + 1, h => by
    rw [absorb, absorb, absorb_congr p p' s q (fun i hi => h i (by omega))]
    refine comp_congr _ fun j hj => ?_
    unfold wordAt
    rw [h _ (by omega), h _ (by omega), h _ (by omega), h _ (by omega)]

/-- The object behind so much written: its state, and what is not handled yet. -/
def stOf (t : List Int) : St := absorb t (t.length / 64) St.start
def restOf (t : List Int) : List Int := t.drop (64 * (t.length / 64))
theorem rest_length (t : List Int) : (restOf t).length < 64 := by unfold restOf; rw [List.length_drop]; omega
theorem stOf_U (t : List Int) : (stOf t).U := u32_absorb _ _ u32_start

theorem getD_append_left (a b : List Int) (i : Nat) (h : i < a.length) : (a ++ b).getD i 0 = a.getD i 0 := by
  rw [List.getD_eq_getElem?_getD, List.getD_eq_getElem?_getD, List.getElem?_append_left h]

theorem st_write (t p : List Int) : absorb (restOf t ++ p) ((restOf t ++ p).length / 64) (stOf t) = stOf (t ++ p) ∧ (restOf t ++ p).drop (64 * ((restOf t ++ p).length / 64)) = restOf (t ++ p) := by
  have hq : 64 * (t.length / 64) ≤ t.length := by omega
  have hd : (t ++ p).drop (64 * (t.length / 64)) = restOf t ++ p := by
    unfold restOf
    rw [List.drop_append_of_le_length hq]
  have hl : (t ++ p).length / 64 = t.length / 64 + (restOf t ++ p).length / 64 := by
    rw [← hd, List.length_drop, List.length_append]; omega
  constructor
  · unfold stOf
    rw [hl, absorb_add, hd]
    congr 1
    exact absorb_congr _ _ _ _ fun i hi => (getD_append_left t p i (by omega)).symm
  · rw [show restOf (t ++ p) = (t ++ p).drop (64 * ((t ++ p).length / 64)) from rfl, hl, Nat.mul_add, ← List.drop_drop, hd]

theorem zn_mod (n : Nat) : zn (n - 64 * (n / 64)) = zn n := by unfold zn; rw [show (n - 64 * (n / 64)) % 64 = n % 64 by omega]
theorem pad_split (l : List Int) : pad l = l.take (64 * (l.length / 64)) ++ padTail (restOf l) ((l.length : Int) * 8) := by
  have h : zn (restOf l).length = zn l.length := by unfold restOf; rw [List.length_drop]; exact zn_mod _
  unfold pad padTail
  rw [h]
  simp only [← List.append_assoc]
  rw [show l.take (64 * (l.length / 64)) ++ restOf l = l from List.take_append_drop _ _]
/-- The hash so far is the hash of all that was written. -/
theorem sm3_parts (l : List Int) : outBytes (absorb (padTail (restOf l) ((l.length : Int) * 8)) ((padTail (restOf l) ((l.length : Int) * 8)).length / 64) (stOf l)) = sm3 l := by
  have hq : 64 * (l.length / 64) ≤ l.length := by omega
  have ht : (l.take (64 * (l.length / 64))).length = 64 * (l.length / 64) := by rw [List.length_take]; omega
  have hd : (pad l).drop (64 * (l.length / 64)) = padTail (restOf l) ((l.length : Int) * 8) := by
    rw [pad_split, List.drop_append_of_le_length (by omega)]
    rw [show (l.take (64 * (l.length / 64))).drop (64 * (l.length / 64)) = [] from List.drop_eq_nil_of_le (by omega), List.nil_append]
  have hl : (pad l).length / 64 = l.length / 64 + (padTail (restOf l) ((l.length : Int) * 8)).length / 64 := by
    rw [pad_split, List.length_append, ht]; omega
  unfold sm3
  rw [hl, absorb_add, hd]
  congr 2
  unfold stOf
  refine absorb_congr _ _ _ _ fun i hi => ?_
  rw [pad]
  simp only [List.append_assoc]
  exact (getD_append_left l _ i (by omega)).symm
end Go.Proofs.Ytmhjbkkbbhioeaa
