/- The package's SM3 object: writing. -/
import Derived.Test.YtmhjbkkbbhioeaaPad
namespace Go.Proofs.Ytmhjbkkbbhioeaa
open Go.RowKit

theorem blockSize_any (p : Value) (w : World) : Calls Try.prog 32 #[p] w fun e w' => e = .returned (.int .i64 64) ∧ w = w' := by
  go_enter Try.func32, Try.ntmps32
  go_wp2
  go_ret
  exact ⟨rfl, rfl⟩
theorem size_any (p : Value) (w : World) : Calls Try.prog 31 #[p] w fun e w' => e = .returned (.int .i64 32) ∧ w = w' := by
  go_enter Try.func31, Try.ntmps31
  go_wp2
  go_ret
  exact ⟨rfl, rfl⟩

/-- An SM3 object at block b: the state, eight times how many bytes were written, what is not handled yet. -/
def Obj3 (w : World) (base b : Nat) (s : St) (N : Int) (u : List Int) : Prop := ∃ v, Blk w b 55 (smCells s N v) ∧ OwnS w base v u

/-- Bytes that can be read, and go on to be while only block b changes. -/
def Src (w : World) (b : Nat) (A : Option Addr) (n : Nat) (p : List Int) : Prop := ∀ W : World, (∀ k, k ≠ b → W.heap[k]? = w.heap[k]?) → Reads W w.heap.size 1 A n (p.map (Value.int .u8))

def WritePost (w : World) (base b : Nat) (s : St) (N : Int) (t : List Int) (n : Nat) (e : Ending) (w' : World) : Prop :=
  e = .returned (.tuple #[.int .i64 n, .nilIface]) ∧ Obj3 w' base b (absorb t (t.length / 64) s) (N + 8 * n) (t.drop (64 * (t.length / 64))) ∧ Below base w w'

theorem OwnS.form {w : World} {base : Nat} {v : Value} {u : List Int} (h : OwnS w base v u) : ∃ g o c, v = .slice (some ⟨g, o, none⟩) u.length c ∧ u.length ≤ c ∧ c ≤ maxLen := by
  obtain ⟨g, o, c, _, e, _, _, h1, h2, _⟩ := h
  exact ⟨g, o, c, e, h1, h2⟩
theorem blk_ne {w : World} {k g : Nat} {t t' : TypeId} {cs cs' : Array Value} (h : Blk w k t cs) (h' : Blk w g t' cs') (hne : t ≠ t') : k ≠ g := by
  rintro rfl
  unfold Blk at h h'
  rw [h] at h'
  injection h' with h'
  injection h' with _ ht
  exact hne ht
/-- What is cut off at the front. -/
theorem OwnS.cut {w : World} {base g o n c : Nat} {u : List Int} (h : OwnS w base (.slice (some ⟨g, o, none⟩) n c) u) (k : Nat) (hk : k ≤ n) :
    OwnS w base (.slice (if c = k then some ⟨g, o, none⟩ else some ⟨g, o + k, none⟩) (n - k) (c - k)) (u.drop k) := by
  obtain ⟨g', o', c', cur, e, h1, h2, h3, h4, h5, h6⟩ := h
  injection e with e1 e2 e3
  injection e1 with e1
  injection e1 with e1 e4
  subst e1 e2 e3 e4
  by_cases hck : c = k
  · rw [if_pos hck]
    exact ⟨g, o, c - k, cur, by rw [List.length_drop], h1, h2, by rw [List.length_drop]; omega, by omega, by omega, fun j hj => by rw [List.length_drop] at hj; omega⟩
  · rw [if_neg hck]
    refine ⟨g, o + k, c - k, cur, by rw [List.length_drop], h1, h2, by rw [List.length_drop]; omega, by omega, by omega, fun j hj => ?_⟩
    rw [List.length_drop] at hj
    rw [show o + k + j = o + (k + j) by omega, h6 _ (by omega), List.getD_eq_getElem?_getD, List.getD_eq_getElem?_getD, List.getElem?_drop]

theorem smCells_set8 (s : St) (N M : Int) (v : Value) : (smCells s N v).setIfInBounds 8 (.int .u64 M) = smCells s M v := by simp [smCells, St.cells]
theorem smCells_set9 (s : St) (N : Int) (v v' : Value) : (smCells s N v).setIfInBounds 9 v' = smCells s N v' := by simp [smCells, St.cells]

set_option maxRecDepth 100000 in
set_option maxHeartbeats 1000000 in
theorem write_any (base b : Nat) (s : St) (N : Int) (u p : List Int) (A : Option Addr) (n c : Nat) (w : World) (hb : base ≤ b) (hO : Obj3 w base b s N u) (hr : Src w b A n p)
    (hby : ∀ x ∈ u ++ p, 0 ≤ x ∧ x ≤ 255) (hN : 0 ≤ N ∧ N ≤ 8000000) (hn : n ≤ 1000000) (hu : u.length < 64) :
    Calls Try.prog 28 #[.pointer (some ⟨b, 0, none⟩), .slice A n c] w (WritePost w base b s N (u ++ p) n) := by
  obtain ⟨v, hO, hV⟩ := hO
  have hp : p.length = n := by have := (hr w (fun _ _ => rfl)).1; simpa using this
  have hlt := hO.lt
  have hbw : base ≤ w.heap.size := by omega
  have c8 := hO.cell 8
  have c9 := hO.cell 9
  rw [smCells_8] at c8
  rw [smCells_9] at c9
  have z8 := hO.frozen 8
  have hO1 : Blk (w.setCell ⟨b, 8, none⟩ (.int .u64 (N + (n : Int) * 8))) b 55 (smCells s (N + (n : Int) * 8) v) := by
    have := hO.set_ 8 (.int .u64 (N + (n : Int) * 8)); rwa [smCells_set8] at this
  have hV1 : OwnS (w.setCell ⟨b, 8, none⟩ (.int .u64 (N + (n : Int) * 8))) base v u := hV.keep fun k cs hk _ => hk.far (p := ⟨b, 8, none⟩) (blk_ne hk hO (by decide)) _
  have hr1 : Reads (w.setCell ⟨b, 8, none⟩ (.int .u64 (N + (n : Int) * 8))) w.heap.size 1 A n (p.map (Value.int .u8)) := hr _ fun k hk => Below.heap_setCell w ⟨b, 8, none⟩ _ k hk
  have hB1 : Below base w (w.setCell ⟨b, 8, none⟩ (.int .u64 (N + (n : Int) * 8))) := (Below.refl _ _).setCell hb _
  obtain ⟨L, hL⟩ : ∃ L, (u ++ p).length = L := ⟨_, rfl⟩
  have hLb : L ≤ 1000100 := by rw [← hL, List.length_append]; omega
  go_enter Try.func28, Try.ntmps28
  go_wp2_with (first
    | (go_at_call 32; refine (blockSize_any _ _).mono ?_; rintro e w' ⟨rfl, rfl⟩)
    | (at_builtin; refine app_s _ rfl (.tmp 25) (.tmp 26) rfl base v u rfl hV1 w.heap.size A n c p rfl hr1 (by omega) (by simp [World.setCell]; omega) ?_
       intro v2 w2 hV2 hB2 hK2 hA2
       have hO2 := hK2 b 55 _ (by decide) hO1
       obtain ⟨g2, o2, d2, e2, hd2, hm2⟩ := hV2.form
       rw [hL] at e2 hd2
       subst e2))
  have hc2 := hV2.cell
  refine (update_any s b _ g2 o2 L d2 (u ++ p) w2 hd2 hm2 hL (fun _ => ⟨rfl, hc2.2.1, fun j hj => hc2.2.2.2.2.2 j hj, hby⟩) hO2.lt #[.int .u64 (N + (n : Int) * 8), v] hO2 rfl).mono ?_
  rintro e w3 ⟨rfl, hO3, hG3⟩
  have hB3 : Below base w w3 := (hB1.trans hB2).trans ⟨hG3.os, hG3.tape, hG3.output, hG3.size, fun k hk => hG3.block k (by have := hO2.lt; omega) (by simp; omega)⟩
  have hV3 : OwnS w3 base (Value.slice (some ⟨g2, o2, none⟩) L d2) (u ++ p) := hV2.keep fun k cs hk _ => (hG3.block k hk.lt (by have := blk_ne hk hO2 (by decide); simpa using this)).trans hk
  have hO3' : Blk w3 b 55 (smCells (absorb (u ++ p) (L / 64) s) (N + (n : Int) * 8) v) := hO3
  have hV4 := hV3.cut (L / 64 * 64) (by omega)
  have c9' := hO3'.cell 9
  rw [smCells_9] at c9'
  have z9 := hO3'.frozen 9
  have fin : ∀ v', OwnS w3 base v' ((u ++ p).drop (L / 64 * 64)) → WritePost w base b s N (u ++ p) n (.returned (.tuple #[.int .i64 n, .nilIface])) (w3.setCell ⟨b, 9, none⟩ v') := fun v' hv' => by
    refine ⟨rfl, ⟨v', ?_, ?_⟩, hB3.setCell hb _⟩
    · have := hO3'.set_ 9 v'
      rw [smCells_set9] at this
      rw [hL, Int.mul_comm 8]
      exact this
    · rw [hL, Nat.mul_comm 64]
      exact hv'.keep fun k cs hk _ => hk.far (p := ⟨b, 9, none⟩) (blk_ne hk hO3' (by decide)) _
  clear hO3 hG3 hB3 hV2 hc2 hr1 hr
  have hdm : d2 ≤ 9223372036854775807 := by unfold maxLen at hm2; omega
  by_cases hq : d2 = L / 64 * 64
  · rw [if_pos hq] at hV4
    obtain rfl : d2 = L := by omega
    have hK := hq.symm
    clear hq
    rw [hK] at hV4 fin
    rw [Nat.sub_self] at hV4
    have F := fin _ hV4
    have HF := Lib.hid F
    clear F fin hV4
    go_wp2_with (go_at_call 32; refine (blockSize_any _ _).mono ?_; rintro e w' ⟨rfl, rfl⟩)
    go_ret2
    exact HF.out
  · rw [if_neg hq] at hV4
    have F := fin _ hV4
    have HF := Lib.hid F
    clear F fin hV4
    go_wp2_with (go_at_call 32; refine (blockSize_any _ _).mono ?_; rintro e w' ⟨rfl, rfl⟩)
    go_ret2
    exact HF.out
end Go.Proofs.Ytmhjbkkbbhioeaa
