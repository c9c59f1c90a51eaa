/- The package's SM3 object: writing, and which blocks it turns. No condition. -/
import Derived.Test.YtmhjbkkbbhioeaaWrite
import Derived.Test.YtmhjbkkbbhioeaaPadF
namespace Go.Proofs.Ytmhjbkkbbhioeaa
open Go.RowKit

/-- Of the blocks that were there only b and that of v are turned; and v' lies in none of the others. -/
def Fb (b : Nat) (w : World) (v : Value) (w' : World) (v' : Value) : Prop := ∀ k, k < w.heap.size → k ≠ b → k ≠ blk v → w'.heap[k]? = w.heap[k]? ∧ k ≠ blk v'

def WritePostF (w : World) (base b : Nat) (s : St) (N : Int) (v : Value) (t : List Int) (n : Nat) (e : Ending) (w' : World) : Prop :=
  e = .returned (.tuple #[.int .i64 n, .nilIface]) ∧ ∃ v', Blk w' b 55 (smCells (absorb t (t.length / 64) s) (N + 8 * n) v') ∧ OwnS w' base v' (t.drop (64 * (t.length / 64))) ∧ Below base w w' ∧ Fb b w v w' v'

set_option maxRecDepth 100000 in
set_option maxHeartbeats 1000000 in
theorem write_f (base b : Nat) (s : St) (N : Int) (v : Value) (u p : List Int) (A : Option Addr) (n c : Nat) (w : World) (hb : base ≤ b) (hO : Blk w b 55 (smCells s N v)) (hV : OwnS w base v u) (hr : Src w b A n p)
    (hby : ∀ x ∈ u ++ p, 0 ≤ x ∧ x ≤ 255) (hN : 0 ≤ N ∧ N ≤ 8000000) (hn : n ≤ 1000000) (hu : u.length < 64) :
    Calls Try.prog 28 #[.pointer (some ⟨b, 0, none⟩), .slice A n c] w (WritePostF w base b s N v (u ++ p) n) := by
  have hp : p.length = n := by have := (hr w (fun _ _ => rfl)).1; simpa using this
  have hlt := hO.lt
  have hbw : base ≤ w.heap.size := by omega
  have c8 := hO.cell 8
  have c9 := hO.cell 9
  rw [smCells_8] at c8
  rw [smCells_9] at c9
  have z8 := hO.frozen 8
  have hO1 : Blk (w.setCell ⟨b, 8, none⟩ (.int .u64 (N + (n : Int) * 8))) b 55 (smCells s (N + (n : Int) * 8) v) := by
    have := hO.set_ 8 (.int .u64 (N + (n : Int) * 8)); rwa [smCells_set8] at this
  have hV1 : OwnS (w.setCell ⟨b, 8, none⟩ (.int .u64 (N + (n : Int) * 8))) base v u := hV.keep fun k cs hk _ => hk.far (p := ⟨b, 8, none⟩) (blk_ne hk hO (by decide)) _
  have hr1 : Reads (w.setCell ⟨b, 8, none⟩ (.int .u64 (N + (n : Int) * 8))) w.heap.size 1 A n (p.map (Value.int .u8)) := hr _ fun k hk => Below.heap_setCell w ⟨b, 8, none⟩ _ k hk
  have hB1 : Below base w (w.setCell ⟨b, 8, none⟩ (.int .u64 (N + (n : Int) * 8))) := (Below.refl _ _).setCell hb _
  obtain ⟨L, hL⟩ : ∃ L, (u ++ p).length = L := ⟨_, rfl⟩
  have hLb : L ≤ 1000100 := by rw [← hL, List.length_append]; omega
  go_enter Try.func28, Try.ntmps28
  go_wp2_with (first
    | (go_at_call 32; refine (blockSize_any _ _).mono ?_; rintro e w' ⟨rfl, rfl⟩)
    | (at_builtin; refine app_f _ rfl (.tmp 25) (.tmp 26) rfl base v u rfl hV1 w.heap.size A n c p rfl hr1 (by omega) (by simp [World.setCell]; omega) ?_
       intro v2 w2 hV2 hB2 hK2 hA2 hF2
       have hO2 := hK2 b 55 _ (by decide) hO1
       obtain ⟨g2, o2, d2, e2, hd2, hm2⟩ := hV2.form
       rw [hL] at e2 hd2
       subst e2))
  have hc2 := hV2.cell
  refine (update_any s b _ g2 o2 L d2 (u ++ p) w2 hd2 hm2 hL (fun _ => ⟨rfl, hc2.2.1, fun j hj => hc2.2.2.2.2.2 j hj, hby⟩) hO2.lt #[.int .u64 (N + (n : Int) * 8), v] hO2 rfl).mono ?_
  rintro e w3 ⟨rfl, hO3, hG3⟩
  have hB3 : Below base w w3 := (hB1.trans hB2).trans ⟨hG3.os, hG3.tape, hG3.output, hG3.size, fun k hk => hG3.block k (by have := hO2.lt; omega) (by simp; omega)⟩
  have hF3 : Fb b w v w3 (Value.slice (some ⟨g2, o2, none⟩) L d2) := fun k hk hkb hkv => by
    obtain ⟨a1, b1⟩ := hF2 k (by simpa [World.setCell] using hk) hkv
    refine ⟨(hG3.block k (by have := hB2.size; simp [World.setCell] at this; omega) (by simpa using hkb)).trans (a1.trans (Below.heap_setCell w ⟨b, 8, none⟩ _ k hkb)), b1⟩
  have hV3 : OwnS w3 base (Value.slice (some ⟨g2, o2, none⟩) L d2) (u ++ p) := hV2.keep fun k cs hk _ => (hG3.block k hk.lt (by have := blk_ne hk hO2 (by decide); simpa using this)).trans hk
  have hO3' : Blk w3 b 55 (smCells (absorb (u ++ p) (L / 64) s) (N + (n : Int) * 8) v) := hO3
  have hV4 := hV3.cut (L / 64 * 64) (by omega)
  have c9' := hO3'.cell 9
  rw [smCells_9] at c9'
  have z9 := hO3'.frozen 9
  have fin : ∀ v', OwnS w3 base v' ((u ++ p).drop (L / 64 * 64)) → blk v' = g2 → WritePostF w base b s N v (u ++ p) n (.returned (.tuple #[.int .i64 n, .nilIface])) (w3.setCell ⟨b, 9, none⟩ v') := fun v' hv' hbk => by
    refine ⟨rfl, v', ?_, ?_, hB3.setCell hb _, fun k hk hkb hkv => ?_⟩
    · have := hO3'.set_ 9 v'
      rw [smCells_set9] at this
      rw [hL, Int.mul_comm 8]
      exact this
    · rw [hL, Nat.mul_comm 64]
      exact hv'.keep fun k cs hk _ => hk.far (p := ⟨b, 9, none⟩) (blk_ne hk hO3' (by decide)) _
    · obtain ⟨a1, b1⟩ := hF3 k hk hkb hkv
      exact ⟨(Below.heap_setCell w3 ⟨b, 9, none⟩ v' k hkb).trans a1, by rw [hbk]; exact b1⟩
  clear hO3 hG3 hB3 hV2 hc2 hr1 hr hF2 hF3
  have hdm : d2 ≤ 9223372036854775807 := by unfold maxLen at hm2; omega
  by_cases hq : d2 = L / 64 * 64
  · rw [if_pos hq] at hV4
    obtain rfl : d2 = L := by omega
    have hK := hq.symm
    clear hq
    rw [hK] at hV4 fin
    rw [Nat.sub_self] at hV4
    have F := fin _ hV4 rfl
    have HF := Lib.hid F
    clear F fin hV4
    go_wp2_with (go_at_call 32; refine (blockSize_any _ _).mono ?_; rintro e w' ⟨rfl, rfl⟩)
    go_ret2
    exact HF.out
  · rw [if_neg hq] at hV4
    have F := fin _ hV4 rfl
    have HF := Lib.hid F
    clear F fin hV4
    go_wp2_with (go_at_call 32; refine (blockSize_any _ _).mono ?_; rintro e w' ⟨rfl, rfl⟩)
    go_ret2
    exact HF.out
end Go.Proofs.Ytmhjbkkbbhioeaa
