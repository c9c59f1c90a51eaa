/- The package's hash of some bytes, and the law FnHash. -/
import Derived.Test.YtmhjbkkbbhioeaaSum
import Derived.Test.YtmhjbkkbbhioeaaLawp
namespace Go.Proofs.Ytmhjbkkbbhioeaa
open Go.RowKit

theorem reset_any (base b : Nat) (s : St) (N : Int) (v : Value) (w : World) (hbb : base ≤ b) (hb : Blk w b 55 (smCells s N v)) :
    Calls Try.prog 30 #[.pointer (some ⟨b, 0, none⟩)] w fun e w' => e = .returned (.tuple #[]) ∧ Obj3 w' base b St.start 0 [] ∧ w.grownBy w' (some b) := by
  have c0 := hb.cell 0
  have c1 := hb.cell 1
  have c2 := hb.cell 2
  have c3 := hb.cell 3
  have c4 := hb.cell 4
  have c5 := hb.cell 5
  have c6 := hb.cell 6
  have c7 := hb.cell 7
  have c8 := hb.cell 8
  have c9 := hb.cell 9
  simp [smCells, St.cells] at c0 c1 c2 c3 c4 c5 c6 c7 c8 c9
  have z0 := hb.frozen 0
  have z1 := hb.frozen 1
  have z2 := hb.frozen 2
  have z3 := hb.frozen 3
  have z4 := hb.frozen 4
  have z5 := hb.frozen 5
  have z6 := hb.frozen 6
  have z7 := hb.frozen 7
  have z8 := hb.frozen 8
  have z9 := hb.frozen 9
  have hlt := hb.lt
  go_enter Try.func30, Try.ntmps30
  go_wp2
  go_end0
  show _ ∧ Obj3 ((((store8 w b St.start).setCell ⟨b, 8, none⟩ (.int .u64 0)).setCell ⟨b, 9, none⟩ (.slice (some ⟨w.heap.size, 0, none⟩) 0 0)).alloc (.cells #[] 5)) base b St.start 0 [] ∧ w.grownBy ((((store8 w b St.start).setCell ⟨b, 8, none⟩ (.int .u64 0)).setCell ⟨b, 9, none⟩ (.slice (some ⟨w.heap.size, 0, none⟩) 0 0)).alloc (.cells #[] 5)) (some b)
  have h1 : Blk (store8 w b St.start) b 55 (smCells St.start N v) := store8_sm hb St.start
  have h2 := h1.set_ 8 (.int .u64 0)
  rw [smCells_set8] at h2
  have h3 := h2.set_ 9 (.slice (some ⟨w.heap.size, 0, none⟩) 0 0)
  rw [smCells_set9] at h3
  have hsz : (((store8 w b St.start).setCell ⟨b, 8, none⟩ (.int .u64 0)).setCell ⟨b, 9, none⟩ (.slice (some ⟨w.heap.size, 0, none⟩) 0 0)).heap.size = w.heap.size := by
    have := store8_size w b St.start
    simpa [World.setCell] using this
  refine ⟨rfl, ⟨_, h3.alloc _, ?_⟩, grown_alloc (grown_setCell (grown_setCell (grown_store8 (World.grownBy.refl w _) _) _ _) _ _) _⟩
  have := OwnS.new (((store8 w b St.start).setCell ⟨b, 8, none⟩ (.int .u64 0)).setCell ⟨b, 9, none⟩ (.slice (some ⟨w.heap.size, 0, none⟩) 0 0)) (base := base) (by rw [hsz]; omega) #[] [] rfl (by unfold maxLen; simp)
  rw [hsz] at this
  exact this

def St.zero : St := ⟨0, 0, 0, 0, 0, 0, 0, 0⟩
theorem Obj3.lt {w : World} {base b : Nat} {s : St} {N : Int} {u : List Int} (h : Obj3 w base b s N u) : b < w.heap.size := let ⟨_, h, _⟩ := h; h.lt

theorem sm3sum_any (A : Option Addr) (n c : Nat) (l : List Int) (w : World) (hr : Reads w w.heap.size 1 A n (l.map (Value.int .u8))) (hby : ∀ x ∈ l, 0 ≤ x ∧ x ≤ 255) (hn : n ≤ 1000000) :
    Calls Try.prog 22 #[.slice A n c] w (RetBytes w (sm3 l)) := by
  have hln : l.length = n := by have := hr.1; simpa using this
  have hO0 : Blk (w.alloc (.cells (smCells St.zero 0 (.slice none 0 0)) 55)) w.heap.size 55 (smCells St.zero 0 (.slice none 0 0)) := Blk.new w 55 _
  go_enter Try.func22, Try.ntmps22
  go_wp2_with fail
  refine (reset_any w.heap.size w.heap.size St.zero 0 (.slice none 0 0) _ (Nat.le_refl _) hO0).mono ?_
  rintro e w1 ⟨rfl, hO1, hG1⟩
  have hB1 : Below w.heap.size w w1 := ((Below.refl w.heap.size w).alloc (Nat.le_refl _) _).trans ⟨hG1.os, hG1.tape, hG1.output, hG1.size, fun k hk => hG1.block k (by simp; omega) (by simp; omega)⟩
  go_wp2_with fail
  have hsrc : Src w1 w.heap.size A n l := fun W hW => (hr.keep fun p hp => (World.cell?_of_block (hW p.block (by omega))).trans (hB1.cell hp)).more hB1.size
  refine (write_any w.heap.size w.heap.size St.start 0 [] l A n c w1 (Nat.le_refl _) hO1 hsrc (by simpa using hby) (by omega) hn (by simp)).mono ?_
  rintro e w2 ⟨rfl, hO2, hB2⟩
  simp only [List.nil_append] at hO2
  have hO2' : Obj3 w2 w.heap.size w.heap.size (stOf l) ((l.length : Int) * 8) (restOf l) := by
    rw [show (l.length : Int) * 8 = 0 + 8 * (n : Int) by omega]; exact hO2
  clear hO2 hO1
  go_wp2_with fail
  refine (sum_any w.heap.size w.heap.size (stOf l) ((l.length : Int) * 8) (restOf l) none w2 (Nat.le_refl _) hO2' (stOf_U l) (fun x hx => hby x (List.mem_of_mem_drop hx)) (by omega) (rest_length l)).mono ?_
  rintro e w3 ⟨v, rfl, hv, _, hB3⟩
  rw [sm3_parts] at hv
  go_wp2_with fail
  go_ret
  exact ⟨v, rfl, hv, (hB1.trans hB2).trans hB3⟩

theorem OwnB.mono {w : World} {base base' : Nat} {v : Value} {l : List Int} (h : OwnB w base v l) (hb : base' ≤ base) : OwnB w base' v l :=
  ⟨h.1, h.2.imp id fun ⟨g, c, cur, h1, h2, h3⟩ => ⟨g, c, cur, h1, Nat.le_trans hb h2, h3⟩⟩
/-- A slice of the call's own, as it is written. -/
theorem OwnB.shape {w : World} {base : Nat} {v : Value} {l : List Int} (h : OwnB w base v l) : ∃ A c, v = .slice A l.length c := by
  rcases h.2 with ⟨e, h0⟩ | ⟨g, cap, cur, e, _⟩
  · refine ⟨none, 0, ?_⟩
    rw [h0]; exact e
  · exact ⟨_, _, e⟩
theorem hash_any (A : Option Addr) (n c : Nat) (l : List Int) (w : World) (hr : Reads w w.heap.size 1 A n (l.map (Value.int .u8))) (hby : ∀ x ∈ l, 0 ≤ x ∧ x ≤ 255) (hn : n ≤ 1000000) :
    Calls Try.prog 12 #[.slice A n c] w (RetBytes w (sm3 l)) := by
  have hln : l.length = n := by have := hr.1; simpa using this
  subst hln
  go_enter Try.func12, Try.ntmps12
  go_wp2_with fail
  refine (own_any A _ c l w hr (by omega)).mono ?_
  rintro e w1 ⟨v, rfl, hv, hB1⟩
  obtain ⟨A1, c1, e1⟩ := hv.shape
  subst e1
  have hrv := hv.reads.2
  go_wp2_with fail
  refine (sm3sum_any A1 l.length c1 l w1 hrv hby (by omega)).mono ?_
  rintro e w2 ⟨v2, rfl, hv2, hB2⟩
  go_wp2_with fail
  go_ret
  exact ⟨v2, rfl, hv2.mono hB1.size, hB1.trans (hB2.mono hB1.size)⟩

theorem fnhash_any (A : Option Addr) (n c : Nat) (l : List Int) (w : World) (hr : Reads w w.heap.size 1 A n (l.map (Value.int .u8))) (hby : ∀ x ∈ l, 0 ≤ x ∧ x ≤ 255) (hm : n ≤ maxLen) :
    Calls Try.prog 5 #[.slice A n c] w fun e w' => e = .returned (.bool true) ∧ Below w.heap.size w w' := by
  unfold maxLen at hm
  by_cases h1 : 2147483647 < n
  · have h1' : (2147483647 : Int) < (n : Int) := by omega
    go_enter Try.func5, Try.ntmps5
    go_wp2
    go_ret
    exact ⟨rfl, Below.refl _ _⟩
  · have h1' : ¬ (2147483647 : Int) < (n : Int) := by omega
    by_cases h2 : 4096 < n
    · have h2' : (4096 : Int) < (n : Int) := by omega
      go_enter Try.func5, Try.ntmps5
      go_wp2_with fail
      go_ret
      exact ⟨rfl, Below.refl _ _⟩
    · have h2' : ¬ (4096 : Int) < (n : Int) := by omega
      go_enter Try.func5, Try.ntmps5
      go_wp2_with fail
      refine (hash_any A n c l w hr hby (by omega)).mono ?_
      rintro e w1 ⟨v1, rfl, hv1, hB1⟩
      go_wp2_with fail
      refine (sm3_any A n c l w1 ((hr.below hB1).more hB1.size) hby (by omega)).mono ?_
      rintro e w2 ⟨v2, rfl, hv2, hB2⟩
      have hv1' := hv1.below hB2 (Nat.le_refl _)
      have hl32 : 0 < (sm3 l).length := by unfold sm3; exact Nat.zero_lt_succ _
      obtain ⟨g1, c1, e1, _⟩ := hv1'.form hl32
      obtain ⟨g2, c2, e2, _⟩ := hv2.form hl32
      subst e1
      subst e2
      go_wp2_with fail
      refine (same_any _ _ _ _ _ _ (sm3 l) w2 hv1'.reads.2 hv2.reads.2).mono ?_
      rintro e w3 ⟨rfl, rfl⟩
      go_wp2_with fail
      go_ret
      exact ⟨rfl, hB1.trans (hB2.mono hB1.size)⟩
end Go.Proofs.Ytmhjbkkbbhioeaa
