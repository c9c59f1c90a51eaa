/- Bytes are padded to whole blocks. No condition but how many there are. -/
import Derived.Test.YteioblloppcjoaaDoorXor
import Derived.Deep.OwnRows
import Derived.Laws.MakeOwn
namespace Go.Proofs.YteioblloppcjoaaDoor
set_option maxRecDepth 100000
open Go.RowKit

theorem info5' : (Tryd.prog.info? 5).map (fun i => (i.zero, i.size, i.bytes)) = some (some (.int .u8 0), 1, 1) := by kernel_rfl
theorem Bys.made (w : World) (n : Nat) : Bys (w.alloc (.cells (madeCells #[.int .u8 0] n) 5)) w.heap.size n :=
  ⟨fun _ => 0, ⟨_, Blk.new w 5 _, by rw [size_madeCells]; omega, fun j hj => by
    rw [← Array.getElem?_toList, toList_madeCells_one]
    simp [hj]⟩, fun _ _ => ⟨Int.le_refl 0, by show (0 : Int) ≤ 255; omega⟩⟩
theorem Only.to_below' {w w' : World} (h : Only [] w w') : Below w.heap.size w w' := h.to_below (Nat.le_refl _) (by simp)

/-- Whole blocks come back, in a block of their own. -/
def GotP (base : Nat) (w : World) (e : Ending) (w' : World) : Prop := ∃ g k c, e = .returned (.slice (some ⟨g, 0, none⟩) (16 * k) c) ∧ 16 * k ≤ c ∧ k ≤ 40 ∧ base ≤ g ∧ Bys w' g (16 * k) ∧ Below base w w'

theorem Bys.list {w : World} {g n : Nat} (h : Bys w g n) : ∃ l : List Int, l.length = n ∧ Reads w w.heap.size 1 (some ⟨g, 0, none⟩) n (l.map (Value.int .u8)) ∧ ∀ x ∈ l, 0 ≤ x ∧ x ≤ 255 := by
  obtain ⟨f, ha, hf⟩ := h
  refine ⟨(List.range n).map f, by simp, ha.reads, fun x hx => ?_⟩
  obtain ⟨j, hj, rfl⟩ := List.mem_map.1 hx
  exact hf j (by simpa using hj)
theorem OwnB.bys {w : World} {base g n c : Nat} {l : List Int} (h : OwnB w base (.slice (some ⟨g, 0, none⟩) n c) l) (hl : ∀ x ∈ l, 0 ≤ x ∧ x ≤ 255) (hn : l.length = n) : base ≤ g ∧ n ≤ c ∧ Bys w g n := by
  subst hn
  obtain ⟨h1, h2, _, h4⟩ := ArrB.of_own h
  exact ⟨h1, h2, _, h4, fun j _ => byte_getD hl j⟩

set_option maxHeartbeats 1000000 in
theorem pad_any (A : Option Addr) (n c base : Nat) (l : List Int) (w : World) (hl : l.length = n) (hown : OwnB w base (.slice A n c) l) (hby : ∀ x ∈ l, 0 ≤ x ∧ x ≤ 255) (hn : n ≤ 500) (hb : base ≤ w.heap.size) :
    Calls Tryd.prog 20 #[.slice A n c] w (GotP base w) := by
  obtain ⟨r, q, e1, e2, hq, hq1, hq2⟩ : ∃ r q : Nat, (n : Int) % 16 = (r : Int) ∧ IntKind.i64.wrap (16 - (r : Int)) = (q : Int) ∧ (∃ k, n + q = 16 * k ∧ k ≤ 40 ∧ 0 < k) ∧ 1 ≤ q ∧ q ≤ 16 :=
    ⟨n % 16, 16 - n % 16, by omega, by rw [IntWalk.i64_in _ (by omega)]; omega, ⟨n / 16 + 1, by omega, by omega, by omega⟩, by omega, by omega⟩
  obtain ⟨k, hk, hk4, hk0⟩ := hq
  have HK := Lib.hid hk
  have HL := Lib.hid hl
  clear hk hl
  have hmk := run_make_row' (P := Tryd.prog) 22 5 (.int .u8 0) 1 Tryd.underlying22 info5' rfl .i64 .i64 q (by omega) (by omega)
  have e3 : 0 ≤ (n : Int) % 16 := by omega
  go_enter Tryd.func20, Tryd.ntmps20
  go_wp2_with fail
  go_loopw [14] (fun i wr => ∃ j : Nat, j ≤ q ∧ i = .int .i64 j ∧ Only [] w wr ∧ Bys wr w.heap.size q) (fun i _ => q - (intOf i).toNat)
  case atStart => exact ⟨0, by omega, rfl, (Only.refl _ _).alloc _, Bys.made w q⟩
  case round =>
    clear hmk
    obtain ⟨j, hj, rfl, ho, hbb⟩ := hrel
    by_cases hlt : j < q
    · obtain ⟨old, _, cold⟩ := hbb.at_ hlt
      have fz := hbb.frozen j
      have l1 : (j : Int) < (q : Int) := by omega
      have l2 : (q : Int) ≤ 255 := by omega
      go_wp2_with fail
      go_roundw
      case rel => exact ⟨j + 1, hlt, by go_num, ho.setCell (p := ⟨w.heap.size, j, none⟩) (fun h => absurd h (Nat.lt_irrefl _)) _, hbb.set_ j ⟨by omega, by omega⟩⟩
      case measure => simp [intOf]; omega
    · obtain rfl : j = q := by omega
      obtain ⟨pl, hpl, hpr, hpb⟩ := hbb.list
      have hown2 : OwnB wr base (.slice A n c) l := hown.below ho.to_below' (Nat.le_refl _)
      have hsz := ho.size
      clear e1 e2 e3 hlt hj
      have HP := Lib.hid hpl
      clear hpl
      go_wp2_with (at_builtin; refine app_bytes _ rfl (.tmp 23) (.tmp 24) rfl base _ l rfl hown2 wr.heap.size (some ⟨w.heap.size, 0, none⟩) j j pl rfl hpr (by rw [HL.out]; omega) (by omega) ?_; intro v1 w1 hown1 hb1)
      go_ret
      have hlen : (l ++ pl).length = 16 * k := by rw [List.length_append, HL.out, HP.out, HK.out]
      obtain ⟨g, c', e4, _⟩ := hown1.form (by omega)
      subst e4
      rw [hlen] at hown1 ⊢
      obtain ⟨h1, h2, h3⟩ := hown1.bys (fun x hx => by
        rcases List.mem_append.1 hx with h | h
        · exact hby x h
        · exact hpb x h) hlen
      exact ⟨g, k, c', rfl, h2, hk4, h1, h3, (ho.to_below hb (by simp)).trans hb1⟩
end Go.Proofs.YteioblloppcjoaaDoor
