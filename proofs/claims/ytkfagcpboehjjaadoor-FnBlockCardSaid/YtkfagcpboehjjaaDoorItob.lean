/- A number of at most a hundred as text; an error of a text. No condition but that a table of the library's holds a number. -/
import Derived.Test.YtkfagcpboehjjaaDoorItoa
namespace Go.Proofs.YtkfagcpboehjjaaDoor
set_option maxRecDepth 100000
open Go.RowKit

theorem run_string' (A : Option Addr) (n c : Nat) (l : List Int) (w : World) (hr : Reads w w.heap.size 1 A n (l.map (Value.int .u8))) (hl : l.length ≤ 100) :
    ∃ s : ByteArray, s.size ≤ 100 ∧ (convert 22 9 (.slice A n c)).run Tryd.prog w = .ok (.string s) w := by
  refine ⟨strOf l, ?_, run_string A n c l w hr⟩
  have : ∀ (l : List Int) (r : ByteArray), (l.foldl (fun r n => r.push (UInt8.ofNat n.toNat)) r).size = r.size + l.length := by
    intro l
    induction l with
    | nil => intro r; simp
    | cons x xs ih => intro r; rw [List.foldl_cons, ih, ByteArray.size_push, List.length_cons]; omega
  unfold strOf
  rw [this]
  simpa using hl
theorem zero85 (w : World) : (zeroValue 85).run Tryd.prog w = .ok (.agg ZA) w := by kernel_rfl

theorem D24.reads {g : Nat} {w : World} (h : D24 g w) (n : Nat) (hn : n ≤ 23) : ∃ l : List Int, l.length = n ∧ Reads w w.heap.size 1 (some ⟨g, 1, none⟩) n (l.map (Value.int .u8)) := by
  obtain ⟨cs, hb, hs, hc⟩ := h
  have hch : ∀ j : Nat, ∃ x : Int, j < 24 → cs[j]? = some (.int .u8 x) := fun j => by
    by_cases hj : j < 24
    · obtain ⟨x, hx⟩ := hc j hj; exact ⟨x, fun _ => hx⟩
    · exact ⟨0, fun h => absurd h hj⟩
  refine ⟨(List.range n).map fun j => (hch (1 + j)).choose, by simp, by simp, fun _ => ⟨_, rfl, hb.lt, fun j u hu => ?_⟩⟩
  have hj : j < n := by
    rcases Nat.lt_or_ge j n with h1 | h1
    · exact h1
    · rw [List.getElem?_eq_none (by simpa using h1)] at hu; cases hu
  rw [add_at, hb.cell, (hch (1 + j)).choose_spec (by omega)]
  simpa [hj] using hu

set_option maxHeartbeats 1000000 in
theorem format_hundred (x : Int) (w : World) (hx : w.cell? ⟨7, 2, none⟩ = some (.int .u64 x)) (h7 : 8 ≤ w.heap.size) : Calls Tryd.prog 66 #[.int .i64 100, .int .i64 10] w (SomeStr w) := by
  have hz := zero85
  have hx1 := (World.cell?_alloc_lt w (.cells ZA 85) ⟨7, 2, none⟩ (by show 7 < w.heap.size; omega)).trans hx
  have hb := Blk.new w 85 ZA
  have ho0 : Only [] w (w.alloc (.cells ZA 85)) := (Only.refl _ _).alloc _
  go_enter Tryd.func66, Tryd.ntmps66
  go_wp2_with fail
  refine (digits_any x _ hx1).mono ?_
  rintro e w' ⟨he, rfl⟩
  rcases he with rfl | rfl
  · go_wp2_with fail
    refine (base2_any w.heap.size _ hb).mono ?_
    rintro e w1 ⟨rfl, ho, hd⟩
    obtain ⟨l, hl, hr⟩ := hd.reads 2 (by omega)
    obtain ⟨s, hs, hcv⟩ := run_string' _ 2 23 l w1 hr (by omega)
    clear hr hl hd
    go_wp2_with fail
    go_ret
    exact ⟨s, rfl, hs, ho0.then_ ho (by intro k hk hl; simp at hk; omega)⟩
  · go_wp2_with fail
    refine (base3_any w.heap.size _ hb).mono ?_
    rintro e w1 ⟨rfl, ho, hd⟩
    obtain ⟨l, hl, hr⟩ := hd.reads 3 (by omega)
    obtain ⟨s, hs, hcv⟩ := run_string' _ 3 23 l w1 hr (by omega)
    clear hr hl hd
    go_wp2_with fail
    go_ret
    exact ⟨s, rfl, hs, ho0.then_ ho (by intro k hk hl; simp at hk; omega)⟩
theorem format_any (n : Nat) (x : Int) (w : World) (hn : n ≤ 100) (hx : w.cell? ⟨7, 2, none⟩ = some (.int .u64 x)) (h7 : 8 ≤ w.heap.size) : Calls Tryd.prog 66 #[.int .i64 n, .int .i64 10] w (SomeStr w) := by
  by_cases h : n = 100
  · subst h; exact format_hundred x w hx h7
  · have l1 : (n : Int) < 100 := by omega
    go_enter Tryd.func66, Tryd.ntmps66
    go_wp2_with (go_at_call 73; refine (small_any n w (by omega)).mono ?_; rintro e w' ⟨s, rfl, hs, ho⟩)
    go_ret
    exact ⟨s, rfl, hs, ho⟩
theorem itoa23_any (n : Nat) (x : Int) (w : World) (hn : n ≤ 100) (hx : w.cell? ⟨7, 2, none⟩ = some (.int .u64 x)) (h7 : 8 ≤ w.heap.size) : Calls Tryd.prog 53 #[.int .i64 n] w (SomeStr w) := by
  go_enter Tryd.func53, Tryd.ntmps53
  go_wp2_with (go_at_call 66; refine (format_any n x w hn hx h7).mono ?_; rintro e w' ⟨s, rfl, hs, ho⟩)
  go_ret
  exact ⟨s, rfl, hs, ho⟩
theorem itoa_any (n : Nat) (x : Int) (w : World) (hn : n ≤ 100) (hx : w.cell? ⟨7, 2, none⟩ = some (.int .u64 x)) (h7 : 8 ≤ w.heap.size) : Calls Tryd.prog 40 #[.int .i64 n] w (SomeStr w) := by
  go_enter Tryd.func40, Tryd.ntmps40
  go_wp2_with (go_at_call 53; refine (itoa23_any n x w hn hx h7).mono ?_; rintro e w' ⟨s, rfl, hs, ho⟩)
  go_ret
  exact ⟨s, rfl, hs, ho⟩

/-- An error comes back. -/
def SomeErr (w : World) (e : Ending) (w' : World) : Prop := ∃ v, e = .returned (.iface 71 v) ∧ Only [] w w'
theorem new_any (s : ByteArray) (w : World) : Calls Tryd.prog 39 #[.string s] w (SomeErr w) := by
  go_enter Tryd.func39, Tryd.ntmps39
  go_wp2_with fail
  go_ret
  exact ⟨_, rfl, (Only.refl _ _).alloc _⟩
end Go.Proofs.YtkfagcpboehjjaaDoor
