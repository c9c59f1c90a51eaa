/- The package's call, exactly, where it goes well. No condition but where things lie. -/
import Derived.Test.YtkfagcpboehjjaaDoorClo
import Derived.WalkSpells
namespace Go.Proofs.YtkfagcpboehjjaaDoor
set_option maxRecDepth 100000
open Go.RowKit

/-- The bytes and true come back. -/
def GotF (n : Nat) (F : Nat → Int) (w : World) (e : Ending) (w' : World) : Prop := ∃ go c, e = .returned (.tuple #[.slice (some ⟨go, 0, none⟩) n c, .bool true]) ∧ w.heap.size ≤ go ∧ ArrB w' go n F ∧ Below w.heap.size w w'
/-- The captured cells, laid. -/
abbrev laid7 (w : World) (m : Int) (K V D : Value) (bk : Bool) : World :=
  ((((((w.alloc (.cells #[.int .i64 m] 3)).alloc (.cells #[K] 22)).alloc (.cells #[V] 22)).alloc (.cells #[D] 22)).alloc (.cells #[.bool bk] 4)).alloc (.cells #[.slice none 0 0] 22)).alloc (.cells #[.nilIface] 36)
theorem Blk.at_ {w : World} (N : Nat) (t : TypeId) (cs : Array Value) (h : N = w.heap.size) : Blk (w.alloc (.cells cs t)) N t cs := by subst h; exact Blk.new w t cs
theorem capt_laid (w : World) (m : Int) (K V D : Value) (bk : Bool) : Capt (laid7 w m K V D bk) w.heap.size m K V D bk :=
  ⟨((((((Blk.at_ _ _ _ rfl).alloc _).alloc _).alloc _).alloc _).alloc _).alloc _, (((((Blk.at_ _ _ _ (by simp)).alloc _).alloc _).alloc _).alloc _).alloc _, ((((Blk.at_ _ _ _ (by simp)).alloc _).alloc _).alloc _).alloc _,
   (((Blk.at_ _ _ _ (by simp)).alloc _).alloc _).alloc _, ((Blk.at_ _ _ _ (by simp)).alloc _).alloc _, (Blk.at_ _ _ _ (by simp)).alloc _, Blk.at_ _ _ _ (by simp)⟩
theorem only_laid (w : World) (m : Int) (K V D : Value) (bk : Bool) : Only [] w (laid7 w m K V D bk) := (((((((Only.refl _ _).alloc _).alloc _).alloc _).alloc _).alloc _).alloc _).alloc _

/-- What the closure is asked for. -/
def Asked (w : World) (m : Int) (K V D : Value) (bk : Bool) (n : Nat) (F : Nat → Int) : Prop :=
  ∀ Wa, Capt Wa w.heap.size m K V D bk → Only [] w Wa → Calls Tryd.prog 16 #[.pointer (some ⟨w.heap.size, 0, none⟩), .pointer (some ⟨w.heap.size + 1, 0, none⟩), .pointer (some ⟨w.heap.size + 6, 0, none⟩), .pointer (some ⟨w.heap.size + 5, 0, none⟩), .pointer (some ⟨w.heap.size + 4, 0, none⟩), .pointer (some ⟨w.heap.size + 3, 0, none⟩), .pointer (some ⟨w.heap.size + 2, 0, none⟩)] Wa (ClosDone w.heap.size n F Wa)

theorem calm_clos (w : World) (m : Int) (K V D : Value) (bk : Bool) (n : Nat) (F : Nat → Int) (ha : Asked w m K V D bk n F) :
    Calls Tryd.prog 15 #[.func (.func 16) #[] #[.pointer (some ⟨w.heap.size, 0, none⟩), .pointer (some ⟨w.heap.size + 1, 0, none⟩), .pointer (some ⟨w.heap.size + 6, 0, none⟩), .pointer (some ⟨w.heap.size + 5, 0, none⟩), .pointer (some ⟨w.heap.size + 4, 0, none⟩), .pointer (some ⟨w.heap.size + 3, 0, none⟩), .pointer (some ⟨w.heap.size + 2, 0, none⟩)]] (laid7 w m K V D bk)
      fun e w' => e = .returned (.bool true) ∧ Below w.heap.size w w' ∧ (∃ go c, Blk w' (w.heap.size + 5) 22 #[.slice (some ⟨go, 0, none⟩) n c] ∧ w.heap.size + 7 < go ∧ ArrB w' go n F) ∧ Blk w' (w.heap.size + 6) 36 #[.nilIface] := by
  have ho := only_laid w m K V D bk
  have hsz : (laid7 w m K V D bk).heap.size = w.heap.size + 7 := by simp
  have ho2 : Only [] (laid7 w m K V D bk) ((laid7 w m K V D bk).alloc (.cells #[.bool false] 4)) := (Only.refl _ _).alloc _
  have hk : Blk ((laid7 w m K V D bk).alloc (.cells #[.bool false] 4)) (laid7 w m K V D bk).heap.size 4 #[.bool false] := Blk.new _ _ _
  have hsz2 : ((laid7 w m K V D bk).alloc (.cells #[.bool false] 4)).heap.size = w.heap.size + 8 := by simp
  refine (calm_any 16 _ (fun w' => Only [w.heap.size + 5, w.heap.size + 6] ((laid7 w m K V D bk).alloc (.cells #[.bool false] 4)) w' ∧ (∃ go c, Blk w' (w.heap.size + 5) 22 #[.slice (some ⟨go, 0, none⟩) n c] ∧ w.heap.size + 8 ≤ go ∧ ArrB w' go n F) ∧ Blk w' (w.heap.size + 6) 36 #[.nilIface]) (laid7 w m K V D bk) (fun _ => by kernel_rfl) ?_).mono ?_
  · refine (ha _ ((capt_laid w m K V D bk).only ho2) (ho.trans ho2)).mono ?_
    rintro e w' ⟨rfl, h1, ⟨go, c, h2, h2', h2''⟩, h3⟩
    exact ⟨rfl, h1.blk hk (by rw [hsz]; simp), h1, ⟨go, c, h2, by rw [hsz2] at h2'; exact h2', h2''⟩, h3⟩
  · rintro e w'' ⟨rfl, w', ⟨h1, ⟨go, c, h2, h2', h2''⟩, h3⟩, rfl⟩
    refine ⟨rfl, ?_, ⟨go, c, h2.far (p := ⟨_, 0, none⟩) (by show w.heap.size + 5 ≠ (laid7 w m K V D bk).heap.size; omega) _, by omega, ?_⟩, h3.far (p := ⟨_, 0, none⟩) (by show w.heap.size + 6 ≠ (laid7 w m K V D bk).heap.size; omega) _⟩
    · refine Below.setCell (((ho.trans ho2).to_below (Nat.le_refl _) (by simp)).trans (h1.to_below (by simp; omega) (by intro k hk; simp at hk; omega))) (p := ⟨_, 0, none⟩) (by show w.heap.size ≤ (laid7 w m K V D bk).heap.size; omega) _
    · exact h2''.only ((Only.refl [(laid7 w m K V D bk).heap.size] w').setCell (p := ⟨(laid7 w m K V D bk).heap.size, 0, none⟩) (fun _ => by simp) _) (by simp; omega)
set_option maxHeartbeats 1000000 in
theorem impl_ok (m : Int) (K V A : Option Addr) (nk ck cv n c : Nat) (bk : Bool) (r : Nat) (F : Nat → Int) (w : World) (h0 : (m != 0) = true) (h1 : (m != 1) = true)
    (ha : Asked w m (.slice K nk ck) (.slice V 16 cv) (.slice A n c) bk r F) :
    Calls Tryd.prog 8 #[.int .i64 m, .slice K nk ck, .slice V 16 cv, .slice A n c, .bool bk] w (GotF r F w) := by
  have hcl := calm_clos w m _ _ _ _ _ _ ha
  clear ha
  go_enter Tryd.func8, Tryd.ntmps8
  go_wp2_with fail
  refine hcl.mono ?_
  rintro e w1 ⟨rfl, hb, ⟨go, c1, h5, hgo, harr⟩, h6⟩
  have c5 := h5.cell 0
  have f5 := h5.frozen 0
  have c6 := h6.cell 0
  simp at c5 c6
  go_wp2_with fail
  have c5b : w1.cell? ⟨w.heap.size + 1 + 1 + 1 + 1 + 1, 0, none⟩ = some (.slice (some ⟨go, 0, none⟩) r c1) := c5
  refine bodyPost_ret (v := .tuple #[.slice (some ⟨go, 0, none⟩) r c1, .bool true]) (by simp [results, Tryd.results8, go_sem, c5b]) rfl ⟨_, _, rfl, by omega, ?_, ?_⟩
  · exact harr.only ((Only.refl [w.heap.size + 1 + 1 + 1 + 1 + 1] w1).setCell (p := ⟨w.heap.size + 1 + 1 + 1 + 1 + 1, 0, none⟩) (fun _ => by simp) _) (by simp; omega)
  · exact hb.setCell (p := ⟨w.heap.size + 1 + 1 + 1 + 1 + 1, 0, none⟩) (by show w.heap.size ≤ w.heap.size + 1 + 1 + 1 + 1 + 1; omega) _
set_option maxHeartbeats 1000000 in
theorem impl_ok1 (K V A : Option Addr) (nk ck nv cv n c : Nat) (bk : Bool) (r : Nat) (F : Nat → Int) (w : World)
    (ha : Asked w 1 (.slice K nk ck) (.slice V nv cv) (.slice A n c) bk r F) :
    Calls Tryd.prog 8 #[.int .i64 1, .slice K nk ck, .slice V nv cv, .slice A n c, .bool bk] w (GotF r F w) := by
  have hcl := calm_clos w 1 _ _ _ _ _ _ ha
  clear ha
  go_enter Tryd.func8, Tryd.ntmps8
  go_wp2_with fail
  refine hcl.mono ?_
  rintro e w1 ⟨rfl, hb, ⟨go, c1, h5, hgo, harr⟩, h6⟩
  have c5 := h5.cell 0
  have f5 := h5.frozen 0
  have c6 := h6.cell 0
  simp at c5 c6
  go_wp2_with fail
  have c5b : w1.cell? ⟨w.heap.size + 1 + 1 + 1 + 1 + 1, 0, none⟩ = some (.slice (some ⟨go, 0, none⟩) r c1) := c5
  refine bodyPost_ret (v := .tuple #[.slice (some ⟨go, 0, none⟩) r c1, .bool true]) (by simp [results, Tryd.results8, go_sem, c5b]) rfl ⟨_, _, rfl, by omega, ?_, ?_⟩
  · exact harr.only ((Only.refl [w.heap.size + 1 + 1 + 1 + 1 + 1] w1).setCell (p := ⟨w.heap.size + 1 + 1 + 1 + 1 + 1, 0, none⟩) (fun _ => by simp) _) (by simp; omega)
  · exact hb.setCell (p := ⟨w.heap.size + 1 + 1 + 1 + 1 + 1, 0, none⟩) (by show w.heap.size ≤ w.heap.size + 1 + 1 + 1 + 1 + 1; omega) _
end Go.Proofs.YtkfagcpboehjjaaDoor
