/- The package's call of GCM, exactly. No condition but where things lie. -/
import Derived.Test.YtkfagcpboehjjaaDoorGcs
import Derived.WalkSpells
namespace Go.Proofs.YtkfagcpboehjjaaDoor
set_option maxRecDepth 100000
open Go.RowKit

theorem Blk.atG {w : World} (N : Nat) (t : TypeId) (cs : Array Value) (h : N = w.heap.size) : Blk (w.alloc (.cells cs t)) N t cs := by subst h; exact Blk.new w t cs
abbrev laid8 (w : World) (K V D M : Value) (bk : Bool) : World :=
  (((((((w.alloc (.cells #[K] 22)).alloc (.cells #[V] 22)).alloc (.cells #[D] 22)).alloc (.cells #[M] 22)).alloc (.cells #[.bool bk] 4)).alloc (.cells #[.slice none 0 0] 22)).alloc (.cells #[.slice none 0 0] 22)).alloc (.cells #[.nilIface] 36)
theorem capt_laid8 (w : World) (K V D M : Value) (bk : Bool) : CaptG (laid8 w K V D M bk) w.heap.size K V D M bk :=
  ⟨(((((((Blk.atG _ _ _ rfl).alloc _).alloc _).alloc _).alloc _).alloc _).alloc _).alloc _, ((((((Blk.atG _ _ _ (by simp)).alloc _).alloc _).alloc _).alloc _).alloc _).alloc _, (((((Blk.atG _ _ _ (by simp)).alloc _).alloc _).alloc _).alloc _).alloc _,
   ((((Blk.atG _ _ _ (by simp)).alloc _).alloc _).alloc _).alloc _, (((Blk.atG _ _ _ (by simp)).alloc _).alloc _).alloc _, ((Blk.atG _ _ _ (by simp)).alloc _).alloc _, (Blk.atG _ _ _ (by simp)).alloc _, Blk.atG _ _ _ (by simp)⟩
theorem only_laid8 (w : World) (K V D M : Value) (bk : Bool) : Only [] w (laid8 w K V D M bk) := ((((((((Only.refl _ _).alloc _).alloc _).alloc _).alloc _).alloc _).alloc _).alloc _).alloc _

/-- What the closure is asked for. -/
def AskedG (w : World) (K V D M : Value) (bk : Bool) (n : Nat) (F T : Nat → Int) : Prop :=
  ∀ Wa, CaptG Wa w.heap.size K V D M bk → Only [] w Wa → Calls Tryd.prog 36 #[.pointer (some ⟨w.heap.size, 0, none⟩), .pointer (some ⟨w.heap.size + 1, 0, none⟩), .pointer (some ⟨w.heap.size + 2, 0, none⟩), .pointer (some ⟨w.heap.size + 3, 0, none⟩), .pointer (some ⟨w.heap.size + 4, 0, none⟩), .pointer (some ⟨w.heap.size + 5, 0, none⟩), .pointer (some ⟨w.heap.size + 6, 0, none⟩), .pointer (some ⟨w.heap.size + 7, 0, none⟩)] Wa (ClosG w.heap.size n F T Wa)
theorem calm_g (w : World) (K V D M : Value) (bk : Bool) (n : Nat) (F T : Nat → Int) (ha : AskedG w K V D M bk n F T) :
    Calls Tryd.prog 15 #[.func (.func 36) #[] #[.pointer (some ⟨w.heap.size, 0, none⟩), .pointer (some ⟨w.heap.size + 1, 0, none⟩), .pointer (some ⟨w.heap.size + 2, 0, none⟩), .pointer (some ⟨w.heap.size + 3, 0, none⟩), .pointer (some ⟨w.heap.size + 4, 0, none⟩), .pointer (some ⟨w.heap.size + 5, 0, none⟩), .pointer (some ⟨w.heap.size + 6, 0, none⟩), .pointer (some ⟨w.heap.size + 7, 0, none⟩)]] (laid8 w K V D M bk)
      fun e w' => e = .returned (.bool true) ∧ Below w.heap.size w w' ∧ (∃ gC, Blk w' (w.heap.size + 5) 22 #[.slice (some ⟨gC, 0, none⟩) n n] ∧ w.heap.size + 8 < gC ∧ ArrB w' gC n F) ∧ (∃ gT, Blk w' (w.heap.size + 6) 22 #[.slice (some ⟨gT, 0, none⟩) 16 16] ∧ w.heap.size + 8 < gT ∧ ArrB w' gT 16 T) ∧ Blk w' (w.heap.size + 7) 36 #[.nilIface] := by
  have ho := only_laid8 w K V D M bk
  have hsz : (laid8 w K V D M bk).heap.size = w.heap.size + 8 := by simp
  have ho2 : Only [] (laid8 w K V D M bk) ((laid8 w K V D M bk).alloc (.cells #[.bool false] 4)) := (Only.refl _ _).alloc _
  have hk : Blk ((laid8 w K V D M bk).alloc (.cells #[.bool false] 4)) (laid8 w K V D M bk).heap.size 4 #[.bool false] := Blk.new _ _ _
  have hsz2 : ((laid8 w K V D M bk).alloc (.cells #[.bool false] 4)).heap.size = w.heap.size + 9 := by simp
  refine (calm_any 36 _ (fun w' => Only [w.heap.size + 5, w.heap.size + 6, w.heap.size + 7] ((laid8 w K V D M bk).alloc (.cells #[.bool false] 4)) w' ∧ (∃ gC, Blk w' (w.heap.size + 5) 22 #[.slice (some ⟨gC, 0, none⟩) n n] ∧ w.heap.size + 9 ≤ gC ∧ ArrB w' gC n F) ∧ (∃ gT, Blk w' (w.heap.size + 6) 22 #[.slice (some ⟨gT, 0, none⟩) 16 16] ∧ w.heap.size + 9 ≤ gT ∧ ArrB w' gT 16 T) ∧ Blk w' (w.heap.size + 7) 36 #[.nilIface]) (laid8 w K V D M bk) (fun _ => by kernel_rfl) ?_).mono ?_
  · refine (ha _ ((capt_laid8 w K V D M bk).only ho2) (ho.trans ho2)).mono ?_
    rintro e w' ⟨rfl, h1, ⟨gC, h2, h2', h2''⟩, ⟨gT, h4, h4', h4''⟩, h3⟩
    rw [hsz2] at h2' h4'
    exact ⟨rfl, h1.blk hk (by rw [hsz]; simp), h1, ⟨gC, h2, h2', h2''⟩, ⟨gT, h4, h4', h4''⟩, h3⟩
  · rintro e w'' ⟨rfl, w', ⟨h1, ⟨gC, h2, h2', h2''⟩, ⟨gT, h4, h4', h4''⟩, h3⟩, rfl⟩
    have hos : Only [(laid8 w K V D M bk).heap.size] w' (w'.setCell ⟨(laid8 w K V D M bk).heap.size, 0, none⟩ (.bool true)) := (Only.refl _ w').setCell (p := ⟨(laid8 w K V D M bk).heap.size, 0, none⟩) (fun _ => by simp) _
    refine ⟨rfl, ?_, ⟨gC, hos.blk h2 (by simp), by omega, h2''.only hos (by simp; omega)⟩, ⟨gT, hos.blk h4 (by simp), by omega, h4''.only hos (by simp; omega)⟩, hos.blk h3 (by simp)⟩
    exact Below.setCell (((ho.trans ho2).to_below (Nat.le_refl _) (by simp)).trans (h1.to_below (by simp; omega) (by intro k hk; simp at hk; omega))) (p := ⟨_, 0, none⟩) (by show w.heap.size ≤ (laid8 w K V D M bk).heap.size; omega) _

/-- The data, the tag and true come back. -/
def GotZ (n : Nat) (F T : Nat → Int) (w : World) (e : Ending) (w' : World) : Prop := ∃ gC gT, e = .returned (.tuple #[.slice (some ⟨gC, 0, none⟩) n n, .slice (some ⟨gT, 0, none⟩) 16 16, .bool true]) ∧ w.heap.size ≤ gC ∧ w.heap.size ≤ gT ∧ ArrB w' gC n F ∧ ArrB w' gT 16 T ∧ Below w.heap.size w w'
set_option maxHeartbeats 2000000 in
theorem seal_any (K V D M : Option Addr) (nk ck nv cv nd cd nm cm : Nat) (bk : Bool) (n : Nat) (F T : Nat → Int) (w : World) (ha : AskedG w (.slice K nk ck) (.slice V nv cv) (.slice D nd cd) (.slice M nm cm) bk n F T) :
    Calls Tryd.prog 14 #[.slice K nk ck, .slice V nv cv, .slice D nd cd, .slice M nm cm, .bool bk] w (GotZ n F T w) := by
  have hcl := calm_g w _ _ _ _ bk n F T ha
  clear ha
  go_enter Tryd.func14, Tryd.ntmps14
  go_wp2_with fail
  refine hcl.mono ?_
  rintro e w1 ⟨rfl, hb, ⟨gC, h5, hgC, haC⟩, ⟨gT, h6, hgT, haT⟩, h7⟩
  have c5 := h5.cell 0
  have f5 := h5.frozen 0
  have c6 := h6.cell 0
  have f6 := h6.frozen 0
  have c7 := h7.cell 0
  simp at c5 c6 c7
  go_wp2_with fail
  have d5 : w1.cell? ⟨w.heap.size + 1 + 1 + 1 + 1 + 1, 0, none⟩ = some (.slice (some ⟨gC, 0, none⟩) n n) := c5
  have d6 : w1.cell? ⟨w.heap.size + 1 + 1 + 1 + 1 + 1 + 1, 0, none⟩ = some (.slice (some ⟨gT, 0, none⟩) 16 16) := c6
  have e5 : w1.frozen? ⟨w.heap.size + 1 + 1 + 1 + 1 + 1, 0, none⟩ = false := f5
  have e6 : w1.frozen? ⟨w.heap.size + 1 + 1 + 1 + 1 + 1 + 1, 0, none⟩ = false := f6
  clear c5 c6 f5 f6 hcl
  go_region
  go_wp2_with fail
  have hw5 := ((h5.set_ 0 (.slice (some ⟨gC, 0, none⟩) n n)).far (p := ⟨w.heap.size + 1 + 1 + 1 + 1 + 1 + 1, 0, none⟩) (by show w.heap.size + 5 ≠ w.heap.size + 1 + 1 + 1 + 1 + 1 + 1; omega) (.slice (some ⟨gT, 0, none⟩) 16 16)).cell 0
  have hw6 := ((h6.far (p := ⟨w.heap.size + 1 + 1 + 1 + 1 + 1, 0, none⟩) (by show w.heap.size + 6 ≠ w.heap.size + 1 + 1 + 1 + 1 + 1; omega) (.slice (some ⟨gC, 0, none⟩) n n)).set_ 0 (.slice (some ⟨gT, 0, none⟩) 16 16)).cell 0
  have hos : Only [w.heap.size + 5, w.heap.size + 6] w1 ((w1.setCell ⟨w.heap.size + 1 + 1 + 1 + 1 + 1, 0, none⟩ (.slice (some ⟨gC, 0, none⟩) n n)).setCell ⟨w.heap.size + 1 + 1 + 1 + 1 + 1 + 1, 0, none⟩ (.slice (some ⟨gT, 0, none⟩) 16 16)).drew :=
    (((Only.refl _ w1).setCell (p := ⟨w.heap.size + 1 + 1 + 1 + 1 + 1, 0, none⟩) (fun _ => by simp) _).setCell (p := ⟨w.heap.size + 1 + 1 + 1 + 1 + 1 + 1, 0, none⟩) (fun _ => by simp) _).drew
  generalize hW : ((w1.setCell ⟨w.heap.size + 1 + 1 + 1 + 1 + 1, 0, none⟩ (.slice (some ⟨gC, 0, none⟩) n n)).setCell ⟨w.heap.size + 1 + 1 + 1 + 1 + 1 + 1, 0, none⟩ (.slice (some ⟨gT, 0, none⟩) 16 16)).drew = W at *
  have g5 : W.cell? ⟨w.heap.size + 1 + 1 + 1 + 1 + 1, 0, none⟩ = some (.slice (some ⟨gC, 0, none⟩) n n) := by rw [← hW]; exact hw5
  have g6 : W.cell? ⟨w.heap.size + 1 + 1 + 1 + 1 + 1 + 1, 0, none⟩ = some (.slice (some ⟨gT, 0, none⟩) 16 16) := by rw [← hW]; exact hw6
  clear hw5 hw6
  exact bodyPost_ret (v := .tuple #[.slice (some ⟨gC, 0, none⟩) n n, .slice (some ⟨gT, 0, none⟩) 16 16, .bool true]) (by simp [results, Tryd.results14, go_sem, g5, g6]) rfl
    ⟨gC, gT, rfl, by omega, by omega, haC.only hos (by simp; omega), haT.only hos (by simp; omega), hb.trans (hos.to_below (B := w.heap.size) hb.size (by intro k hk; simp at hk; omega))⟩
end Go.Proofs.YtkfagcpboehjjaaDoor
