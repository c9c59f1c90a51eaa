/- The package's call on one block, done or refused; FnBlock's walk. No condition but where things lie. -/
import Derived.Test.YtkfagcpboehjjaaDoorBloc
import Derived.Test.YtkfagcpboehjjaaDoorImp
namespace Go.Proofs.YtkfagcpboehjjaaDoor
set_option maxRecDepth 100000
open Go.RowKit

/-- True comes back; what was there is as it was. -/
def TrueX (w : World) (e : Ending) (w' : World) : Prop := e = .returned (.bool true) ∧ Below w.heap.size w w'
theorem Reads.srcx {w : World} {ad : Addr} {n : Nat} {l : List Int} (h : Reads w w.heap.size 1 (some ad) n (l.map (Value.int .u8))) : Src w ad n (lF l) := fun j hj => by
  obtain ⟨ad', e, _, hc⟩ := h.2 (by omega)
  cases e
  have hl : l.length = n := by have := h.1; simpa using this
  refine hc j _ ?_
  unfold lF
  rw [List.getElem?_map, List.getD_eq_getElem?_getD, List.getElem?_eq_getElem (by omega)]
  rfl
theorem fst_lFx {l : List Int} {n : Nat} (h : l.length = n) : fst n (lF l) = l := by subst h; exact range_map_getD l
/-- What is read ahead. -/
structure InpX (w : World) (K V A : Option Addr) (nk ck nv cv n : Nat) (kl vl dl : List Int) : Prop where
  k : Reads w w.heap.size 1 K nk (kl.map (Value.int .u8))
  kb : Byl kl
  kc : nk ≤ ck
  v : Reads w w.heap.size 1 V nv (vl.map (Value.int .u8))
  vb : Byl vl
  vc : nv ≤ cv
  d : Reads w w.heap.size 1 A n (dl.map (Value.int .u8))
  db : Byl dl
  t : Tabs w
  s : 8 ≤ w.heap.size
theorem InpX.only {w w' : World} {K V A : Option Addr} {nk ck nv cv n : Nat} {kl vl dl : List Int} (h : InpX w K V A nk ck nv cv n kl vl dl) (ho : Only [] w w') : InpX w' K V A nk ck nv cv n kl vl dl :=
  ⟨(h.k.below ho.to_below').more ho.size, h.kb, h.kc, (h.v.below ho.to_below').more ho.size, h.vb, h.vc, (h.d.below ho.to_below').more ho.size, h.db, h.t.only ho (by have := h.s; omega) (by simp), Nat.le_trans h.s ho.size⟩

def AskedNo (w : World) (m : Int) (K V D : Value) (bk : Bool) : Prop :=
  ∀ Wa, Capt Wa w.heap.size m K V D bk → Only [] w Wa → Calls Tryd.prog 16 #[.pointer (some ⟨w.heap.size, 0, none⟩), .pointer (some ⟨w.heap.size + 1, 0, none⟩), .pointer (some ⟨w.heap.size + 6, 0, none⟩), .pointer (some ⟨w.heap.size + 5, 0, none⟩), .pointer (some ⟨w.heap.size + 4, 0, none⟩), .pointer (some ⟨w.heap.size + 3, 0, none⟩), .pointer (some ⟨w.heap.size + 2, 0, none⟩)] Wa (ClosNo w.heap.size Wa)

theorem calm_no (w : World) (m : Int) (K V D : Value) (bk : Bool) (ha : AskedNo w m K V D bk) :
    Calls Tryd.prog 15 #[.func (.func 16) #[] #[.pointer (some ⟨w.heap.size, 0, none⟩), .pointer (some ⟨w.heap.size + 1, 0, none⟩), .pointer (some ⟨w.heap.size + 6, 0, none⟩), .pointer (some ⟨w.heap.size + 5, 0, none⟩), .pointer (some ⟨w.heap.size + 4, 0, none⟩), .pointer (some ⟨w.heap.size + 3, 0, none⟩), .pointer (some ⟨w.heap.size + 2, 0, none⟩)]] (laid7 w m K V D bk)
      fun e w' => e = .returned (.bool true) ∧ Below w.heap.size w w' ∧ Blk w' (w.heap.size + 5) 22 #[.slice none 0 0] ∧ ∃ v, Blk w' (w.heap.size + 6) 36 #[.iface 71 v] := by
  have ho := only_laid w m K V D bk
  have hsz : (laid7 w m K V D bk).heap.size = w.heap.size + 7 := by simp
  have ho2 : Only [] (laid7 w m K V D bk) ((laid7 w m K V D bk).alloc (.cells #[.bool false] 4)) := (Only.refl _ _).alloc _
  have hk : Blk ((laid7 w m K V D bk).alloc (.cells #[.bool false] 4)) (laid7 w m K V D bk).heap.size 4 #[.bool false] := Blk.new _ _ _
  have hsz2 : ((laid7 w m K V D bk).alloc (.cells #[.bool false] 4)).heap.size = w.heap.size + 8 := by simp
  have hC := (capt_laid w m K V D bk).only ho2
  refine (calm_any 16 _ (fun w' => Only [w.heap.size + 6] ((laid7 w m K V D bk).alloc (.cells #[.bool false] 4)) w' ∧ Blk w' (w.heap.size + 5) 22 #[.slice none 0 0] ∧ ∃ v, Blk w' (w.heap.size + 6) 36 #[.iface 71 v]) (laid7 w m K V D bk) (fun _ => by kernel_rfl) ?_).mono ?_
  · refine (ha _ hC (ho.trans ho2)).mono ?_
    rintro e w' ⟨rfl, h1, h3⟩
    exact ⟨rfl, h1.blk hk (by rw [hsz]; simp), h1, h1.blk hC.out (by simp), h3⟩
  · rintro e w'' ⟨rfl, w', ⟨h1, h2, v, h3⟩, rfl⟩
    refine ⟨rfl, ?_, h2.far (p := ⟨_, 0, none⟩) (by show w.heap.size + 5 ≠ (laid7 w m K V D bk).heap.size; omega) _, v, h3.far (p := ⟨_, 0, none⟩) (by show w.heap.size + 6 ≠ (laid7 w m K V D bk).heap.size; omega) _⟩
    exact Below.setCell (((ho.trans ho2).to_below (Nat.le_refl _) (by simp)).trans (h1.to_below (by simp; omega) (by intro k hk; simp at hk; omega))) (p := ⟨_, 0, none⟩) (by show w.heap.size ≤ (laid7 w m K V D bk).heap.size; omega) _
set_option maxHeartbeats 1000000 in
theorem impl_ok0 (K V A : Option Addr) (nk ck nv cv n c : Nat) (bk : Bool) (r : Nat) (F : Nat → Int) (w : World)
    (ha : Asked w 0 (.slice K nk ck) (.slice V nv cv) (.slice A n c) bk r F) :
    Calls Tryd.prog 8 #[.int .i64 0, .slice K nk ck, .slice V nv cv, .slice A n c, .bool bk] w (GotF r F w) := by
  have hcl := calm_clos w 0 _ _ _ _ _ _ ha
  clear ha
  go_enter Tryd.func8, Tryd.ntmps8
  go_wp2_with fail
  refine hcl.mono ?_
  rintro e w1 ⟨rfl, hb, ⟨go, c1, h5, hgo, harr⟩, h6⟩
  have c5 := h5.cell 0
  have f5 := h5.frozen 0
  have c6 := h6.cell 0
  simp at c5 c6
  go_wp2_with fail
  have c5b : w1.cell? ⟨w.heap.size + 1 + 1 + 1 + 1 + 1, 0, none⟩ = some (.slice (some ⟨go, 0, none⟩) r c1) := c5
  refine bodyPost_ret (v := .tuple #[.slice (some ⟨go, 0, none⟩) r c1, .bool true]) (by simp [results, Tryd.results8, go_sem, c5b]) rfl ⟨_, _, rfl, by omega, ?_, ?_⟩
  · exact harr.only ((Only.refl [w.heap.size + 1 + 1 + 1 + 1 + 1] w1).setCell (p := ⟨w.heap.size + 1 + 1 + 1 + 1 + 1, 0, none⟩) (fun _ => by simp) _) (by simp; omega)
  · exact hb.setCell (p := ⟨w.heap.size + 1 + 1 + 1 + 1 + 1, 0, none⟩) (by show w.heap.size ≤ w.heap.size + 1 + 1 + 1 + 1 + 1; omega) _
/-- Refused. -/
def GotNo (w : World) (e : Ending) (w' : World) : Prop := e = .returned (.tuple #[.slice none 0 0, .bool false]) ∧ Below w.heap.size w w'
set_option maxHeartbeats 1000000 in
theorem impl_no0 (K V A : Option Addr) (nk ck nv cv n c : Nat) (bk : Bool) (w : World)
    (ha : AskedNo w 0 (.slice K nk ck) (.slice V nv cv) (.slice A n c) bk) :
    Calls Tryd.prog 8 #[.int .i64 0, .slice K nk ck, .slice V nv cv, .slice A n c, .bool bk] w (GotNo w) := by
  have hcl := calm_no w 0 _ _ _ _ ha
  clear ha
  go_enter Tryd.func8, Tryd.ntmps8
  go_wp2_with fail
  refine hcl.mono ?_
  rintro e w1 ⟨rfl, hb, h5, v, h6⟩
  have c5 := h5.cell 0
  have f5 := h5.frozen 0
  have c6 := h6.cell 0
  simp at c5 c6
  go_wp2_with fail
  have c5b : (w1.setCell ⟨w.heap.size + 1 + 1 + 1 + 1 + 1, 0, none⟩ (.slice none 0 0)).cell? ⟨w.heap.size + 1 + 1 + 1 + 1 + 1, 0, none⟩ = some (.slice none 0 0) := (h5.set_ 0 (.slice none 0 0)).cell 0
  refine bodyPost_ret (v := .tuple #[.slice none 0 0, .bool false]) (by simp [results, Tryd.results8, go_sem, c5b]) rfl ⟨rfl, ?_⟩
  exact hb.setCell (p := ⟨w.heap.size + 1 + 1 + 1 + 1 + 1, 0, none⟩) (by show w.heap.size ≤ w.heap.size + 1 + 1 + 1 + 1 + 1; omega) _
end Go.Proofs.YtkfagcpboehjjaaDoor
