/- The library's steps: what holds in the midst of them. No condition. -/
import Derived.Test.YtmhjbkkbbhioeaaTold
import Derived.Test.YtmhjbkkbbhioeaaLawp
namespace Go.Proofs.Ytmhjbkkbbhioeaa
open Go.RowKit

theorem gb_below {w W W' : World} {r : Option Nat} (h : w.grownBy W r) {B : Nat} (hb : Below B W W') (hB : w.heap.size ≤ B) : w.grownBy W' r :=
  ⟨hb.os.trans h.os, hb.tape.trans h.tape, hb.output.trans h.output, Nat.le_trans h.size hb.size, fun k hk hne => (hb.block k (by omega)).trans (h.block k hk hne)⟩
theorem below_gb {w W : World} {b B : Nat} (h : w.grownBy W (some b)) (hB : B ≤ b) (hw : B ≤ w.heap.size) : Below B w W :=
  ⟨h.os, h.tape, h.output, h.size, fun k hk => h.block k (by omega) (by simp; omega)⟩

/-- A row of the call's own in a world where its block is as it was. -/
theorem ownsRow_of {w w' : World} {base : Nat} {e : TypeId} {size n : Nat} {v : Value} {xs : List Value} (h : w.ownsRow base e size v n xs) (hk : ∀ g cs, Blk w g e cs → base ≤ g → w'.heap[g]? = w.heap[g]?) : w'.ownsRow base e size v n xs :=
  ⟨h.1, h.2.imp id fun ⟨g, c, cur, h1, h2, h3, h4⟩ => ⟨g, c, cur, h1, h2, (hk g cur h3 h2).trans h3, h4⟩⟩

/-- Of the blocks that were there only b (no row of bytes) and that of v are turned: what was told stays. -/
theorem Told.fb {w w' : World} {base b : Nat} {cs : Array Value} {xs : List Value} {O : Nat → Int} {lr : Nat → List Int} {v v' : Value} (h : Told w base xs O lr (some (blk v))) (hO : Blk w b 55 cs) (hF : Fb b w v w' v') : Told w' base xs O lr (some (blk v')) := fun j x hx ho => by
  obtain ⟨h1, h2⟩ := h j x hx ho
  obtain ⟨g, c, rfl, hb, hlt, _⟩ := h1.form (says_pos j ho)
  have hg : ∃ cs, Blk w g 5 cs := by
    rcases h1.2 with ⟨e, _⟩ | ⟨g', c', cur, e, _, hh, _⟩
    · cases e
    · injection e with e _ _
      injection e with e
      injection e with e _
      subst e
      exact ⟨cur, hh⟩
  obtain ⟨cs', hg⟩ := hg
  have hne : g ≠ b := blk_ne hg hO (by decide)
  have hne2 : g ≠ blk v := fun e => h2 (by simp [Value.ownBlock, e])
  obtain ⟨a1, a2⟩ := hF g hlt hne hne2
  refine ⟨?_, fun e => a2 (by simpa [Value.ownBlock] using e)⟩
  refine ⟨h1.1, h1.2.imp id fun ⟨g', c', cur, e, e2, e3, e4⟩ => ⟨g', c', cur, e, e2, ?_, e4⟩⟩
  have e0 := e
  injection e with e _ _
  injection e with e
  injection e with e _
  subst e
  exact a1.trans e3

theorem OwnL.fb {w w' : World} {base b : Nat} {cs : Array Value} {vo : Value} {xs : List Value} {v v' : Value} {u : List Int} (h : OwnL w base vo xs) (hO : Blk w b 55 cs) (hV : OwnS w base v u) (hF : Fb b w v w' v') : OwnL w' base vo xs := by
  obtain ⟨g, o, c, cur, e, _, hv, _⟩ := hV
  subst e
  exact ownsRow_of h fun k cs' hk _ => (hF k hk.lt (blk_ne hk hO (by decide)) (blk_ne hk hv (by decide))).1

/-- In the midst: the object holds what was written (t); k results are told; of what was there when it began, block b1 alone has turned. -/
def Midd (w W : World) (b1 k : Nat) (O : Nat → Int) (lr : Nat → List Int) (t : List Int) : Prop :=
  ∃ v vo xs, Blk W w.heap.size 55 (smCells (stOf t) ((t.length : Int) * 8) v) ∧ OwnS W w.heap.size v (restOf t) ∧ Blk W b1 22 #[vo] ∧ OwnL W w.heap.size vo xs ∧ xs.length = k ∧
    Told W w.heap.size xs O lr (some (blk v)) ∧ w.grownBy W (some b1) ∧ b1 < w.heap.size

theorem Midd.below {w W W' : World} {b1 k : Nat} {O : Nat → Int} {lr : Nat → List Int} {t : List Int} (h : Midd w W b1 k O lr t) (hb : Below W.heap.size W W') : Midd w W' b1 k O lr t := by
  obtain ⟨v, vo, xs, h1, h2, h3, h4, h5, h6, h7, h8⟩ := h
  exact ⟨v, vo, xs, h1.below hb h1.lt, h2.keep fun k cs hk _ => hk.below hb hk.lt, h3.below hb h3.lt, h4.below hb (Nat.le_refl _), h5, h6.below hb, gb_below h7 hb h7.size, h8⟩
theorem Midd.alloc {w W : World} {b1 k : Nat} {O : Nat → Int} {lr : Nat → List Int} {t : List Int} (h : Midd w W b1 k O lr t) (o : Obj) : Midd w (W.alloc o) b1 k O lr t :=
  h.below ((Below.refl _ _).alloc (Nat.le_refl _) o)

theorem Midd.start {w W : World} {b1 : Nat} {O : Nat → Int} {lr : Nat → List Int} {v : Value} (h1 : Blk W w.heap.size 55 (smCells St.start 0 v)) (h2 : OwnS W w.heap.size v []) (h3 : Blk w b1 22 #[.slice none 0 0]) (hB : Below w.heap.size w W) : Midd w W b1 0 O lr [] :=
  ⟨v, _, [], h1, h2, h3.below hB h3.lt, OwnL.nil _ _, rfl, Told.nil _ _ _ _ _, ⟨hB.os, hB.tape, hB.output, hB.size, fun k hk _ => hB.block k hk⟩, h3.lt⟩

def Wrote (w : World) (b1 k : Nat) (O : Nat → Int) (lr : Nat → List Int) (t : List Int) (n : Nat) (e : Ending) (w' : World) : Prop := e = .returned (.tuple #[.int .i64 n, .nilIface]) ∧ Midd w w' b1 k O lr t
theorem write_mid {w W W1 : World} {b1 k : Nat} {O : Nat → Int} {lr : Nat → List Int} {t p : List Int} (hM : Midd w W b1 k O lr t) (A : Option Addr) (n c : Nat) (h1 : OwnB W1 W.heap.size (.slice A n c) p) (hB : Below W.heap.size W W1)
    (ht : ∀ x ∈ t, 0 ≤ x ∧ x ≤ 255) (hp : ∀ x ∈ p, 0 ≤ x ∧ x ≤ 255) (hlt : t.length ≤ 100000) (hlp : n ≤ 100000) :
    Calls Try.prog 28 #[.pointer (some ⟨w.heap.size, 0, none⟩), .slice A n c] W1 (Wrote w b1 k O lr (t ++ p) n) := by
  obtain ⟨v, vo, xs, e1, e2, e3, e4, e5, e6, e7, e8⟩ := hM.below hB
  obtain ⟨_, _, _, f1, _⟩ := hM
  obtain ⟨rfl, hr⟩ := h1.reads
  have hsrc : Src W1 w.heap.size A p.length p := fun X hX => by
    refine ⟨hr.1, fun h0 => ?_⟩
    obtain ⟨ad, ha, hb, hc⟩ := hr.2 h0
    have hge : W.heap.size ≤ ad.block := by
      have := World.ownsRow.lt h1 ad.block (by rw [ha]; rfl)
      exact this.1
    have hne : ad.block ≠ w.heap.size := by have := f1.lt; omega
    have hX' := hX ad.block hne
    exact ⟨ad, ha, hb, fun j u hu => (World.cell?_of_block (by rw [block_of_add]; exact hX')).trans (hc j u hu)⟩
  have hst := st_write t p
  refine (write_f w.heap.size w.heap.size (stOf t) ((t.length : Int) * 8) v (restOf t) p A p.length c W1 (Nat.le_refl _) e1 e2 hsrc (fun x hx => ?_) (by omega) (by omega) (rest_length t)).mono ?_
  · rcases List.mem_append.1 hx with hx | hx
    · exact ht x (List.mem_of_mem_drop hx)
    · exact hp x hx
  rintro e w' ⟨rfl, v', g1, g2, g3, g4⟩
  rw [hst.1, show (t.length : Int) * 8 + 8 * (p.length : Int) = ((t ++ p).length : Int) * 8 by rw [List.length_append]; omega] at g1
  rw [hst.2] at g2
  exact ⟨rfl, v', vo, xs, g1, g2, (g3.block b1 e8).trans e3, e4.fb e1 e2 g4, e5, e6.fb e1 g4, gb_below e7 g3 (Nat.le_refl _), e8⟩

def Summed (w : World) (b1 k : Nat) (O : Nat → Int) (lr : Nat → List Int) (t : List Int) (e : Ending) (w' : World) : Prop := ∃ r, e = .returned r ∧ OwnB w' w.heap.size r (sm3 t) ∧ Midd w w' b1 k O lr t
theorem sum_mid {w W : World} {b1 k : Nat} {O : Nat → Int} {lr : Nat → List Int} {t : List Int} (hM : Midd w W b1 k O lr t) (A : Option Addr) (ht : ∀ x ∈ t, 0 ≤ x ∧ x ≤ 255) (hlt : t.length ≤ 100000) :
    Calls Try.prog 29 #[.pointer (some ⟨w.heap.size, 0, none⟩), .slice A 0 0] W (Summed w b1 k O lr t) := by
  obtain ⟨v, vo, xs, e1, e2, e3, e4, e5, e6, e7, e8⟩ := hM
  refine (sum_f w.heap.size w.heap.size (stOf t) ((t.length : Int) * 8) v (restOf t) A W (Nat.le_refl _) e1 e2 (stOf_U t) (fun x hx => ht x (List.mem_of_mem_drop hx)) (by omega) (rest_length t)).mono ?_
  rintro e w' ⟨r, rfl, hr, v', g1, g2, g3, g4, _, _⟩
  rw [sm3_parts] at hr
  exact ⟨r, rfl, hr, v', vo, xs, g1, g2, (g3.block b1 e8).trans e3, e4.fb e1 e2 g4, e5, e6.fb e1 g4, gb_below e7 g3 (Nat.le_refl _), e8⟩

def Unwrote (w : World) (b1 k : Nat) (O : Nat → Int) (lr : Nat → List Int) (e : Ending) (w' : World) : Prop := e = .returned (.tuple #[]) ∧ Midd w w' b1 k O lr []
theorem reset_mid {w W : World} {b1 k : Nat} {O : Nat → Int} {lr : Nat → List Int} {t : List Int} (hM : Midd w W b1 k O lr t) :
    Calls Try.prog 30 #[.pointer (some ⟨w.heap.size, 0, none⟩)] W (Unwrote w b1 k O lr) := by
  obtain ⟨v, vo, xs, e1, e2, e3, e4, e5, e6, e7, e8⟩ := hM
  refine (reset_f w.heap.size w.heap.size (stOf t) ((t.length : Int) * 8) v W (Nat.le_refl _) e1).mono ?_
  rintro e w' ⟨rfl, ⟨v', g1, g2, g3⟩, g4⟩
  have hF : Fb w.heap.size W v w' v' := fun k hk hkb _ => ⟨g4.block k hk (by simpa using hkb), by omega⟩
  exact ⟨rfl, v', vo, xs, g1, g2, (g4.block b1 e3.lt (by simp; omega)).trans e3, e4.fb e1 e2 hF, e5, e6.fb e1 hF,
    ⟨g4.os.trans e7.os, g4.tape.trans e7.tape, g4.output.trans e7.output, Nat.le_trans e7.size g4.size, fun k hk hne => (g4.block k (by have := e7.size; omega) (by simp; omega)).trans (e7.block k hk hne)⟩, e8⟩

/-- A round's end: a copy of what the step says is laid behind the others. -/
theorem Midd.push {w W : World} {b1 k : Nat} {O : Nat → Int} {lr : Nat → List Int} {t : List Int} (h : Midd w W b1 k O lr t) :
    ∃ vo xs, W.cell? ⟨b1, 0, none⟩ = some vo ∧ W.frozen? ⟨b1, 0, none⟩ = false ∧ b1 < W.heap.size ∧ OwnL W w.heap.size vo xs ∧ xs.length = k ∧
      (∀ (w5 w6 : World) (x : Value), Below W.heap.size W w5 → (w5.alloc (.cells #[x] 24)).grownBy w6 vo.ownBlock → w6.cell? ⟨b1, 0, none⟩ = some vo ∧ w6.frozen? ⟨b1, 0, none⟩ = false) ∧
      ∀ (w5 w6 : World) (x v6 : Value), Below W.heap.size W w5 → OwnB w5 W.heap.size x (says O lr k) → OwnL w6 w.heap.size v6 (xs ++ [x]) → (w5.alloc (.cells #[x] 24)).grownBy w6 vo.ownBlock →
        Midd w (w6.setCell ⟨b1, 0, none⟩ v6) b1 (k + 1) O lr t := by
  obtain ⟨v, vo, xs, e1, e2, e3, e4, e5, e6, e7, e8⟩ := h
  have hrow : ∀ {w5 : World} {x : Value}, Below W.heap.size W w5 → ∀ g, vo.ownBlock = some g → w.heap.size ≤ g ∧ ∃ cs, Blk (w5.alloc (.cells #[x] 24)) g 24 cs := fun {w5 x} hB g hg' => by
    have a4 := e4.below (hB.alloc hB.size (.cells #[x] 24)) (Nat.le_refl _)
    refine ⟨(World.ownsRow.lt a4 g hg').1, ?_⟩
    rcases a4.2 with ⟨e, _⟩ | ⟨g', c', cur, e, _, hh, _⟩
    · rw [e] at hg'; cases hg'
    · rw [e] at hg'
      injection hg' with hg'
      have hg2 : g' = g := hg'
      subst hg2
      exact ⟨cur, hh⟩
  have keep : ∀ {w5 w6 : World} {x : Value}, Below W.heap.size W w5 → (w5.alloc (.cells #[x] 24)).grownBy w6 vo.ownBlock → ∀ {g : Nat} {T : TypeId} {cs : Array Value}, T ≠ 24 → Blk (w5.alloc (.cells #[x] 24)) g T cs → Blk w6 g T cs := fun {w5 w6 x} hB hg {g T cs} hT hb =>
    (hg.block g hb.lt (fun e => by
      obtain ⟨_, cs', hc⟩ := hrow hB g e.symm
      exact blk_ne hb hc hT rfl)).trans hb
  refine ⟨vo, xs, by simpa using e3.cell 0, e3.frozen 0, e3.lt, e4, e5, fun w5 w6 x hB hg => ?_, fun w5 w6 x v6 hB hx hv6 hg => ?_⟩
  · have a3 := keep hB hg (by decide) (e3.below (hB.alloc hB.size (.cells #[x] 24)) e3.lt)
    exact ⟨by simpa using a3.cell 0, a3.frozen 0⟩
  have hB' : Below W.heap.size W (w5.alloc (.cells #[x] 24)) := hB.alloc hB.size _
  have sW := hB'.size
  have s7 := e7.size
  have hx' := OwnB.alloc hx (.cells #[x] 24)
  have a1 := e1.below hB' e1.lt
  have a3 := e3.below hB' e3.lt
  have a4 := e4.below hB' (Nat.le_refl _)
  have a6 := e6.below hB'
  have far : ∀ {g : Nat} {T : TypeId} {cs : Array Value}, g ≠ b1 → Blk w6 g T cs → Blk (w6.setCell ⟨b1, 0, none⟩ v6) g T cs := fun hg' hb => hb.far hg' _
  refine ⟨v, v6, xs ++ [x], far (by omega) (keep hB hg (by decide) a1), (e2.keep fun g cs hk _ => hk.below hB' hk.lt).keep fun g cs hk hge => far (by omega) (keep hB hg (by decide) hk), ?_, ?_, by simp [e5], ?_, ?_, e8⟩
  · have := (keep hB hg (by decide) a3).set_ 0 v6
    simpa using this
  · exact World.ownsRow.kept (row := some b1) hv6 ⟨rfl, rfl, rfl, by simp [World.setCell], fun g _ hne => Below.heap_setCell w6 ⟨b1, 0, none⟩ v6 g (fun e => hne (by rw [e]))⟩ (by
      rcases hv6.2 with ⟨rfl, _⟩ | ⟨g, cap, cur, rfl, hb, _⟩
      · exact .inl rfl
      · refine .inr ?_
        simp only [Value.ownBlock, ne_eq, Option.some.injEq]
        omega)
  · have T6 : Told w6 w.heap.size (xs ++ [x]) O lr (some (blk v)) := a6.push a4 hg (fun ho => by
      rw [e5]
      refine ⟨?_, fun e => ?_⟩
      · exact OwnB.lift hx' (Nat.le_trans e7.size (Nat.le_refl _))
      · have := (World.ownsRow.lt hx' (blk v) e).1
        have := e2.blk_lt
        omega)
    exact T6.keep (row := some b1) ⟨rfl, rfl, rfl, by simp [World.setCell], fun g _ hne => Below.heap_setCell w6 ⟨b1, 0, none⟩ v6 g (fun e => hne (by rw [e]))⟩ (fun j y hy ho => by
      obtain ⟨q1, q2⟩ := T6 j y hy ho
      refine ⟨.inr fun e => ?_, q2⟩
      have := (World.ownsRow.lt q1 b1 e).1
      omega)
  · have G := gb_below e7 hB' e7.size
    refine ⟨hg.os.trans G.os, hg.tape.trans G.tape, hg.output.trans G.output, Nat.le_trans G.size (by simpa [World.setCell] using hg.size), fun g hgl hne => ?_⟩
    refine (Below.heap_setCell w6 ⟨b1, 0, none⟩ v6 g (fun e => hne (by rw [e]))).trans ((hg.block g (by omega) (fun e => ?_)).trans (G.block g hgl hne))
    have := (hrow (x := x) hB g e.symm).1
    omega
end Go.Proofs.Ytmhjbkkbbhioeaa
