/- FnModeKeys' walk. No condition but where things lie. -/
import Derived.Test.YteioblloppcjoaaDoorImpl
import Derived.WalkSpells
import Derived.Outline
namespace Go.Proofs.YteioblloppcjoaaDoor
set_option maxRecDepth 100000
open Go.RowKit

/-- True comes back; what was there is as it was. -/
def TrueB (w : World) (e : Ending) (w' : World) : Prop := e = .returned (.bool true) ∧ Below w.heap.size w w'
theorem Reads.src {w : World} {ad : Addr} {n : Nat} {l : List Int} (h : Reads w w.heap.size 1 (some ad) n (l.map (Value.int .u8))) (hb : ∀ x ∈ l, 0 ≤ x ∧ x ≤ 255) : Src w ad n := fun j hj => by
  obtain ⟨ad', e, _, hc⟩ := h.2 (by omega)
  cases e
  have hl : l.length = n := by have := h.1; simpa using this
  refine ⟨l.getD j 0, byte_getD hb j, hc j _ ?_⟩
  rw [List.getElem?_map, List.getD_eq_getElem?_getD, List.getElem?_eq_getElem (by omega)]
  rfl
/-- What is read ahead. -/
structure Inp (w : World) (K V A : Option Addr) (nk nv n : Nat) (kl vl dl : List Int) (x : Int) : Prop where
  k : Reads w w.heap.size 1 K nk (kl.map (Value.int .u8))
  kb : ∀ x ∈ kl, 0 ≤ x ∧ x ≤ 255
  v : Reads w w.heap.size 1 V nv (vl.map (Value.int .u8))
  vb : ∀ x ∈ vl, 0 ≤ x ∧ x ≤ 255
  d : Reads w w.heap.size 1 A n (dl.map (Value.int .u8))
  db : ∀ x ∈ dl, 0 ≤ x ∧ x ≤ 255
  t : Tabs w
  p : w.cell? ⟨7, 2, none⟩ = some (.int .u64 x)
  s : 8 ≤ w.heap.size
theorem Inp.only {w w' : World} {K V A : Option Addr} {nk nv n : Nat} {kl vl dl : List Int} {x : Int} (h : Inp w K V A nk nv n kl vl dl x) (ho : Only [] w w') : Inp w' K V A nk nv n kl vl dl x :=
  ⟨(h.k.below ho.to_below').more ho.size, h.kb, (h.v.below ho.to_below').more ho.size, h.vb, (h.d.below ho.to_below').more ho.size, h.db, h.t.only ho (by have := h.s; omega) (by simp), (ho.cell (p := ⟨7, 2, none⟩) (by have := h.s; show 7 < _; omega) (by simp)).trans h.p, Nat.le_trans h.s ho.size⟩

theorem asked_ok {w : World} {K V A : Option Addr} {ck cv n c : Nat} {kl vl dl : List Int} {x : Int} (h : Inp w K V A 16 16 n kl vl dl x) (hn : n ≤ 500) (m : Int) (hm : m = 1 ∨ m = 2 ∨ m = 3 ∨ m = 4) :
    Asked w m (.slice K 16 ck) (.slice V 16 cv) (.slice A n c) (· = .nilIface) := by
  obtain ⟨ad, rfl, hlt, _⟩ := h.k.2 (by omega)
  intro Wa hC ho
  have h' := h.only ho
  have hlt' : ad.block < Wa.heap.size := Nat.lt_of_lt_of_le hlt ho.size
  have hs := h'.s
  rcases hm with rfl | rfl | rfl | rfl
  · exact clos_ecb _ ad ck V cv A n c dl Wa hC (h'.k.src h.kb) hlt' h'.t (by omega) h'.d h.db hn
  · exact clos_cbc _ ad ck V cv A n c vl dl Wa hC (h'.k.src h.kb) hlt' h'.t (by omega) h'.v h.vb h'.d h.db hn
  · exact clos_cfb _ ad ck V cv A n c vl dl Wa hC (h'.k.src h.kb) hlt' h'.t (by omega) h'.v h.vb h'.d h.db hn
  · exact clos_ofb _ ad ck V cv A n c vl dl Wa hC (h'.k.src h.kb) hlt' h'.t (by omega) h'.v h.vb h'.d h.db hn
theorem asked_no {w : World} {K V A : Option Addr} {nk ck cv n c : Nat} {kl vl dl : List Int} {x : Int} (h : Inp w K V A nk 16 n kl vl dl x) (hk : nk ≠ 16) (hk2 : nk ≤ 100) (hn : n ≤ 500) (m : Int) (hm : m = 1 ∨ m = 2 ∨ m = 3 ∨ m = 4) :
    Asked w m (.slice K nk ck) (.slice V 16 cv) (.slice A n c) (fun v => ∃ u, v = .iface 46 u) := by
  intro Wa hC ho
  have h' := h.only ho
  rcases hm with rfl | rfl | rfl | rfl
  · exact clno_ecb _ K nk ck V cv A n c dl x Wa hC hk hk2 h'.p h'.s h'.d hn
  · exact clno_cbc _ K nk ck V cv A n c vl dl x Wa hC hk hk2 h'.p h'.s h'.v h.vb h'.d hn
  · exact clno_cfb _ K nk ck V cv A n c vl dl x Wa hC hk hk2 h'.p h'.s h'.v h.vb h'.d hn
  · exact clno_ofb _ K nk ck V cv A n c vl dl x Wa hC hk hk2 h'.p h'.s h'.v h.vb h'.d hn

/-- The package's call answers as the law says. -/
theorem impl_any {w : World} {K V A : Option Addr} {nk ck nv cv n c : Nat} {kl vl dl : List Int} {x : Int} (h : Inp w K V A nk nv n kl vl dl x) (hk2 : nk ≤ 100) (hn : n ≤ 500) (m : Int) (hm : m = 1 ∨ m = 2 ∨ m = 3 ∨ m = 4) (hv : m = 1 → nv = 16) :
    Calls Tryd.prog 4 #[.int .i64 m, .slice K nk ck, .slice V nv cv, .slice A n c, .bool false] w (GotF (decide (nk = 16 ∧ nv = 16)) w) := by
  by_cases h16 : nv = 16
  · subst h16
    by_cases hk : nk = 16
    · subst hk
      rw [show decide (16 = 16 ∧ 16 = 16) = true from rfl]
      have ha := asked_ok (ck := ck) (cv := cv) (c := c) h hn m hm
      by_cases m1 : m = 1
      · subst m1; exact impl_ok1 K V A 16 ck cv n c w ha
      · exact impl_ok m K V A 16 ck cv n c w (by simp; omega) (by simp; omega) ha
    · rw [show decide (nk = 16 ∧ 16 = 16) = false by simp [hk]]
      have ha := asked_no (ck := ck) (cv := cv) (c := c) h hk hk2 hn m hm
      by_cases m1 : m = 1
      · subst m1; exact impl_no1 K V A nk ck cv n c w ha
      · exact impl_no m K V A nk ck cv n c w (by simp; omega) (by simp; omega) ha
  · rw [show decide (nk = 16 ∧ nv = 16) = false by simp [h16]]
    have m1 : m ≠ 1 := fun e => h16 (hv e)
    exact impl_iv m K V A nk ck nv cv n c w (by simp; omega) (by simp; omega) h16

set_option maxHeartbeats 4000000 in
theorem law_any (m : Int) (K V A : Option Addr) (nk ck nv cv n c : Nat) (kl vl dl : List Int) (x : Int) (w : World) (h : Inp w K V A nk nv n kl vl dl x) :
    Calls Tryd.prog 3 #[.int .i64 m, .slice K nk ck, .slice V nv cv, .slice A n c] w (TrueB w) := by
  by_cases z1 : 2147483647 < nk
  · have z1' : (2147483647 : Int) < (nk : Int) := by omega
    go_enter Tryd.func3, Tryd.ntmps3
    go_wp2_with fail
    go_ret
    exact ⟨rfl, Below.refl _ _⟩
  have z1' : ¬ (2147483647 : Int) < (nk : Int) := by omega
  by_cases z2 : 2147483647 < nv
  · have z2' : (2147483647 : Int) < (nv : Int) := by omega
    go_enter Tryd.func3, Tryd.ntmps3
    go_wp2_with fail
    go_ret
    exact ⟨rfl, Below.refl _ _⟩
  have z2' : ¬ (2147483647 : Int) < (nv : Int) := by omega
  by_cases z3 : 2147483647 < n
  · have z3' : (2147483647 : Int) < (n : Int) := by omega
    go_enter Tryd.func3, Tryd.ntmps3
    go_wp2_with fail
    go_ret
    exact ⟨rfl, Below.refl _ _⟩
  have z3' : ¬ (2147483647 : Int) < (n : Int) := by omega
  by_cases y1 : m < 1
  · go_enter Tryd.func3, Tryd.ntmps3
    go_wp2_with fail
    go_ret
    exact ⟨rfl, Below.refl _ _⟩
  by_cases y2 : 5 ≤ m
  · go_enter Tryd.func3, Tryd.ntmps3
    go_wp2_with fail
    go_ret
    exact ⟨rfl, Below.refl _ _⟩
  by_cases y3 : 100 < nk
  · have y3' : (100 : Int) < (nk : Int) := by omega
    go_enter Tryd.func3, Tryd.ntmps3
    go_wp2_with fail
    go_ret
    exact ⟨rfl, Below.refl _ _⟩
  have y3' : ¬ (100 : Int) < (nk : Int) := by omega
  by_cases y4 : 100 < nv
  · have y4' : (100 : Int) < (nv : Int) := by omega
    go_enter Tryd.func3, Tryd.ntmps3
    go_wp2_with fail
    go_ret
    exact ⟨rfl, Below.refl _ _⟩
  have y4' : ¬ (100 : Int) < (nv : Int) := by omega
  by_cases y5 : 500 < n
  · have y5' : (500 : Int) < (n : Int) := by omega
    go_enter Tryd.func3, Tryd.ntmps3
    go_wp2_with fail
    go_ret
    exact ⟨rfl, Below.refl _ _⟩
  have y5' : ¬ (500 : Int) < (n : Int) := by omega
  by_cases y6 : nv ≠ 16 ∧ m = 1
  · obtain ⟨y6, rfl⟩ := y6
    have y6' : ((nv : Int) != 16) = true := by simp; omega
    go_enter Tryd.func3, Tryd.ntmps3
    go_wp2_with fail
    go_ret
    exact ⟨rfl, Below.refl _ _⟩
  have hm : m = 1 ∨ m = 2 ∨ m = 3 ∨ m = 4 := by omega
  have hi := impl_any (ck := ck) (cv := cv) (c := c) h (by omega) (by omega) m hm (fun e => by
    by_cases h16 : nv = 16
    · exact h16
    · exact absurd ⟨h16, e⟩ y6)
  clear h hm
  by_cases h16 : nv = 16
  · subst h16
    by_cases hk : nk = 16
    · subst hk
      go_enter Tryd.func3, Tryd.ntmps3
      go_wp2_with (go_at_call 4; refine hi.mono ?_; rintro e w1 ⟨A1, n1, c1, rfl, hb⟩)
      go_ret
      exact ⟨by simp, hb⟩
    · have hk' : ((nk : Int) == 16) = false := by simp; omega
      have hd : decide (nk = 16 ∧ 16 = 16) = false := by simp [hk]
      go_enter Tryd.func3, Tryd.ntmps3
      go_wp2_with (go_at_call 4; refine hi.mono ?_; rintro e w1 ⟨A1, n1, c1, rfl, hb⟩)
      go_ret
      exact ⟨by simp, hb⟩
  · have hv1 : ((nv : Int) != 16) = true := by simp; omega
    have hv2 : ((nv : Int) == 16) = false := by simp; omega
    have m1 : ¬ m = 1 := fun e => y6 ⟨h16, e⟩
    have m1' : (m == 1) = false := by simp [m1]
    have hd : decide (nk = 16 ∧ nv = 16) = false := by simp [h16]
    by_cases hk : nk = 16
    · subst hk
      go_enter Tryd.func3, Tryd.ntmps3
      go_wp2_with (go_at_call 4; refine hi.mono ?_; rintro e w1 ⟨A1, n1, c1, rfl, hb⟩)
      go_ret
      exact ⟨by simp, hb⟩
    · have hk' : ((nk : Int) == 16) = false := by simp; omega
      go_enter Tryd.func3, Tryd.ntmps3
      go_wp2_with (go_at_call 4; refine hi.mono ?_; rintro e w1 ⟨A1, n1, c1, rfl, hb⟩)
      go_ret
      exact ⟨by simp, hb⟩
end Go.Proofs.YteioblloppcjoaaDoor
