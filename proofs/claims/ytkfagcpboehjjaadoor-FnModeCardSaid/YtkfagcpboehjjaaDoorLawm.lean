/- FnMode's and FnModeBack's walks, up to their guards. No condition but where things lie. -/
import Derived.Test.YtkfagcpboehjjaaDoorImp
import Derived.Test.YtkfagcpboehjjaaDoorClof
import Derived.Test.YtkfagcpboehjjaaDoorClob
import Derived.Test.YtkfagcpboehjjaaDoorSecb
import Derived.Test.YtkfagcpboehjjaaDoorScbf
import Derived.Test.YtkfagcpboehjjaaDoorScbb
import Derived.Test.YtkfagcpboehjjaaDoorScff
import Derived.Test.YtkfagcpboehjjaaDoorScfb
import Derived.Test.YtkfagcpboehjjaaDoorSofb
import Derived.Outline
namespace Go.Proofs.YtkfagcpboehjjaaDoor
set_option maxRecDepth 100000
open Go.RowKit

/-- True comes back; what was there is as it was. -/
def TrueB (w : World) (e : Ending) (w' : World) : Prop := e = .returned (.bool true) ∧ Below w.heap.size w w'
theorem Reads.src {w : World} {ad : Addr} {n : Nat} {l : List Int} (h : Reads w w.heap.size 1 (some ad) n (l.map (Value.int .u8))) : Src w ad n (lF l) := fun j hj => by
  obtain ⟨ad', e, _, hc⟩ := h.2 (by omega)
  cases e
  have hl : l.length = n := by have := h.1; simpa using this
  refine hc j _ ?_
  unfold lF
  rw [List.getElem?_map, List.getD_eq_getElem?_getD, List.getElem?_eq_getElem (by omega)]
  rfl
theorem fst_lF {l : List Int} {n : Nat} (h : l.length = n) : fst n (lF l) = l := by subst h; exact range_map_getD l
/-- What is read ahead. -/
structure Inp (w : World) (K V A : Option Addr) (nk ck nv cv n : Nat) (kl vl dl : List Int) : Prop where
  k : Reads w w.heap.size 1 K nk (kl.map (Value.int .u8))
  kb : Byl kl
  kc : nk ≤ ck
  v : Reads w w.heap.size 1 V nv (vl.map (Value.int .u8))
  vb : Byl vl
  vc : nv ≤ cv
  d : Reads w w.heap.size 1 A n (dl.map (Value.int .u8))
  db : Byl dl
  t : Tabs w
  s : 8 ≤ w.heap.size
theorem Inp.only {w w' : World} {K V A : Option Addr} {nk ck nv cv n : Nat} {kl vl dl : List Int} (h : Inp w K V A nk ck nv cv n kl vl dl) (ho : Only [] w w') : Inp w' K V A nk ck nv cv n kl vl dl :=
  ⟨(h.k.below ho.to_below').more ho.size, h.kb, h.kc, (h.v.below ho.to_below').more ho.size, h.vb, h.vc, (h.d.below ho.to_below').more ho.size, h.db, h.t.only ho (by have := h.s; omega) (by simp), Nat.le_trans h.s ho.size⟩

/-- What the reference makes of some data. -/
def Made (m : Nat) (kl vl l : List Int) (p : Nat) : Int := pick (mO m (keyF (lF kl)) (lF vl) (lF (padL l)) false) p

theorem impl_forth {w : World} {K V A : Option Addr} {ck cv n c : Nat} {kl vl dl : List Int} (h : Inp w K V A 16 ck 16 cv n kl vl dl) (hn : n ≤ 1000) (m : Nat) (hm : m = 1 ∨ m = 2 ∨ m = 3 ∨ m = 4) :
    Calls Tryd.prog 8 #[.int .i64 m, .slice K 16 ck, .slice V 16 cv, .slice A n c, .bool false] w (GotF (padL dl).length (Made m kl vl dl) w) := by
  obtain ⟨ad, rfl, hlt, _⟩ := h.k.2 (by omega)
  have hvl : vl.length = 16 := by have := h.v.1; simpa using this
  have ha : Asked w m (.slice (some ad) 16 ck) (.slice V 16 cv) (.slice A n c) false (padL dl).length (Made m kl vl dl) := by
    intro Wa hC ho
    have h' := h.only ho
    have hlt' : ad.block < Wa.heap.size := Nat.lt_of_lt_of_le hlt ho.size
    have hs := h'.s
    have hv : Reads Wa Wa.heap.size 1 V 16 ((fst 16 (lF vl)).map (Value.int .u8)) := by rw [fst_lF hvl]; exact h'.v
    rcases hm with rfl | rfl | rfl | rfl
    · exact clos_ecbf _ ad ck V 16 cv A c _ _ dl n Wa hC h'.k.src (lF_bf h.kb) hlt' h'.t (by omega) h'.d h.db hn
    · exact clos_cbcf _ ad ck V cv A c _ _ dl n Wa hC h'.k.src (lF_bf h.kb) hlt' h'.t (by omega) hv h'.d h.db hn
    · exact clos_cfbf _ ad ck V cv A c _ _ dl n Wa hC h'.k.src (lF_bf h.kb) hlt' h'.t (by omega) hv (lF_bf h.vb) h'.d h.db hn
    · exact clos_ofbf _ ad ck V cv A c _ _ dl n Wa hC h'.k.src (lF_bf h.kb) hlt' h'.t (by omega) hv (lF_bf h.vb) h'.d h.db hn
  by_cases m1 : m = 1
  · subst m1; exact impl_ok1 (some ad) V A 16 ck 16 cv n c false _ _ w ha
  · exact impl_ok m (some ad) V A 16 ck cv n c false _ _ w (by simp; omega) (by simp; omega) ha
theorem impl_back {w : World} {K V A : Option Addr} {ck cv n g k c : Nat} {kl vl dl : List Int} (h : Inp w K V A 16 ck 16 cv n kl vl dl) (hk0 : 0 < k) (hk4 : k ≤ 63) (hpl : (padL dl).length = 16 * k) (m : Nat) (hm : m = 1 ∨ m = 2 ∨ m = 3 ∨ m = 4) (hg : ArrB w g (16 * k) (Made m kl vl dl)) :
    Calls Tryd.prog 8 #[.int .i64 m, .slice K 16 ck, .slice V 16 cv, .slice (some ⟨g, 0, none⟩) (16 * k) c, .bool true] w (GotF dl.length (lF dl) w) := by
  obtain ⟨ad, rfl, hlt, _⟩ := h.k.2 (by omega)
  have hvl : vl.length = 16 := by have := h.v.1; simpa using this
  have hiv := lF_bf h.vb
  have hdd := lF_bf (padL_byl h.db)
  have hdf : Bf (Made m kl vl dl) := pick_bf fun k => mO_bf m hiv false k
  have hback : ∀ p, p < 16 * k → pick (mO m (keyF (lF kl)) (lF vl) (Made m kl vl dl) true) p = lF (padL dl) p := fun p hp =>
    pick_congr (fun i _ => mO_back m hiv hdd i) p hp
  have ha : Asked w m (.slice (some ad) 16 ck) (.slice V 16 cv) (.slice (some ⟨g, 0, none⟩) (16 * k) c) true dl.length (lF dl) := by
    intro Wa hC ho
    have h' := h.only ho
    have hlt' : ad.block < Wa.heap.size := Nat.lt_of_lt_of_le hlt ho.size
    have hs := h'.s
    have hv : Reads Wa Wa.heap.size 1 V 16 ((fst 16 (lF vl)).map (Value.int .u8)) := by rw [fst_lF hvl]; exact h'.v
    have hD : Reads Wa Wa.heap.size 1 (some ⟨g, 0, none⟩) (16 * k) ((fst (16 * k) (Made m kl vl dl)).map (Value.int .u8)) := (hg.only ho (by simp)).reads
    rcases hm with rfl | rfl | rfl | rfl
    · exact clos_ecbb _ ad ck V 16 cv _ c _ _ dl k _ Wa hC h'.k.src (lF_bf h.kb) hlt' h'.t (by omega) hD hdf hk0 hk4 hpl hback
    · exact clos_cbcb _ ad ck V cv _ c _ _ dl k _ Wa hC h'.k.src (lF_bf h.kb) hlt' h'.t (by omega) hv hD hdf hk0 hk4 hpl hback
    · exact clos_cfbb _ ad ck V cv _ c _ _ dl k _ Wa hC h'.k.src (lF_bf h.kb) hlt' h'.t (by omega) hv (lF_bf h.vb) hD hdf hk0 hk4 hpl hback
    · exact clos_ofbb _ ad ck V cv _ c _ _ dl k _ Wa hC h'.k.src (lF_bf h.kb) hlt' h'.t (by omega) hv (lF_bf h.vb) hD hk0 hk4 hpl hback
  by_cases m1 : m = 1
  · subst m1; exact impl_ok1 (some ad) V _ 16 ck 16 cv _ c true _ _ w ha
  · exact impl_ok m (some ad) V _ 16 ck cv _ c true _ _ w (by simp; omega) (by simp; omega) ha
/-- The reference's modes. -/
theorem moded_any {w : World} {K V A : Option Addr} {ck cv n g k c : Nat} {kl vl dl : List Int} (h : Inp w K V A 16 ck 16 cv n kl vl dl) (hk0 : 0 < k) (hk4 : k ≤ 63) (hc : 16 * k ≤ c) (m : Nat) (hm : m = 1 ∨ m = 2 ∨ m = 3 ∨ m = 4) (hg : ArrB w g (16 * k) (lF (padL dl))) :
    Calls Tryd.prog 11 #[.int .i64 m, .slice K 16 ck, .slice V 16 cv, .slice (some ⟨g, 0, none⟩) (16 * k) c, .bool false] w (GotA (16 * k) (Made m kl vl dl) w) := by
  obtain ⟨ad, rfl, hlt, _⟩ := h.k.2 (by omega)
  obtain ⟨av, rfl, hltv, _⟩ := h.v.2 (by omega)
  have hdd := lF_bf (padL_byl h.db)
  have key : ∀ F e w', RetBytes w (fst (16 * k) F) e w' → GotA (16 * k) F w e w' := fun F e w' ⟨v, he, hown, hb⟩ => by
    obtain ⟨g, c, rfl, h1, h2, h3⟩ := hown.arr (by omega)
    exact ⟨g, c, he, h1, h2, h3, hb⟩
  rcases hm with rfl | rfl | rfl | rfl
  · have hq := (secb_any false (lF vl) ad ck (lF kl) _ g k c w h.k.src (lF_bf h.kb) h.kc hlt hc hk4 hg hdd).mono (key _)
    go_enter Tryd.func11, Tryd.ntmps11
    go_wp2_with (go_at_call 27; refine hq.mono ?_; rintro e w1 ⟨g1, c1, rfl, h1, h2, h3, hb⟩)
    go_ret
    exact ⟨g1, c1, rfl, h1, h2, h3, hb⟩
  · have hq := (scbf_any av cv (lF vl) ad ck (lF kl) _ g k c w h.v.src (lF_bf h.vb) hltv h.vc h.k.src (lF_bf h.kb) h.kc hlt hc hk4 hg hdd).mono (key _)
    go_enter Tryd.func11, Tryd.ntmps11
    go_wp2_with (go_at_call 28; refine hq.mono ?_; rintro e w1 ⟨g1, c1, rfl, h1, h2, h3, hb⟩)
    go_ret
    exact ⟨g1, c1, rfl, h1, h2, h3, hb⟩
  · have hq := (scff_any av cv (lF vl) ad ck (lF kl) _ g k c w h.v.src (lF_bf h.vb) hltv h.vc h.k.src (lF_bf h.kb) h.kc hlt hc hk4 hg hdd).mono (key _)
    go_enter Tryd.func11, Tryd.ntmps11
    go_wp2_with (go_at_call 29; refine hq.mono ?_; rintro e w1 ⟨g1, c1, rfl, h1, h2, h3, hb⟩)
    go_ret
    exact ⟨g1, c1, rfl, h1, h2, h3, hb⟩
  · have hq := (sofb_any false av cv (lF vl) ad ck (lF kl) _ g k c w h.v.src (lF_bf h.vb) hltv h.vc h.k.src (lF_bf h.kb) h.kc hlt hc hk4 hg hdd).mono (key _)
    go_enter Tryd.func11, Tryd.ntmps11
    go_wp2_with (go_at_call 30; refine hq.mono ?_; rintro e w1 ⟨g1, c1, rfl, h1, h2, h3, hb⟩)
    go_ret
    exact ⟨g1, c1, rfl, h1, h2, h3, hb⟩
/-- The reference's padding, in a block of its own. -/
theorem spada_any (A : Option Addr) (n c k : Nat) (l : List Int) (w : World) (hl : l.length = n) (hr : Reads w w.heap.size 1 A n (l.map (Value.int .u8))) (hn : n ≤ 1000) (hpl : (padL l).length = 16 * k) (hk0 : 0 < k) :
    Calls Tryd.prog 12 #[.slice A n c] w (GotA (16 * k) (lF (padL l)) w) := by
  refine (spad_any A n c l w hl hr hn).mono ?_
  rintro e w1 ⟨v, rfl, hown, hb⟩
  rw [← fst_lF hpl] at hown
  obtain ⟨g, c, rfl, h1, h2, h3⟩ := hown.arr (by omega)
  exact ⟨g, c, rfl, h1, h2, h3, hb⟩
end Go.Proofs.YtkfagcpboehjjaaDoor
