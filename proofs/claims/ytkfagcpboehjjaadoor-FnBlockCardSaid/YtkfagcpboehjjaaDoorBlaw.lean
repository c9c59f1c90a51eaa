/- FnBlock's walk. No condition but where things lie. -/
import Derived.Test.YtkfagcpboehjjaaDoorBlod
import Derived.Test.YtkfagcpboehjjaaDoorLaid
namespace Go.Proofs.YtkfagcpboehjjaaDoor
set_option maxRecDepth 100000
open Go.RowKit

theorem pow_of_laid {w : World} (h : laidMetH Tryd.prog L10 w) : ∃ x, w.cell? ⟨7, 2, none⟩ = some (.int .u64 x) := by
  rw [MakeChecks.laidMetH_plain _ _ _ (by kernel_rfl)] at h
  have hr : ∀ n d, (n, d) ∈ L10 → Lib.VarReads Tryd.prog w n d := fun n d hm => Lib.laidMet.reads h hm
  exact ⟨_, tab_cell (hr _ _ (by simp)) (g := 7) (n := 20) (t := 95) (e := 69) (name := "internal/strconv.uint64pow10") (zs := POW) (by kernel_rfl) (by kernel_rfl) Tryd.underlying95 Tryd.underlying69 (by kernel_rfl) (by kernel_rfl) 2 (by rw [show POW.length = 20 from rfl]; omega)⟩

theorem blk_call {w : World} (K : Addr) (ck : Nat) (ad : Addr) (c : Nat) (bk : Bool) (kf f : Nat → Int) (hK : Src w K 16 kf) (hKf : Bf kf) (hKl : K.block < w.heap.size) (ht : Tabs w) (h8 : 8 ≤ w.heap.size)
    (hD : Src w ad 16 f) (hf : Bf f) (hl : ad.block < w.heap.size) :
    Calls Tryd.prog 8 #[.int .i64 0, .slice (some K) 16 ck, .slice none 0 0, .slice (some ad) 16 c, .bool bk] w (GotF 16 (DE bk (keyF kf) f) w) :=
  impl_ok0 (some K) none (some ad) 16 ck 0 0 16 c bk 16 _ w fun Wa hC ho =>
    clos_blk w.heap.size K ck none 0 0 ad c bk kf f Wa hC (hK.only ho hKl (by simp)) hKf (Nat.lt_of_lt_of_le hKl ho.size) (ht.only ho (by omega) (by simp)) (by have := ho.size; omega) (hD.only ho hl (by simp)) hf (Nat.lt_of_lt_of_le hl ho.size) ⟨by omega, by omega⟩ (by omega)
theorem blk_no {w : World} (K A : Option Addr) (nk ck c : Nat) (x : Int) (h1 : nk ≠ 16) (h2 : nk ≤ 100) (hx : w.cell? ⟨7, 2, none⟩ = some (.int .u64 x)) (h8 : 8 ≤ w.heap.size) :
    Calls Tryd.prog 8 #[.int .i64 0, .slice K nk ck, .slice none 0 0, .slice A 16 c, .bool false] w (GotNo w) :=
  impl_no0 K none A nk ck 0 0 16 c false w fun Wa hC ho => clos_no w.heap.size K nk ck none 0 0 A 16 c false x Wa hC h1 h2 ((ho.cell (p := ⟨7, 2, none⟩) (by show 7 < w.heap.size; omega) (by simp)).trans hx) (by have := ho.size; omega)

set_option maxHeartbeats 4000000 in
theorem law_block (K A : Option Addr) (nk ck n c : Nat) (kl dl : List Int) (w : World) (h : InpX w K none A nk ck 0 0 n kl [] dl) (hca : n ≤ c) (hx : ∃ x, w.cell? ⟨7, 2, none⟩ = some (.int .u64 x)) :
    Calls Tryd.prog 3 #[.slice K nk ck, .slice A n c] w (TrueX w) := by
  obtain ⟨x, hx⟩ := hx
  by_cases z1 : 2147483647 < nk
  · have z1' : (2147483647 : Int) < (nk : Int) := by omega
    go_enter Tryd.func3, Tryd.ntmps3
    go_wp2_with fail
    go_ret
    exact ⟨rfl, Below.refl _ _⟩
  have z1' : ¬ (2147483647 : Int) < (nk : Int) := by omega
  by_cases z3 : 2147483647 < n
  · have z3' : (2147483647 : Int) < (n : Int) := by omega
    go_enter Tryd.func3, Tryd.ntmps3
    go_wp2_with fail
    go_ret
    exact ⟨rfl, Below.refl _ _⟩
  have z3' : ¬ (2147483647 : Int) < (n : Int) := by omega
  by_cases y4 : ¬ n = 16
  · have y4' : ¬ ((n : Int) = 16) := by omega
    have y4'' : ((n : Int) != 16) = true := by simp; omega
    go_enter Tryd.func3, Tryd.ntmps3
    go_wp2_with fail
    go_ret
    exact ⟨rfl, Below.refl _ _⟩
  obtain rfl : n = 16 := by omega
  by_cases y5 : 100 < nk
  · have y5' : (100 : Int) < (nk : Int) := by omega
    go_enter Tryd.func3, Tryd.ntmps3
    go_wp2_with fail
    go_ret
    exact ⟨rfl, Below.refl _ _⟩
  have y5' : ¬ (100 : Int) < (nk : Int) := by omega
  by_cases y3 : ¬ nk = 16
  · have y3' : ¬ ((nk : Int) = 16) := by omega
    have y3'' : ((nk : Int) != 16) = true := by simp; omega
    have hno := blk_no K A nk ck c x y3 (by omega) hx h.s
    go_enter Tryd.func3, Tryd.ntmps3
    go_wp2_with (go_at_call 8; refine hno.mono ?_; rintro e w1 ⟨rfl, hb1⟩)
    go_ret
    exact ⟨rfl, hb1⟩
  obtain rfl : nk = 16 := by omega
  obtain ⟨ak, rfl, hkl, _⟩ := h.k.2 (by omega)
  obtain ⟨ad, rfl, hdl, _⟩ := h.d.2 (by omega)
  have hlen : dl.length = 16 := by have := h.d.1; simpa using this
  have HL := Lib.hid hlen
  clear hlen
  have hK := h.k.srcx
  have hD := h.d.srcx
  have hKf := lF_bf h.kb
  have hDf := lF_bf h.db
  have hc1 := blk_call ak ck ad c false _ _ hK hKf hkl h.t h.s hD hDf hdl
  go_enter Tryd.func3, Tryd.ntmps3
  go_wp2_with (first
    | (go_at_call 8; refine (blk_call ak ck ⟨g1, 0, none⟩ c1 true _ _ hK2 hKf (by have := hb2.size; have := hb1.size; omega) ht2 h82 hp2 (DE_bf _ _ _) hg2).mono ?_; rintro e w3 ⟨g3, c3, rfl, hg3, hq3, hb3⟩; have ho3 := Only.of_below hb3 (Nat.le_refl _))
    | (go_at_call 8; refine (blk_call ak ck ad c true _ _ hK1 hKf (by have := hb1.size; omega) ht1 h81 hD1 hDf (by have := hb1.size; omega)).mono ?_; rintro e w2 ⟨g2, c2, rfl, hgg2, hq2, hb2⟩; have ho2 := Only.of_below hb2 (Nat.le_refl _); have hK2 := hK1.only ho2 (by have := hb1.size; omega) (by simp); have ht2 := ht1.only ho2 (by omega) (by simp); have h82 := Nat.le_trans h81 ho2.size; have hp2 := (hq1.only ho2 (by simp)).src0 (m := 16) (by omega); have hg2 := Nat.lt_of_lt_of_le hq1.lt ho2.size)
    | (go_at_call 8; refine hc1.mono ?_; rintro e w1 ⟨g1, c1, rfl, hgg1, hq1, hb1⟩; have ho1 := Only.of_below hb1 (Nat.le_refl _); have hK1 := hK.only ho1 hkl (by simp); have hD1 := hD.only ho1 hdl (by simp); have ht1 := h.t.only ho1 (by have := h.s; omega) (by simp); have h81 := Nat.le_trans h.s ho1.size))
  have hK3 := hK2.only ho3 (by have := hb1.size; have := hb2.size; omega) (by simp)
  have hD3 := (hD1.only ho2 (by have := hb1.size; omega) (by simp)).only ho3 (by have := hb1.size; have := hb2.size; omega) (by simp)
  have hq13 := (hq1.only ho2 (by simp)).only ho3 (by simp)
  have hq23 := hq2.only ho3 (by simp)
  have s1 := hb1.size
  have s2 := hb2.size
  have s3 := hb3.size
  refine (block_any false ak ck _ ad 16 c _ w3 hK3 hKf h.kc (by omega) (by omega) hca hD3 hDf (by omega)).mono ?_
  rintro e w4 ⟨g4, c4, rfl, hc4, hg4, hq4, ho4⟩
  have s4 := ho4.size
  go_wp2_with fail
  refine (same_any (some ⟨g1, 0, none⟩) 16 c1 (some ⟨g4, 0, none⟩) 16 c4 (fst 16 (DE false (keyF (lF kl)) (lF dl))) w4 (hq13.only ho4 (by simp)).reads hq4.reads).mono ?_
  rintro e w' ⟨rfl, rfl⟩
  go_wp2_with fail
  refine (block_any true ak ck _ ad 16 c _ w4 (hK3.only ho4 (by omega) (by simp)) hKf h.kc (by omega) (by omega) hca (hD3.only ho4 (by omega) (by simp)) hDf (by omega)).mono ?_
  rintro e w5 ⟨g5, c5, rfl, hc5, hg5, hq5, ho5⟩
  have s5 := ho5.size
  go_wp2_with fail
  refine (same_any (some ⟨g2, 0, none⟩) 16 c2 (some ⟨g5, 0, none⟩) 16 c5 (fst 16 (DE true (keyF (lF kl)) (lF dl))) w5 ((hq23.only ho4 (by simp)).only ho5 (by simp)).reads hq5.reads).mono ?_
  rintro e w' ⟨rfl, rfl⟩
  go_wp2_with fail
  have hback : ArrB w5 g3 16 (lF dl) := ((hq3.only ho4 (by simp)).only ho5 (by simp)).congr fun j hj => D_E hDf j hj
  have hb5 : Below w.heap.size w w5 := ((((hb1.trans (hb2.mono s1)).trans (hb3.mono (by omega))).trans (ho4.to_below (B := w.heap.size) (by omega) (by simp))).trans (ho5.to_below (B := w.heap.size) (by omega) (by simp)))
  refine (same_any (some ⟨g3, 0, none⟩) 16 c3 (some ad) 16 c (fst 16 (lF dl)) w5 hback.reads (by rw [fst_lFx HL.out]; exact (h.d.below hb5).more hb5.size)).mono ?_
  rintro e w' ⟨rfl, rfl⟩
  go_wp2_with fail
  go_ret
  exact ⟨rfl, hb5⟩
end Go.Proofs.YtkfagcpboehjjaaDoor
