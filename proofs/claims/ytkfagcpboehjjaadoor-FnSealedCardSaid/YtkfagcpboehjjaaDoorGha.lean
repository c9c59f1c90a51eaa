/- The package's hash of GCM over whole blocks, exactly. No condition but where things lie. -/
import Derived.Test.YtkfagcpboehjjaaDoorGh0
import Derived.Test.YtkfagcpboehjjaaDoorSpm
import Derived.Deep.RegionHeld3
import Derived.Outline
import Derived.WalkSpells
namespace Go.Proofs.YtkfagcpboehjjaaDoor
set_option maxRecDepth 100000
open Go.RowKit

/-- What is hashed, block by block; the hash. -/
def gB (na nc : Nat) (a c L : Nat → Int) (i : Nat) : Nat → Int :=
  if i + 1 < mK na then blk a i else if i + 1 = mK na then fill (if na = 0 then 0 else 16) (fun j => a (16 * (mK na - 1) + j))
  else if i + 1 < mK na + nc then blk c (i - mK na) else if i + 1 = mK na + nc then fill 16 (fun j => c (16 * (nc - 1) + j)) else L
def ghX (h : Nat → Int) (B : Nat → Nat → Int) : Nat → Nat → Int
  | 0 => fun _ => 0
  | i + 1 => mulB (xb (ghX h B i) (B i)) h
theorem ghX_bf (h : Nat → Int) (B : Nat → Nat → Int) : ∀ i, Bf (ghX h B i)
  | 0 => fun _ => by show (0 : Int) ≤ 0 ∧ (0 : Int) ≤ 255; omega
  | _ + 1 => mulB_bf _ _
def ghash (h : Nat → Int) (na nc : Nat) (a c : Nat → Int) : Nat → Int := ghX h (gB na nc a c (lens (16 * (na : Int)) (16 * (nc : Int)))) (mK na + nc + 1)

theorem Src.part {w : World} {ad : Addr} {n o m : Nat} {f : Nat → Int} (h : Src w ad n f) (hm : o + m ≤ n) : Src w (ad.add o) m (fun j => f (o + j)) := fun j hj => by
  rw [add_of_add]
  exact h (o + j) (by omega)
theorem small64 (y : Nat) (h : y ≤ 16) : wrap64 (y : Int) = (y : Int) := IntWalk.wrap64_in _ (by omega)
theorem gh_one (h : Nat → Int) (B : Nat → Nat → Int) (p : Nat) : (0 : Int) = upto (ghX h B) 1 p := by
  unfold upto pick
  by_cases h1 : p < 16 * 1
  · rw [if_pos h1, show p / 16 = 0 by omega]; rfl
  · rw [if_neg h1]
/-- A block's place, within a row of N blocks and within another of c bytes. -/
theorem place3 (j N K c : Nat) (hj : j < N) (hK : j < K) (hN : N ≤ 70) (hc : 16 * K ≤ c) : ∃ p : Nat, IntKind.i64.wrap ((j : Int) * 16) = (p : Int) ∧ IntKind.i64.wrap ((p : Int) + 16) = (p : Int) + 16 ∧ ((p : Int) + 16).toNat = p + 16 ∧ (p : Int) + 16 ≤ 16 * (N : Int) ∧ p + 16 ≤ 16 * N ∧ (p : Int) + 16 ≤ (c : Int) ∧ p + 16 ≤ c ∧ p + 16 - p = 16 ∧ ¬ c = p ∧ ¬ 16 * N = p ∧ ((p : Int) + 16 - (p : Int)).toNat = 16 ∧ 0 ≤ (p : Int) + 16 ∧ Hid (p = 16 * j) :=
  ⟨16 * j, by rw [IntWalk.i64_in _ (by omega)]; omega, IntWalk.i64_in _ (by omega), by omega, by omega, by omega, by omega, by omega, by omega, by omega, by omega, by omega, by omega, Lib.hid rfl⟩
theorem step_copy16 {ops : Array Oper} {o : Oper} {a : Act} {K : Act → World → Prop} {Q : Exit → Act → World → Prop} {E : Prop} {w : World} (hgd : o.guard = none) (d s : Operand) (ho : o.op = .call { callee := .builtin .copy, args := #[d, s], argTypes := #[22, 22] })
    (g off dCap N sCap : Nat) (ad : Addr) (f q : Nat → Int) (hd : a.eval d = .slice (some ⟨g, off, none⟩) 16 dCap) (hs : a.eval s = .slice (some ad) 16 sCap)
    (hb : ArrB w g N f) (hfit : off + 16 ≤ N) (hsrc : Src w ad 16 q)
    (h : ∀ w', Only [g] w w' → ArrB w' g N (fun j => if off ≤ j ∧ j < off + 16 then q (j - off) else f j) → K (a.put o.dst (.int .i64 16)) w') : if Region.wanted o (yielded ops a.tmps) = true then Oper.wp Tryd.prog o a w K Q else E :=
  step_copy hgd d s ho g off 16 dCap N 16 sCap 16 ad f q hd hs rfl hb hfit hsrc h
/-- The same, as one word. -/
def PL (j N c p : Nat) : Prop := IntKind.i64.wrap ((j : Int) * 16) = (p : Int) ∧ IntKind.i64.wrap ((p : Int) + 16) = (p : Int) + 16 ∧ ((p : Int) + 16).toNat = p + 16 ∧ (p : Int) + 16 ≤ 16 * (N : Int) ∧ p + 16 ≤ 16 * N ∧ (p : Int) + 16 ≤ (c : Int) ∧ p + 16 ≤ c ∧ p + 16 - p = 16 ∧ ¬ c = p ∧ ¬ 16 * N = p ∧ ((p : Int) + 16 - (p : Int)).toNat = 16 ∧ 0 ≤ (p : Int) + 16
theorem place_pl (j N K c : Nat) (hj : j < N) (hK : j < K) (hN : N ≤ 70) (hc : 16 * K ≤ c) : ∃ p : Nat, PL j N c p ∧ Hid (p = 16 * j) := by
  obtain ⟨p, h1, h2, h3, h4, h5, h6, h7, h8, h9, h10, h11, h12, H⟩ := place3 j N K c hj hK hN hc
  exact ⟨p, ⟨h1, h2, h3, h4, h5, h6, h7, h8, h9, h10, h11, h12⟩, H⟩
theorem drop1 (k : Nat) (h : 1 ≤ k) (h2 : k ≤ 100) : ∃ q : Nat, IntKind.i64.wrap ((k : Int) - 1) = (q : Int) ∧ Hid (k = q + 1) := ⟨k - 1, by rw [IntWalk.i64_in _ (by omega)]; omega, Lib.hid (by omega)⟩
theorem gh_src {w : World} {g N k p : Nat} {O : Nat → Nat → Int} (h : ArrB w g (16 * N) (upto O (k + 1))) (hk : k + 1 ≤ N) (hp : Hid (p = 16 * k)) : Src w ⟨g, p, none⟩ 16 (O k) := by
  have := hp.out
  subst this
  refine (h.src (o := 16 * k) (m := 16) (by omega)).congr fun j hj => ?_
  unfold upto pick
  rw [if_pos (by omega), show (16 * k + j) / 16 = k by omega, show (16 * k + j) % 16 = j by omega]

theorem Reads.tail {w : World} {A : Option Addr} {n lo y ca : Nat} {B : Nat} {a : Nat → Int} (h : Reads w B 1 A n ((fst n a).map (Value.int .u8))) (hl : lo ≤ n) (hc : n ≤ ca) (hy : n - lo = y) :
    Reads w B 1 (if ca = lo then A else A.map (·.add lo)) y ((fst y (fun j => a (lo + j))).map (Value.int .u8)) := by
  have := h.cut (k := lo) (cap := ca) hl hc
  rw [Nat.mul_one, hy] at this
  have e : ((fst n a).map (Value.int .u8)).drop lo = (fst y (fun j => a (lo + j))).map (Value.int .u8) := by
    apply List.ext_getElem?
    intro j
    unfold fst
    rw [List.getElem?_drop]
    by_cases hj : j < y
    · simp [hj, show lo + j < n by omega]
    · rw [List.getElem?_eq_none (by simp; omega), List.getElem?_eq_none (by simp; omega)]
  rwa [e] at this
theorem Only.below_ {w w1 w2 : World} {B : Nat} (h : Only [] w w1) (hb : Below B w1 w2) (hB : w.heap.size ≤ B) : Only [] w w2 :=
  ⟨hb.os.trans h.os, hb.tape.trans h.tape, hb.output.trans h.output, Nat.le_trans h.size hb.size, fun k hk hn => (hb.block k (by omega)).trans (h.block k hk hn)⟩
theorem mK_of {m na : Nat} (h : Hid (m = mK na)) (h2 : 1 < m) : na = m := by
  have := h.out
  unfold mK at this
  split at this <;> omega
/-- In the midst. -/
structure GW (w wr : World) (g N : Nat) (F : Nat → Int) : Prop where
  o : Only [] w wr
  x : ArrB wr g (16 * N) F
theorem GW.next {w wr w5 w6 : World} {g N k q : Nat} {h S : Nat → Int} {B : Nat → Nat → Int} (hm : GW w wr g N (upto (ghX h B) (k + 1))) (hg : w.heap.size ≤ g) (ho5 : Only [] wr w5) (ho6 : Only [g] w5 w6) (hq : Hid (q = 16 * (k + 1))) (hs : S = B k)
    (hx : ArrB w6 g (16 * N) (fun x => if q ≤ x ∧ x < q + 16 then mulB (xb (ghX h B k) S) h (x - q) else upto (ghX h B) (k + 1) x)) : GW w w6 g N (upto (ghX h B) (k + 1 + 1)) := by
  subst hs
  exact ⟨(hm.o.trans ho5).then_ ho6 (by intro a ha hl; simp at ha; omega), hx.congr (upto_next hq (fun _ _ => rfl))⟩

set_option maxHeartbeats 16000000 in
theorem ghash_any (H : Addr) (ch : Nat) (A : Option Addr) (na ca : Nat) (C : Option Addr) (nc cc : Nat) (h a c : Nat → Int) (w : World) (hH : Src w H 16 h) (hHl : H.block < w.heap.size)
    (hA : Reads w w.heap.size 1 A (16 * na) ((fst (16 * na) a).map (Value.int .u8))) (hC : Reads w w.heap.size 1 C (16 * nc) ((fst (16 * nc) c).map (Value.int .u8)))
    (hna : na ≤ 31) (hnc : nc ≤ 31) (hnc0 : 0 < nc) (hca : 16 * na ≤ ca) (hcc : 16 * nc ≤ cc) :
    Calls Tryd.prog 64 #[.slice (some H) 16 ch, .slice A (16 * na : Nat) ca, .slice C (16 * nc : Nat) cc] w (fun e w' => ∃ g o cg, e = .returned (.slice (some ⟨g, o, none⟩) 16 cg) ∧ w.heap.size ≤ g ∧ Src w' ⟨g, o, none⟩ 16 (ghash h na nc a c) ∧ g < w'.heap.size ∧ 16 ≤ cg ∧ Only [] w w') := by
  obtain ⟨ac, rfl, hcl, _⟩ := hC.2 (by omega)
  have ca0 := calcG_any na
  have cc0 := calcG_any nc
  have e1 : IntKind.i64.wrap (((16 * na : Nat) : Int).tdiv 16) = (na : Int) := by rw [IntWalk.i64_quo _ _ (by omega)]; omega
  have e2 : IntKind.i64.wrap (((16 * nc : Nat) : Int).tdiv 16) = (nc : Int) := by rw [IntWalk.i64_quo _ _ (by omega)]; omega
  have e3 : ((16 * na : Nat) : Int).tmod 16 = 0 := by rw [Int.tmod_eq_emod_of_nonneg (by omega)]; omega
  have e4 : ((16 * nc : Nat) : Int).tmod 16 = 0 := by rw [Int.tmod_eq_emod_of_nonneg (by omega)]; omega
  obtain ⟨m, v, y, z, hc1, HM, m1, m31, VF, v0, y16, z16, yz⟩ : ∃ m v y z : Nat, (∀ w : World, Calls Tryd.prog 70 #[.int .i64 na, .int .i64 0] w fun e w' => e = .returned (.tuple #[.int .i64 (m : Nat), .int .i64 (v : Nat)]) ∧ w = w') ∧ Hid (m = mK na) ∧ 1 ≤ m ∧ m ≤ 31 ∧
      Hid (IntKind.i64.wrap (128 - (v : Int)) = ((8 * z : Nat) : Int) ∧ IntKind.i64.wrap (((8 * z : Nat) : Int).tdiv 8) = (z : Int) ∧ IntKind.i64.wrap ((v : Int).tdiv 8) = (y : Int) ∧ (v : Int) / 8 = (y : Int)) ∧ Hid (na = 0 ∧ y = 0 ∨ na = m ∧ y = 16) ∧ y ≤ 16 ∧ z ≤ 16 ∧ Hid (y + z = 16) := by
    by_cases h0 : na = 0
    · subst h0
      exact ⟨1, 0, 0, 16, ca0, Lib.hid rfl, by omega, by omega, Lib.hid ⟨rfl, rfl, rfl, rfl⟩, Lib.hid (.inl ⟨rfl, rfl⟩), by omega, by omega, Lib.hid rfl⟩
    · rw [show mK na = na from if_neg h0, show vK na = 128 from if_neg h0] at ca0
      exact ⟨na, 128, 16, 0, ca0, Lib.hid (if_neg h0).symm, by omega, by omega, Lib.hid ⟨rfl, rfl, rfl, rfl⟩, Lib.hid (.inr ⟨rfl, rfl⟩), by omega, by omega, Lib.hid rfl⟩
  clear ca0
  rw [show mK nc = nc from if_neg (by omega), show vK nc = 128 from if_neg (by omega)] at cc0
  have hlo0 : Hid (16 * na - 16 * (m - 1) = y ∧ 16 * (m - 1) ≤ 16 * na) := by
    have := HM.out
    rcases v0.out with ⟨h1, h2⟩ | ⟨h1, h2⟩
    · have h3 : mK na = 1 := by rw [h1]; rfl
      exact Lib.hid ⟨by omega, by omega⟩
    · exact Lib.hid ⟨by omega, by omega⟩
  obtain ⟨s, g1, hs⟩ : ∃ s : Nat, IntKind.i64.wrap ((m : Int) + (nc : Int)) = (s : Int) ∧ s = m + nc := ⟨m + nc, by rw [IntWalk.i64_in _ (by omega)]; omega, rfl⟩
  obtain ⟨N, g2, hN⟩ : ∃ N : Nat, IntKind.i64.wrap ((s : Int) + 2) = (N : Int) ∧ N = s + 2 := ⟨s + 2, by rw [IntWalk.i64_in _ (by omega)]; omega, rfl⟩
  have g3 := IntWalk.i64_in (16 * (N : Int)) (by omega)
  have N63 : N ≤ 64 := by omega
  have hmk := make_any N (by omega)
  obtain ⟨mp, d1, HD⟩ := drop1 m m1 (by omega)
  have hD := HD.out
  obtain ⟨lo, LOF, LO⟩ := place_pl mp N N (16 * N) (by omega) (by omega) (by omega) (Nat.le_refl _)
  obtain ⟨qm, QMF, QM⟩ := place_pl m N N (16 * N) (by omega) (by omega) (by omega) (Nat.le_refl _)
  obtain ⟨qs, QSF, QS⟩ := place_pl s N N (16 * N) (by omega) (by omega) (by omega) (Nat.le_refl _)
  obtain ⟨sp, d3, HSP⟩ := drop1 s (by omega) (by omega)
  have hSP := HSP.out
  obtain ⟨ps, PSF, PS⟩ := place_pl sp N N (16 * N) (by omega) (by omega) (by omega) (Nat.le_refl _)
  obtain ⟨s1, d4, hs1⟩ : ∃ s1 : Nat, IntKind.i64.wrap ((s : Int) + 1) = (s1 : Int) ∧ s1 = s + 1 := ⟨s + 1, by rw [IntWalk.i64_in _ (by omega)]; omega, rfl⟩
  obtain ⟨qt, QTF, QT⟩ := place_pl s1 N N (16 * N) (by omega) (by omega) (by omega) (Nat.le_refl _)
  obtain ⟨m2, d2, hm2⟩ : ∃ m2 : Nat, IntKind.i64.wrap ((m : Int) + 1) = (m2 : Int) ∧ m2 = m + 1 := ⟨m + 1, by rw [IntWalk.i64_in _ (by omega)]; omega, rfl⟩
  obtain ⟨np, d5, HNP⟩ := drop1 nc (by omega) (by omega)
  have HS := Lib.hid hs
  have HN := Lib.hid hN
  have HS1 := Lib.hid hs1
  have HM2 := Lib.hid hm2
  have hLO := LO.out
  obtain ⟨o2, o3, o4, o5⟩ : (lo : Int) ≤ 16 * (na : Int) ∧ 16 * na - lo = y ∧ lo ≤ 16 * na ∧ (16 * (na : Int) - (lo : Int)).toNat = y := by
    obtain ⟨h1, h2⟩ := hlo0.out
    have hq : m - 1 = mp := by omega
    rw [hq] at h1 h2
    exact ⟨by omega, by omega, by omega, by omega⟩
  obtain ⟨lc, LCF, LC⟩ : ∃ lc : Nat, Hid (IntKind.i64.wrap ((np : Int) * 16) = (lc : Int) ∧ (lc : Int) ≤ 16 * (nc : Int) ∧ 16 * nc - lc = 16 ∧ ¬ cc = lc ∧ lc ≤ 16 * nc ∧ (16 * (nc : Int) - (lc : Int)).toNat = 16) ∧ Hid (lc = 16 * np) := by
    have := HNP.out
    exact ⟨16 * np, Lib.hid ⟨by rw [IntWalk.i64_in _ (by omega)]; omega, by omega, by omega, by omega, by omega, by omega⟩, Lib.hid rfl⟩
  have LOF2 := Lib.hid (And.intro o2 (And.intro o3 (And.intro o4 o5)))
  have hmz := makeN z (by omega)
  have hmy := makeN y (by omega)
  have w64 := small64
  have mz0 := make0
  have mb16 := makeB16
  have l8 := len8_any
  have G1 := Lib.hid g1
  have D1 := Lib.hid d1
  have D2 := Lib.hid d2
  have D3 := Lib.hid d3
  have D4 := Lib.hid d4
  have D5 := Lib.hid d5
  have s62 : s ≤ 62 := by omega
  have l2N : (16 : Int) ≤ 16 * (N : Int) := by omega
  have l3N : 16 ≤ 16 * N := by omega
  clear hs hN hD hSP hs1 hm2 hLO o2 o3 o4 o5 hlo0 d1 d2 d3 d4 d5
  go_enter Tryd.func64, Tryd.ntmps64
  go_wp2_with fail
  refine (hc1 _).mono ?_
  rintro e w' ⟨rfl, rfl⟩
  go_wp2_with fail
  refine (cc0 _).mono ?_
  rintro e w' ⟨rfl, rfl⟩
  go_wp2_with fail
  have ha : Only [] w (w.alloc (.cells (madeCells #[.int .u8 0] (16 * N)) 5)) := (Only.refl _ _).alloc _
  have hx0 := ArrB.made w (16 * N)
  clear hc1 cc0 e1 e2 e3 e4 g1 g2 g3 hmk
  go_loopw [12] (fun i wr => ∃ k : Nat, k ≤ 16 ∧ i = .int .i64 k ∧ ArrB wr w.heap.size (16 * N) (fun _ => 0) ∧ Only [] w wr) (fun i _ => 16 - (intOf i).toNat)
  case atStart => exact ⟨0, by omega, rfl, hx0, ha⟩
  case round =>
    clear hx0 ha
    obtain ⟨k, hk, rfl, hB, hbel⟩ := hrel
    by_cases hlt : k < 16
    · as_aux_lemma =>
      have l1 : (k : Int) < 16 := by omega
      have l2 : (k : Int) < 16 * (N : Int) := by omega
      have a0 := hB.cell (j := k) (by omega)
      have f0 := hB.frozen k
      go_wp2_with fail
      go_roundw
      case rel => exact ⟨k + 1, by omega, by go_num, hB.set_ k 0 (fun j _ => by split <;> rfl), hbel.setCell (p := ⟨w.heap.size, k, none⟩) (fun h => absurd h (Nat.lt_irrefl _)) _⟩
      case measure => simp [intOf]; omega
    · have h16 : (k : Int) = 16 := by omega
      rw [h16]
      as_aux_lemma =>
      clear hlt hk h16
      obtain ⟨B, HB⟩ : ∃ B, Hid (B = gB na nc a c (lens (16 * (na : Int)) (16 * (nc : Int)))) := ⟨_, Lib.hid rfl⟩
      have hg0 : GW w wr w.heap.size N (upto (ghX h B) 1) := ⟨hbel, hB.congr (fun p _ => gh_one h B p)⟩
      clear hB hbel
      have d1 := D1.out
      go_wp2_with fail
      go_loopw [13] (fun i wr => ∃ k k1 : Nat, k1 ≤ m ∧ Hid (k1 = k + 1) ∧ i = .int .i64 k1 ∧ GW w wr w.heap.size N (upto (ghX h B) (k + 1))) (fun i _ => m - (intOf i).toNat)
      case atStart => exact ⟨0, 1, m1, Lib.hid rfl, rfl, hg0⟩
      case round =>
        clear hg0
        obtain ⟨k, k1, hk, HK, rfl, hm⟩ := hrel
        by_cases hlt : k1 < m
        · as_aux_lemma =>
          clear hmz hmy mz0 mb16 l8 w64
          have l1 : (k1 : Int) ≤ (mp : Int) := by have := HD.out; clear d1; omega
          have hnm : na = m := mK_of HM (by have := HK.out; clear d1; omega)
          obtain ⟨ad, rfl, hadl, _⟩ := hA.2 (by clear d1; omega)
          have Hnm := Lib.hid hnm
          clear hnm
          have hN' := HN.out
          have hS' := HS.out
          have hK' := HK.out
          have hnm' := Hnm.out
          obtain ⟨q, QF, HQ⟩ := place_pl k1 N N (16 * N) (by clear d1; omega) (by clear d1; omega) (by clear d1; omega) (Nat.le_refl _)
          obtain ⟨p, PF, HP⟩ := place_pl k N na ca (by clear d1; omega) (by clear d1; omega) (by clear d1; omega) hca
          have e5 : IntKind.i64.wrap ((k1 : Int) - 1) = (k : Int) := by rw [IntWalk.i64_in _ (by clear d1; omega)]; clear d1; omega
          have hP' := HP.out
          have hSA := (hA.below hm.o.to_below').src_fst.part (o := p) (m := 16) (by clear d1 e5; omega)
          have hSX := gh_src hm.x (by clear d1 e5; omega) HP
          have had2 := Nat.lt_of_lt_of_le hadl hm.o.size
          clear hN' hS' hK' hnm' hP'
          obtain ⟨q1, q2, q3, q4, q5, q6, q7, q8, q9, q10, q11, q12⟩ := QF
          obtain ⟨p1, p2, p3, p4, p5, p6, p7, p8, p9, p10, p11, p12⟩ := PF
          go_wp2_with fail
          have xl := hm.x.lt
          have hO0 : Only [] wr wr.drew := (Only.refl [] wr).drew
          have hH2 := hH.only hm.o hHl (by simp)
          have hHl2 := Nat.lt_of_lt_of_le hHl hm.o.size
          go_region_held3 (fun _ => True) (trivial)
            (first
              | (refine step_copy16 rfl (.tmp 71) (.tmp 92) rfl w.heap.size q (16 * N - q) (16 * N) 16 ⟨g5, 0, none⟩ _ _ rfl rfl hx5 q5 (hm5.src0 (Nat.le_refl _)) ?_; intro w6 ho6 hx6)
              | (go_at_call 71; refine (mul_any ⟨g4, 0, none⟩ H 16 ch _ h w4 (ha4.src0 (Nat.le_refl _)) (xb_bf _ _) (hH2.only ho4 hHl2 (by simp)) ha4.lt (Nat.lt_of_lt_of_le hHl2 ho4.size)).mono ?_; rintro e w5 ⟨g5, rfl, hg5, hm5, ho5'⟩; have ho5 := ho4.trans ho5'; have hx5 := hm.x.only ho5 (by simp))
              | (go_at_call 62; refine (add_any ⟨w.heap.size, p, none⟩ (ad.add p) _ _ _ _ wr.drew (hSX.only hO0 xl (by simp)) (hSA.only hO0 (by rw [block_of_add]; exact had2) (by simp)) xl (by rw [block_of_add]; exact had2)).mono ?_; rintro e w4 ⟨g4, rfl, hg4, ha4, ho4'⟩; have ho4 := hO0.trans ho4'))
          go_wp2_with fail
          have hn6 := hm.next (Nat.le_refl _) ho5 ho6 (by rw [← HK.out]; exact HQ) (by
            rw [HB.out]
            have h1 := Hnm.out
            have h2 := HK.out
            have h3 := HM.out
            have h4 := HP.out
            clear d1 e5 q1 q2 p1 p2
            unfold gB
            rw [if_pos (by omega)]
            unfold blk
            rw [h4]) hx6
          go_roundw
          case rel => exact ⟨k + 1, k1 + 1, by clear d1 e5 q1 q2 p1 p2; omega, Lib.hid (by have := HK.out; clear d1 e5 q1 q2 p1 p2; omega), by go_num, hn6⟩
          case measure => simp [intOf]; clear d1 e5 q1 q2 p1 p2; omega
        · as_aux_lemma =>
          obtain rfl : m = k1 := by clear d1; omega
          have l1 : ¬ (m : Int) ≤ (mp : Int) := by have := HD.out; clear d1; omega
          clear hlt hk
          obtain ⟨v1, v2, v3, v8⟩ := VF.out
          obtain ⟨o2, o3, o4, o5⟩ := LOF2.out
          obtain ⟨b1, b2, b3, b4, b5, b6, b7, b8, b9, b10, b11, b12⟩ := LOF
          go_wp2_with fail
          refine region_quiet_tail 7 (by kernel_rfl) (by kernel_rfl) ?_
          simp only [List.take_succ_cons, List.take_zero, List.drop_succ_cons, List.drop_zero]
          repeat (quiet_step (fail))
          refine wpQuiet_nil ?_
          intro _ hw'
          obtain ⟨nq, rfl⟩ := hw'
          have hoB : Only [] wr (((wr.alloc (.cells (madeCells #[.int .u8 0] z) 5)).alloc (.cells (madeCells #[.int .u8 0] y) 5)).drewN nq) := (((Only.refl _ _).alloc _).alloc _).drewN nq
          have hrA := ((hA.below hm.o.to_below').below (hoB.to_below (B := w.heap.size) hm.o.size (by simp))).tail (ca := ca) o4 hca o3
          generalize (if ca = lo then A else Option.map (fun x => x.add lo) A) = A' at hrA ⊢
          have hAm := ArrE.made (wr.alloc (.cells (madeCells #[.int .u8 0] z) 5)) y
          rw [World.size_alloc] at hAm
          have hz0 := (((ArrE.made wr z).only (((Only.refl [] _).alloc (.cells (madeCells #[.int .u8 0] y) 5)).drewN nq) (by simp)))
          have hmx : 16 ≤ maxLen := by unfold maxLen; decide
          clear v1 v2 v3 v8 o2 o3 o4 o5
          go_wp2_with (first
            | (refine copy_exact rfl (.tmp 102) (.tmp 107) rfl (wr.heap.size + 1) y y (ca - lo) w.heap.size _ (fun _ => 0) (fun j => a (lo + j)) rfl rfl (hAm.only ((Only.refl [] _).drewN nq) (by simp)) hrA ?_; intro w2 ho2 hd2; have hz2 := hz0.only ho2 (by simp); have hs2 := ho2.size; simp at hs2)
            | (at_builtin; (refine app_bytes w2 rfl (.tmp 109) (.tmp 110) rfl (wr.heap.size + 1) _ (fst y (fun j => a (lo + j))) rfl (hd2.own (Nat.le_refl _) (Nat.le_trans y16 hmx)) w2.heap.size _ z z (fst z (fun _ => 0)) rfl hz2.arr.reads (by rw [fst_length]; clear d1 b1 b2; omega) (by clear d1 b1 b2; omega) ?_; intro v3 w3 hown3 hb3; rw [fill_list y z _ yz.out] at hown3; obtain ⟨gA, cA, rfl, hcA, hgA, hA3⟩ := hown3.arr (by decide))))
          have hsw := hm.o.size
          have hm3 : GW w w3 w.heap.size N (upto (ghX h B) (k + 1)) :=
            ⟨((hm.o.trans hoB).then_ ho2 (by intro a ha hl; simp at ha; clear d1 b1 b2; omega)).below_ hb3 (by clear d1 b1 b2; omega),
             ((hm.x.only hoB (by simp)).only ho2 (by simp; clear d1 b1 b2; omega)).below hb3 (by clear d1 b1 b2; omega)⟩
          clear hb3 ho2 hd2 hz2 hs2 hz0 hAm hrA hoB hm hown3 hsw
          have hSX := gh_src hm3.x (by have := HN.out; have := HS.out; have := HK.out; clear d1 b1 b2; omega) (show Hid (lo = 16 * k) by have := LO.out; have := HD.out; have := HK.out; exact Lib.hid (by clear d1 b1 b2; omega))
          have hAl := hA3.lt
          obtain ⟨qm1, qm2, qm3, qm4, qm5, qm6, qm7, qm8, qm9, qm10, qm11, qm12⟩ := QMF
          have xl := hm3.x.lt
          have hO0 : Only [] w3 w3.drew := (Only.refl [] w3).drew
          have hH2 := hH.only hm3.o hHl (by simp)
          have hHl2 := Nat.lt_of_lt_of_le hHl hm3.o.size
          go_region_held3 (fun _ => True) (trivial)
            (first
              | (refine step_copy16 rfl (.tmp 118) (.tmp 131) rfl w.heap.size qm (16 * N - qm) (16 * N) 16 ⟨g5, 0, none⟩ _ _ rfl rfl hx5 qm5 (hm5.src0 (Nat.le_refl _)) ?_; intro w6 ho6 hx6)
              | (go_at_call 71; refine (mul_any ⟨g4, 0, none⟩ H 16 ch _ h w4 (ha4.src0 (Nat.le_refl _)) (xb_bf _ _) (hH2.only ho4 hHl2 (by simp)) ha4.lt (Nat.lt_of_lt_of_le hHl2 ho4.size)).mono ?_; rintro e w5 ⟨g5, rfl, hg5, hm5, ho5'⟩; have ho5 := ho4.trans ho5'; have hx5 := hm3.x.only ho5 (by simp))
              | (go_at_call 62; refine (add_any ⟨w.heap.size, lo, none⟩ ⟨gA, 0, none⟩ _ _ _ _ w3.drew (hSX.only hO0 xl (by simp)) ((hA3.src0 (Nat.le_refl _)).only hO0 hAl (by simp)) xl hAl).mono ?_; rintro e w4 ⟨g4, rfl, hg4, ha4, ho4'⟩; have ho4 := hO0.trans ho4'))
          have hm6 := hm3.next (Nat.le_refl _) ho5 ho6 (show Hid (qm = 16 * (k + 1)) by rw [← HK.out]; exact QM) (by
            rw [HB.out]
            have h1 := HM.out
            have h2 := LO.out
            have h3 := HD.out
            have h4 := HK.out
            clear d1 b1 b2 qm1 qm2
            unfold gB
            rw [if_neg (by omega), if_pos (by omega)]
            rcases v0.out with ⟨h5, h6⟩ | ⟨h5, h6⟩
            · rw [h5, h6, if_pos rfl]; unfold fill; rfl
            · rw [if_neg (by omega), h6, show 16 * (mK na - 1) = lo by omega]) hx6
          have hkm := HK
          clear hm3 ho5 ho6 hx6 hx5 hm5 ha4 ho4 ho4' ho5' hA3 hSX hO0 hH2 hAl hHl2 xl l1 d1 hmz hmy w64
          clear qm1 qm2 qm3 qm4 qm5 qm6 qm7 qm8 qm9 qm10 qm11 qm12
          clear b1 b2 b3 b4 b5 b6 b7 b8 b9 b10 b11 b12
          have d2 := D2.out
          go_wp2_with fail
          clear d2
          have g1 := G1.out
          have d3 := D3.out
          go_loopw [16] (fun i wr => ∃ k k1 : Nat, k1 ≤ s ∧ Hid (m + 1 ≤ k1) ∧ Hid (k1 = k + 1) ∧ i = .int .i64 k1 ∧ GW w wr w.heap.size N (upto (ghX h B) (k + 1))) (fun i _ => s - (intOf i).toNat)
          case atStart => exact ⟨k + 1, m2, by have := HM2.out; have := HS.out; clear g1 d3; omega, Lib.hid (by rw [HM2.out]; exact Nat.le_refl _), Lib.hid (by rw [HM2.out, HK.out]), rfl, hm6⟩
          case round =>
            clear hm6 hkm HK
            clear k
            obtain ⟨k, k1, hk, hkm, HK, rfl, hm⟩ := hrel
            by_cases hlt : k1 < s
            · as_aux_lemma =>
              clear mz0 mb16 l8
              have l1 : (k1 : Int) ≤ (sp : Int) := by have := HSP.out; clear g1 d3; omega
              have hN' := HN.out
              have hS' := HS.out
              have hK' := HK.out
              have hkm' := hkm.out
              obtain ⟨r1, r1e, hr1⟩ : ∃ r1 : Nat, IntKind.i64.wrap ((k1 : Int) - (m : Int)) = (r1 : Int) ∧ k1 = m + r1 := ⟨k1 - m, by rw [IntWalk.i64_in _ (by clear g1 d3; omega)]; clear g1 d3; omega, by clear g1 d3; omega⟩
              obtain ⟨r, re, Hr⟩ := drop1 r1 (by clear g1 d3 r1e; omega) (by clear g1 d3 r1e; omega)
              have hr := Hr.out
              obtain ⟨q, QF, HQ⟩ := place_pl k1 N N (16 * N) (by clear g1 d3 r1e re; omega) (by clear g1 d3 r1e re; omega) (by clear g1 d3 r1e re; omega) (Nat.le_refl _)
              obtain ⟨p, PF, HP⟩ := place_pl k N N (16 * N) (by clear g1 d3 r1e re; omega) (by clear g1 d3 r1e re; omega) (by clear g1 d3 r1e re; omega) (Nat.le_refl _)
              obtain ⟨u, UF, HU⟩ := place_pl r N nc cc (by clear g1 d3 r1e re; omega) (by clear g1 d3 r1e re; omega) (by clear g1 d3 r1e re; omega) hcc
              have e5 : IntKind.i64.wrap ((k1 : Int) - 1) = (k : Int) := by rw [IntWalk.i64_in _ (by clear g1 d3 r1e re; omega)]; clear g1 d3 r1e re; omega
              have hU' := HU.out
              have hSA := (hC.below hm.o.to_below').src_fst.part (o := u) (m := 16) (by clear g1 d3 r1e re e5; omega)
              have hSX := gh_src hm.x (by clear g1 d3 r1e re e5; omega) HP
              have had2 := Nat.lt_of_lt_of_le hcl hm.o.size
              have hR := Lib.hid (And.intro hr1 hr)
              clear hN' hS' hK' hU' hkm' hr1 hr
              obtain ⟨q1, q2, q3, q4, q5, q6, q7, q8, q9, q10, q11, q12⟩ := QF
              obtain ⟨p1, p2, p3, p4, p5, p6, p7, p8, p9, p10, p11, p12⟩ := PF
              obtain ⟨u1, u2, u3, u4, u5, u6, u7, u8, u9, u10, u11, u12⟩ := UF
              go_wp2_with fail
              have xl := hm.x.lt
              have hO0 : Only [] wr wr.drew := (Only.refl [] wr).drew
              have hH2 := hH.only hm.o hHl (by simp)
              have hHl2 := Nat.lt_of_lt_of_le hHl hm.o.size
              go_region_held3 (fun _ => True) (trivial)
                (first
                  | (refine step_copy16 rfl (.tmp 149) (.tmp 174) rfl w.heap.size q (16 * N - q) (16 * N) 16 ⟨g5, 0, none⟩ _ _ rfl rfl hx5 q5 (hm5.src0 (Nat.le_refl _)) ?_; intro w6 ho6 hx6)
                  | (go_at_call 71; refine (mul_any ⟨g4, 0, none⟩ H 16 ch _ h w4 (ha4.src0 (Nat.le_refl _)) (xb_bf _ _) (hH2.only ho4 hHl2 (by simp)) ha4.lt (Nat.lt_of_lt_of_le hHl2 ho4.size)).mono ?_; rintro e w5 ⟨g5, rfl, hg5, hm5, ho5'⟩; have ho5 := ho4.trans ho5'; have hx5 := hm.x.only ho5 (by simp))
                  | (go_at_call 62; refine (add_any ⟨w.heap.size, p, none⟩ (ac.add u) _ _ _ _ wr.drew (hSX.only hO0 xl (by simp)) (hSA.only hO0 (by rw [block_of_add]; exact had2) (by simp)) xl (by rw [block_of_add]; exact had2)).mono ?_; rintro e w4 ⟨g4, rfl, hg4, ha4, ho4'⟩; have ho4 := hO0.trans ho4'))
              go_wp2_with fail
              have hn6 := hm.next (Nat.le_refl _) ho5 ho6 (by rw [← HK.out]; exact HQ) (by
                rw [HB.out]
                have h1 := HS.out
                have h2 := HK.out
                have h3 := HM.out
                have h4 := HU.out
                have h6 := hkm.out
                obtain ⟨h7, h8⟩ := hR.out
                clear g1 d3 r1e re e5 q1 q2 p1 p2 u1 u2
                unfold gB
                rw [if_neg (by omega), if_neg (by omega), if_pos (by omega)]
                unfold blk
                rw [h4, show k - mK na = r by omega]) hx6
              go_roundw
              case rel => exact ⟨k + 1, k1 + 1, by clear g1 d3 r1e re e5 q1 q2 p1 p2 u1 u2; omega, Lib.hid (by have := hkm.out; clear g1 d3 r1e re e5 q1 q2 p1 p2 u1 u2; omega), Lib.hid (by have := HK.out; clear g1 d3 r1e re e5 q1 q2 p1 p2 u1 u2; omega), by go_num, hn6⟩
              case measure => simp [intOf]; clear g1 d3 r1e re e5 q1 q2 p1 p2 u1 u2; omega
            · as_aux_lemma =>
              obtain rfl : s = k1 := by clear g1 d3; omega
              have l1 : ¬ (s : Int) ≤ (sp : Int) := by have := HSP.out; clear g1 d3; omega
              clear hlt hk
              obtain ⟨lc1, lc2, lc3, lc4, lc5, lc6⟩ := LCF.out
              have d5 := D5.out
              go_wp2_with fail
              refine region_quiet_tail 7 (by kernel_rfl) (by kernel_rfl) ?_
              simp only [List.take_succ_cons, List.take_zero, List.drop_succ_cons, List.drop_zero]
              repeat (quiet_step (fail))
              refine wpQuiet_nil ?_
              intro _ hw'
              obtain ⟨nq, rfl⟩ := hw'
              have hoB : Only [] wr (((wr.alloc (.cells (madeCells #[.int .u8 0] 0) 5)).alloc (.cells (ZB 16) 5)).drewN nq) := (((Only.refl _ _).alloc _).alloc _).drewN nq
              have hrC := ((hC.below hm.o.to_below').below (hoB.to_below (B := w.heap.size) hm.o.size (by simp))).tail (ca := cc) lc5 hcc lc3
              rw [if_neg lc4, Option.map_some] at hrC
              have hCn := ArrE.zb (wr.alloc (.cells (madeCells #[.int .u8 0] 0) 5)) 16
              rw [World.size_alloc] at hCn
              have hz0 := (((ArrE.made wr 0).only (((Only.refl [] _).alloc (.cells (ZB 16) 5)).drewN nq) (by simp)))
              have hmx : 16 ≤ maxLen := by unfold maxLen; decide
              clear lc1 lc2 lc3 lc4 lc5 lc6 d5
              go_wp2_with (first
                | (refine copy_exact rfl (.tmp 184) (.tmp 189) rfl (wr.heap.size + 1) 16 16 (cc - lc) w.heap.size (some (ac.add lc)) (fun _ => 0) (fun j => c (lc + j)) rfl rfl (hCn.only ((Only.refl [] _).drewN nq) (by simp)) hrC ?_; intro w2 ho2 hd2; have hz2 := hz0.only ho2 (by simp); have hs2 := ho2.size; simp at hs2)
                | (at_builtin; (refine app_bytes w2 rfl (.tmp 191) (.tmp 192) rfl (wr.heap.size + 1) _ (fst 16 (fun j => c (lc + j))) rfl (hd2.own (Nat.le_refl _) hmx) w2.heap.size _ 0 0 (fst 0 (fun _ => 0)) rfl hz2.arr.reads (by rw [fst_length]; decide) (by clear g1 d3; omega) ?_; intro v3 w3 hown3 hb3; rw [show fst 16 (fun j => c (lc + j)) ++ fst 0 (fun _ => 0) = fst 16 (fill 16 (fun j => c (lc + j))) from fill_list 16 0 _ rfl] at hown3; obtain ⟨gC, cC, rfl, hcC, hgC, hA3⟩ := hown3.arr (by decide))))
              have hsw := hm.o.size
              have hm3 : GW w w3 w.heap.size N (upto (ghX h B) (k + 1)) :=
                ⟨((hm.o.trans hoB).then_ ho2 (by intro a ha hl; simp at ha; clear g1 d3; omega)).below_ hb3 (by clear g1 d3; omega),
                 ((hm.x.only hoB (by simp)).only ho2 (by simp; clear g1 d3; omega)).below hb3 (by clear g1 d3; omega)⟩
              clear hb3 ho2 hd2 hz2 hs2 hz0 hCn hrC hoB hm hown3 hsw
              have hSX := gh_src hm3.x (by have := HN.out; have := HS.out; have := HK.out; clear g1 d3; omega) (show Hid (ps = 16 * k) by have := PS.out; have := HSP.out; have := HK.out; exact Lib.hid (by clear g1 d3; omega))
              have hAl := hA3.lt
              obtain ⟨qs1, qs2, qs3, qs4, qs5, qs6, qs7, qs8, qs9, qs10, qs11, qs12⟩ := QSF
              obtain ⟨ps1, ps2, ps3, ps4, ps5, ps6, ps7, ps8, ps9, ps10, ps11, ps12⟩ := PSF
              have xl := hm3.x.lt
              have hO0 : Only [] w3 w3.drew := (Only.refl [] w3).drew
              have hH2 := hH.only hm3.o hHl (by simp)
              have hHl2 := Nat.lt_of_lt_of_le hHl hm3.o.size
              go_region_held3 (fun _ => True) (trivial)
                (first
                  | (refine step_copy16 rfl (.tmp 204) (.tmp 221) rfl w.heap.size qs (16 * N - qs) (16 * N) 16 ⟨g5, 0, none⟩ _ _ rfl rfl hx5 qs5 (hm5.src0 (Nat.le_refl _)) ?_; intro w6 ho6 hx6)
                  | (go_at_call 71; refine (mul_any ⟨g4, 0, none⟩ H 16 ch _ h w4 (ha4.src0 (Nat.le_refl _)) (xb_bf _ _) (hH2.only ho4 hHl2 (by simp)) ha4.lt (Nat.lt_of_lt_of_le hHl2 ho4.size)).mono ?_; rintro e w5 ⟨g5, rfl, hg5, hm5, ho5'⟩; have ho5 := ho4.trans ho5'; have hx5 := hm3.x.only ho5 (by simp))
                  | (go_at_call 62; refine (add_any ⟨w.heap.size, ps, none⟩ ⟨gC, 0, none⟩ _ _ _ _ w3.drew (hSX.only hO0 xl (by simp)) ((hA3.src0 (Nat.le_refl _)).only hO0 hAl (by simp)) xl hAl).mono ?_; rintro e w4 ⟨g4, rfl, hg4, ha4, ho4'⟩; have ho4 := hO0.trans ho4'))
              have hm6 := hm3.next (Nat.le_refl _) ho5 ho6 (show Hid (qs = 16 * (k + 1)) by rw [← HK.out]; exact QS) (by
                rw [HB.out]
                have h1 := HM.out
                have h2 := HNP.out
                have h3 := HK.out
                have h4 := HS.out
                have h6 := LC.out
                clear g1 d3 qs1 qs2 ps1 ps2
                unfold gB
                rw [if_neg (by omega), if_neg (by omega), if_neg (by omega), if_pos (by omega), show 16 * (nc - 1) = lc by omega]) hx6
              clear hm3 ho5 ho6 hx6 hx5 hm5 ha4 ho4 ho4' ho5' hA3 hSX hO0 hH2 hAl hHl2 xl l1 d3
              clear ps1 ps2 ps3 ps4 ps5 ps6 ps7 ps8 ps9 ps10 ps11 ps12
              have d4 := D4.out
              go_wp2_with (first
                | (go_at_call 72; refine (l8 (16 * (nc : Int)) w8).mono ?_; rintro e w9 ⟨g9, rfl, hg9, hl9, ho9⟩; have hs9 := ho9.size)
                | (go_at_call 72; refine (l8 (16 * (na : Int)) w6).mono ?_; rintro e w7 ⟨g7, rfl, hg7, hl7, ho7⟩; have hs7 := ho7.size)
                | (at_builtin; (refine app_bytes w9 rfl (.tmp 229) (.tmp 233) rfl w6.heap.size _ (fst 8 (len8 (16 * (na : Int)))) rfl (hown8.below ho9.to_below' (Nat.le_refl _)) w9.heap.size _ 8 8 (fst 8 (len8 (16 * (nc : Int)))) rfl hl9.reads (by rw [fst_length]; decide) (Nat.le_trans hs8 hs9) ?_; intro v10 w10 hown10 hb10))
                | (at_builtin; (refine app_bytes w7 rfl (.tmp 223) (.tmp 227) rfl w6.heap.size _ [] rfl (own_nil _ _) w7.heap.size _ 8 8 (fst 8 (len8 (16 * (na : Int)))) rfl hl7.reads (by decide) hs7 ?_; intro v8' w8 hown8 hb8; rw [List.nil_append] at hown8; have hs8 := Nat.le_trans hs7 hb8.size)))
              have hL : ∃ gL cL, v10 = .slice (some ⟨gL, 0, none⟩) 16 cL ∧ ArrB w10 gL 16 (lens (16 * (na : Int)) (16 * (nc : Int))) := by
                rw [lens_list] at hown10
                obtain ⟨gL, cL, e1, _, _, e4⟩ := hown10.arr (by decide)
                exact ⟨gL, cL, e1, e4⟩
              obtain ⟨gL, cL, rfl, hA3⟩ := hL
              have hx10 : ArrB w10 w.heap.size (16 * N) (upto (ghX h B) (k + 1 + 1)) := ((((hm6.x.only ho7 (by simp)).below hb8 hm6.x.lt).only ho9 (by simp)).below hb10 hm6.x.lt)
              have ho10 : Only [] w w10 := (((hm6.o.trans ho7).below_ hb8 hm6.o.size).trans ho9).below_ hb10 hm6.o.size
              have hm3 : GW w w10 w.heap.size N (upto (ghX h B) (k + 1 + 1)) := ⟨ho10, hx10⟩
              clear hx10 ho10 hm6 ho7 hb8 ho9 hb10 hl7 hl9 hown8 hown10 hs7 hs8 hs9 hg7 hg9
              have hSX := gh_src hm3.x (by have := HN.out; have := HS.out; have := HK.out; clear g1 d4 qs1 qs2; omega) (show Hid (qs = 16 * (k + 1)) by rw [← HK.out]; exact QS)
              have hAl := hA3.lt
              obtain ⟨qt1, qt2, qt3, qt4, qt5, qt6, qt7, qt8, qt9, qt10, qt11, qt12⟩ := QTF
              have xl := hm3.x.lt
              have hO0 : Only [] w10 w10.drew := (Only.refl [] w10).drew
              have hH2 := hH.only hm3.o hHl (by simp)
              have hHl2 := Nat.lt_of_lt_of_le hHl hm3.o.size
              go_region_held3 (fun _ => True) (trivial)
                (first
                  | (refine step_copy16 rfl (.tmp 247) (.tmp 262) rfl w.heap.size qt (16 * N - qt) (16 * N) 16 ⟨g5, 0, none⟩ _ _ rfl rfl hx5 qt5 (hm5.src0 (Nat.le_refl _)) ?_; intro w6 ho6 hx6)
                  | (go_at_call 71; refine (mul_any ⟨g4, 0, none⟩ H 16 ch _ h w4 (ha4.src0 (Nat.le_refl _)) (xb_bf _ _) (hH2.only ho4 hHl2 (by simp)) ha4.lt (Nat.lt_of_lt_of_le hHl2 ho4.size)).mono ?_; rintro e w5 ⟨g5, rfl, hg5, hm5, ho5'⟩; have ho5 := ho4.trans ho5'; have hx5 := hm3.x.only ho5 (by simp))
                  | (go_at_call 62; refine (add_any ⟨w.heap.size, qs, none⟩ ⟨gL, 0, none⟩ _ _ _ _ w10.drew (hSX.only hO0 xl (by simp)) ((hA3.src0 (Nat.le_refl _)).only hO0 hAl (by simp)) xl hAl).mono ?_; rintro e w4 ⟨g4, rfl, hg4, ha4, ho4'⟩; have ho4 := hO0.trans ho4'))
              have hm6 := hm3.next (Nat.le_refl _) ho5 ho6 (show Hid (qt = 16 * (k + 1 + 1)) by rw [← HK.out, ← HS1.out]; exact QT) (by
                rw [HB.out]
                have h1 := HM.out
                have h3 := HK.out
                have h4 := HS.out
                clear g1 d4 qs1 qs2 qt1 qt2
                unfold gB
                rw [if_neg (by omega), if_neg (by omega), if_neg (by omega), if_neg (by omega)]) hx6
              clear hm3 ho5 ho6 hx6 hx5 hm5 ha4 ho4 ho4' ho5' hA3 hSX hO0 hH2 hAl hHl2 xl
              go_wp2_with fail
              go_ret
              have hfin := gh_src hm6.x (by have := HN.out; have := HS.out; have := HK.out; clear g1 d4 qs1 qs2 qt1 qt2; omega) (show Hid (qt = 16 * (k + 1 + 1)) by rw [← HK.out, ← HS1.out]; exact QT)
              refine ⟨w.heap.size, qt, 16 * N - qt, rfl, Nat.le_refl _, ?_, hm6.x.lt, by clear g1 d4 qs1 qs2 qt1 qt2; omega, hm6.o⟩
              unfold ghash
              have hk2 : mK na + nc + 1 = k + 1 + 1 := by have h1 := HM.out; have h3 := HK.out; have h4 := HS.out; clear g1 d4 qs1 qs2 qt1 qt2; omega
              rw [hk2, ← HB.out]
              exact hfin
end Go.Proofs.YtkfagcpboehjjaaDoor
