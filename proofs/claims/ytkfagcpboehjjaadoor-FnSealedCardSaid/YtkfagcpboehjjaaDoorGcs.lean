/- The package's GCM within its closure, exactly. No condition but where things lie. -/
import Derived.Test.YtkfagcpboehjjaaDoorGcd
import Derived.Test.YtkfagcpboehjjaaDoorClo
namespace Go.Proofs.YtkfagcpboehjjaaDoor
set_option maxRecDepth 100000
open Go.RowKit

/-- The first counter of a nonce; what comes out; the tag. -/
def yF (l : List Int) : Nat → Int := lF (l ++ [0, 0, 0, 1])
def gcT (kf : Nat → Int) (l : List Int) (na n : Nat) (a0 p : Nat → Int) : Nat → Int := xb (E (keyF kf) (yF l)) (ghash (E (keyF kf) (fun _ => 0)) na n a0 p)
def gcC (kf : Nat → Int) (l : List Int) (p : Nat → Int) : Nat → Int := pick (gO (keyF kf) (yF l) p)
/-- What is sealed: the data or what came out of them. -/
def sealedF (bk : Bool) (kf : Nat → Int) (l : List Int) (p : Nat → Int) : Nat → Int := if bk then p else gcC kf l p

/-- The data and the tag come back. -/
def GotG (gI n : Nat) (F T : Nat → Int) (w : World) (e : Ending) (w' : World) : Prop := ∃ gC gT, e = .returned (.tuple #[.slice (some ⟨gC, 0, none⟩) n n, .slice (some ⟨gT, 0, none⟩) 16 16, .nilIface]) ∧ w.heap.size ≤ gC ∧ w.heap.size ≤ gT ∧ ArrB w' gC n F ∧ ArrB w' gT 16 T ∧ Only [gI] w w'
set_option maxHeartbeats 1000000 in
theorem gcm_any (bk : Bool) (K : Addr) (ck gI cI : Nat) (ap : Addr) (n cp : Nat) (A : Option Addr) (na ca base : Nat) (kf p a0 : Nat → Int) (l : List Int) (w : World) (hK : Src w K 16 kf) (hKf : Bf kf) (hKl : K.block < w.heap.size) (hKI : K.block ≠ gI)
    (ht : Tabs w) (h7 : 7 ≤ w.heap.size) (hg7 : 7 ≤ gI) (hI : OwnB w base (.slice (some ⟨gI, 0, none⟩) 12 cI) l) (hI12 : l.length = 12) (hIb : Byl l) (hI255 : ∀ j, j < 12 → lF l j ≠ 255) (hbase : base ≤ w.heap.size)
    (hP : Src w ap (16 * n) p) (hPl : ap.block < w.heap.size) (hPI : ap.block ≠ gI) (hcp : 16 * n ≤ cp) (hn : n ≤ 31) (hn0 : 0 < n)
    (hA : Reads w w.heap.size 1 A (16 * na) ((fst (16 * na) a0).map (Value.int .u8))) (hAI : ∀ ad, A = some ad → ad.block ≠ gI) (hca : 16 * na ≤ ca) (hna : na ≤ 31) :
    Calls Tryd.prog 37 #[.slice (some K) 16 ck, .slice (some ⟨gI, 0, none⟩) 12 cI, .slice (some ap) (16 * n : Nat) cp, .slice A (16 * na : Nat) ca, .bool (!bk)] w (GotG gI (16 * n) (gcC kf l p) (gcT kf l na n a0 (sealedF bk kf l p)) w) := by
  cases bk
  · have h := gcme_any K ck gI cI ap n cp A na ca base kf p a0 l w hK hKf hKl hKI ht h7 hg7 hI hI12 hIb hI255 hbase hP hPl hPI hcp hn hn0 hA hAI hca hna
    go_enter Tryd.func37, Tryd.ntmps37
    go_wp2_with (go_at_call 51; refine h.mono ?_; rintro e w1 ⟨gC, gT, rfl, h1, h2, h3, h4, h5⟩)
    exact bodyPost_ret (v := .tuple #[.slice (some ⟨gC, 0, none⟩) (16 * n) (16 * n), .slice (some ⟨gT, 0, none⟩) 16 16, .nilIface]) (by simp [results, Tryd.results37, go_sem]) rfl ⟨gC, gT, rfl, h1, h2, h3, h4, h5⟩
  · have h := gcmd_any K ck gI cI ap n cp A na ca base kf p a0 l w hK hKf hKl hKI ht h7 hg7 hI hI12 hIb hI255 hbase hP hPl hPI hcp hn hn0 hA hAI hca hna
    go_enter Tryd.func37, Tryd.ntmps37
    go_wp2_with (go_at_call 52; refine h.mono ?_; rintro e w1 ⟨gC, gT, rfl, h1, h2, h3, h4, h5⟩)
    exact bodyPost_ret (v := .tuple #[.slice (some ⟨gC, 0, none⟩) (16 * n) (16 * n), .slice (some ⟨gT, 0, none⟩) 16 16, .nilIface]) (by simp [results, Tryd.results37, go_sem]) rfl ⟨gC, gT, rfl, h1, h2, h3, h4, h5⟩

/-- What the closure has captured. -/
structure CaptG (w : World) (N : Nat) (K V D M : Value) (bk : Bool) : Prop where
  key : Blk w N 22 #[K]
  iv : Blk w (N + 1) 22 #[V]
  data : Blk w (N + 2) 22 #[D]
  more : Blk w (N + 3) 22 #[M]
  back : Blk w (N + 4) 4 #[.bool bk]
  out : Blk w (N + 5) 22 #[.slice none 0 0]
  tag : Blk w (N + 6) 22 #[.slice none 0 0]
  err : Blk w (N + 7) 36 #[.nilIface]
theorem CaptG.only {w w' : World} {N : Nat} {K V D M : Value} {bk : Bool} (h : CaptG w N K V D M bk) (ho : Only [] w w') : CaptG w' N K V D M bk :=
  ⟨ho.blk h.key (by simp), ho.blk h.iv (by simp), ho.blk h.data (by simp), ho.blk h.more (by simp), ho.blk h.back (by simp), ho.blk h.out (by simp), ho.blk h.tag (by simp), ho.blk h.err (by simp)⟩
theorem CaptG.cells {w : World} {N : Nat} {K V D M : Value} {bk : Bool} (h : CaptG w N K V D M bk) : w.cell? ⟨N, 0, none⟩ = some K ∧ w.cell? ⟨N + 1, 0, none⟩ = some V ∧ w.cell? ⟨N + 2, 0, none⟩ = some D ∧ w.cell? ⟨N + 3, 0, none⟩ = some M ∧ w.cell? ⟨N + 4, 0, none⟩ = some (.bool bk) :=
  ⟨h.key.cell 0, h.iv.cell 0, h.data.cell 0, h.more.cell 0, h.back.cell 0⟩

def ClosG (N n : Nat) (F T : Nat → Int) (w : World) (e : Ending) (w' : World) : Prop :=
  e = .returned (.tuple #[]) ∧ Only [N + 5, N + 6, N + 7] w w' ∧ (∃ gC, Blk w' (N + 5) 22 #[.slice (some ⟨gC, 0, none⟩) n n] ∧ w.heap.size ≤ gC ∧ ArrB w' gC n F) ∧ (∃ gT, Blk w' (N + 6) 22 #[.slice (some ⟨gT, 0, none⟩) 16 16] ∧ w.heap.size ≤ gT ∧ ArrB w' gT 16 T) ∧ Blk w' (N + 7) 36 #[.nilIface]

/-- A nonce is copied into new memory; some bytes are. -/
def GotI (l : List Int) (w : World) (e : Ending) (w' : World) : Prop := ∃ g c, e = .returned (.slice (some ⟨g, 0, none⟩) 12 c) ∧ w.heap.size ≤ g ∧ g < w'.heap.size ∧ OwnB w' w.heap.size (.slice (some ⟨g, 0, none⟩) 12 c) l ∧ Below w.heap.size w w'
theorem owni_any (V : Option Addr) (cv : Nat) (l : List Int) (w : World) (hV : Reads w w.heap.size 1 V 12 (l.map (Value.int .u8))) :
    Calls Tryd.prog 21 #[.slice V 12 cv] w (GotI l w) := by
  have hl : l.length = 12 := by have := hV.1; simpa using this
  refine (own_any V 12 cv l w hV (by omega)).mono ?_
  rintro e w1 ⟨v, rfl, hv, hb⟩
  obtain ⟨g, c, rfl, h1, h2, _⟩ := hv.form (by omega)
  rw [hl] at hv ⊢
  exact ⟨g, c, rfl, h1, h2, hv, hb⟩
def GotX (n : Nat) (l : List Int) (w : World) (e : Ending) (w' : World) : Prop := ∃ A c, e = .returned (.slice A n c) ∧ n ≤ c ∧ Reads w' w'.heap.size 1 A n (l.map (Value.int .u8)) ∧ (∀ ad, A = some ad → w.heap.size ≤ ad.block) ∧ Below w.heap.size w w'
theorem ownx_any (A : Option Addr) (n c : Nat) (l : List Int) (w : World) (hD : Reads w w.heap.size 1 A n (l.map (Value.int .u8))) (hn : n ≤ 1008) :
    Calls Tryd.prog 21 #[.slice A n c] w (GotX n l w) := by
  have hl : l.length = n := by have := hD.1; simpa using this
  refine (own_any A n c l w hD (by omega)).mono ?_
  rintro e w1 ⟨v, rfl, hv, hb⟩
  obtain ⟨A', c', rfl⟩ := hv.shaped
  have hr := hv.reads.2
  have hc : l.length ≤ c' ∧ ∀ ad, A' = some ad → w.heap.size ≤ ad.block := by
    rcases hv.2 with ⟨e1, e2⟩ | ⟨g, cap, cur, e1, h1, _, h3, _⟩
    · injection e1 with e3 _ e4
      subst e3; subst e4
      exact ⟨by omega, fun ad h => by cases h⟩
    · injection e1 with e3 _ e4
      subst e3; subst e4
      exact ⟨h3, fun ad h => by cases h; exact h1⟩
  rw [hl] at hc hr ⊢
  exact ⟨A', c', rfl, hc.1, hr, hc.2, hb⟩

/-- What is laid at the end. -/
theorem closg_end {w w3 : World} {N n gC gT : Nat} {K V D M : Value} {bk : Bool} {F T : Nat → Int} (hC : CaptG w N K V D M bk) (hb : Below w.heap.size w w3) (h1 : w.heap.size ≤ gC) (h2 : w.heap.size ≤ gT) (h3 : ArrB w3 gC n F) (h4 : ArrB w3 gT 16 T) :
    ClosG N n F T w (.returned (.tuple #[])) (((w3.setCell ⟨N + 5, 0, none⟩ (.slice (some ⟨gC, 0, none⟩) n n)).setCell ⟨N + 6, 0, none⟩ (.slice (some ⟨gT, 0, none⟩) 16 16)).setCell ⟨N + 7, 0, none⟩ .nilIface) := by
  have ho : Only [N + 5, N + 6, N + 7] w w3 := (Only.of_below hb (Nat.le_refl _)).mono (by simp)
  have h5 : Blk w3 (N + 5) 22 #[.slice none 0 0] := (hb.block _ hC.out.lt).trans hC.out
  have h6 : Blk w3 (N + 6) 22 #[.slice none 0 0] := (hb.block _ hC.tag.lt).trans hC.tag
  have h7 : Blk w3 (N + 7) 36 #[.nilIface] := (hb.block _ hC.err.lt).trans hC.err
  have s7 := hC.err.lt
  have hos : Only [N + 5, N + 6, N + 7] w3 (((w3.setCell ⟨N + 5, 0, none⟩ (.slice (some ⟨gC, 0, none⟩) n n)).setCell ⟨N + 6, 0, none⟩ (.slice (some ⟨gT, 0, none⟩) 16 16)).setCell ⟨N + 7, 0, none⟩ .nilIface) := (((Only.refl _ w3).setCell (p := ⟨N + 5, 0, none⟩) (fun _ => by simp) _).setCell (p := ⟨N + 6, 0, none⟩) (fun _ => by simp) _).setCell (p := ⟨N + 7, 0, none⟩) (fun _ => by simp) _
  refine ⟨rfl, ho.then_ hos (fun x hx _ => hx), ⟨gC, ?_, h1, h3.only hos (by simp; omega)⟩, ⟨gT, ?_, h2, h4.only hos (by simp; omega)⟩, ?_⟩
  · exact ((h5.set_ 0 (.slice (some ⟨gC, 0, none⟩) n n)).far (p := ⟨N + 6, 0, none⟩) (by show N + 5 ≠ N + 6; omega) _).far (p := ⟨N + 7, 0, none⟩) (by show N + 5 ≠ N + 7; omega) _
  · exact ((h6.far (p := ⟨N + 5, 0, none⟩) (by show N + 6 ≠ N + 5; omega) (.slice (some ⟨gC, 0, none⟩) n n)).set_ 0 (.slice (some ⟨gT, 0, none⟩) 16 16)).far (p := ⟨N + 7, 0, none⟩) (by show N + 6 ≠ N + 7; omega) _
  · exact ((h7.far (p := ⟨N + 5, 0, none⟩) (by show N + 7 ≠ N + 5; omega) (.slice (some ⟨gC, 0, none⟩) n n)).far (p := ⟨N + 6, 0, none⟩) (by show N + 7 ≠ N + 6; omega) (.slice (some ⟨gT, 0, none⟩) 16 16)).set_ 0 .nilIface

set_option maxHeartbeats 8000000 in
theorem closg_any (N : Nat) (K : Addr) (ck : Nat) (V : Option Addr) (cv : Nat) (D : Option Addr) (n cd : Nat) (M : Option Addr) (na cm : Nat) (bk : Bool) (kf p : Nat → Int) (vl ml : List Int) (w : World)
    (hC : CaptG w N (.slice (some K) 16 ck) (.slice V 12 cv) (.slice D (16 * n : Nat) cd) (.slice M (16 * na : Nat) cm) bk)
    (hK : Src w K 16 kf) (hKf : Bf kf) (hKl : K.block < w.heap.size) (ht : Tabs w) (h7 : 7 ≤ w.heap.size) (hV : Reads w w.heap.size 1 V 12 (vl.map (Value.int .u8))) (hvb : Byl vl) (h255 : ∀ j, j < 12 → lF vl j ≠ 255)
    (hD : Reads w w.heap.size 1 D (16 * n) ((fst (16 * n) p).map (Value.int .u8))) (hn : n ≤ 31) (hn0 : 0 < n) (hM : Reads w w.heap.size 1 M (16 * na) (ml.map (Value.int .u8))) (hna : na ≤ 31) :
    Calls Tryd.prog 36 #[.pointer (some ⟨N, 0, none⟩), .pointer (some ⟨N + 1, 0, none⟩), .pointer (some ⟨N + 2, 0, none⟩), .pointer (some ⟨N + 3, 0, none⟩), .pointer (some ⟨N + 4, 0, none⟩), .pointer (some ⟨N + 5, 0, none⟩), .pointer (some ⟨N + 6, 0, none⟩), .pointer (some ⟨N + 7, 0, none⟩)] w
      (ClosG N (16 * n) (gcC kf vl p) (gcT kf vl na n (lF ml) (sealedF bk kf vl p)) w) := by
  obtain ⟨c0, c1, c2, c3, c4⟩ := hC.cells
  have c5 := hC.out.cell 0
  have c6 := hC.tag.cell 0
  have c7 := hC.err.cell 0
  simp at c5 c6 c7
  have f5 := hC.out.frozen 0
  have f6 := hC.tag.frozen 0
  have f7 := hC.err.frozen 0
  have s7 := hC.err.lt
  have hvl : vl.length = 12 := by have := hV.1; simpa using this
  have hml : ml.length = 16 * na := by have := hM.1; simpa using this
  have hmf : fst (16 * na) (lF ml) = ml := by rw [← hml]; exact range_map_getD ml
  have HV := Lib.hid hvl
  have HMF := Lib.hid hmf
  clear hvl hml hmf
  go_enter Tryd.func36, Tryd.ntmps36
  go_wp2_with fail
  go_region_held3 (fun w' => w'.cell? ⟨N, 0, none⟩ = some (.slice (some K) 16 ck) ∧ w'.cell? ⟨N + 1, 0, none⟩ = some (.slice V 12 cv) ∧ w'.cell? ⟨N + 2, 0, none⟩ = some (.slice D (16 * n : Nat) cd) ∧ w'.cell? ⟨N + 3, 0, none⟩ = some (.slice M (16 * na : Nat) cm) ∧ w'.cell? ⟨N + 4, 0, none⟩ = some (.bool bk))
    (first | go_keep | exact ⟨(hbx.cell (p := ⟨N, 0, none⟩) (by show N < w.heap.size; omega)).trans c0, (hbx.cell (p := ⟨N + 1, 0, none⟩) (by show N + 1 < w.heap.size; omega)).trans c1, (hbx.cell (p := ⟨N + 2, 0, none⟩) (by show N + 2 < w.heap.size; omega)).trans c2, (hbx.cell (p := ⟨N + 3, 0, none⟩) (by show N + 3 < w.heap.size; omega)).trans c3, (hbx.cell (p := ⟨N + 4, 0, none⟩) (by show N + 4 < w.heap.size; omega)).trans c4⟩)
    (first
      | (go_at_call 37; refine (gcm_any bk K ck gI cI ⟨gD, 0, none⟩ n cD A3 na c3' w.heap.size kf p (lF ml) vl w3 (hK.below hb03 hKl) hKf (Nat.lt_of_lt_of_le hKl hb03.size) (by omega) (ht.of_below hb03 h7) (by have := hb03.size; omega) (by omega) hI3 HV.out hvb h255 hb03.size (hD3.src0 (Nat.le_refl _)) hD3.lt (by show gD ≠ gI; omega) hcD hn hn0 (by rw [HMF.out]; exact hM3) (fun ad h => by have := hA3 ad h; have := hb2.size; omega) hc3 hna).mono ?_; rintro e w4 ⟨gC, gT, rfl, hgC, hgT, haC, haT, ho4⟩; have hbx : Below w.heap.size w w4 := hb03.trans (ho4.to_below (B := w.heap.size) hb03.size (by intro x hx; simp at hx; omega)); have hb04 := hbx; have hgC2 : w.heap.size ≤ gC := Nat.le_trans hb03.size hgC; have hgT2 : w.heap.size ≤ gT := Nat.le_trans hb03.size hgT; have k5 := (hbx.cell (p := ⟨N + 5, 0, none⟩) (by show N + 5 < w.heap.size; omega)).trans c5; have k6 := (hbx.cell (p := ⟨N + 6, 0, none⟩) (by show N + 6 < w.heap.size; omega)).trans c6; have k7 := (hbx.cell (p := ⟨N + 7, 0, none⟩) s7).trans c7; have y5 := (hbx.frozen (p := ⟨N + 5, 0, none⟩) (by show N + 5 < w.heap.size; omega)).trans f5; have y6 := (hbx.frozen (p := ⟨N + 6, 0, none⟩) (by show N + 6 < w.heap.size; omega)).trans f6; have y7 := (hbx.frozen (p := ⟨N + 7, 0, none⟩) s7).trans f7)
      | (go_at_call 21; refine (ownx_any M (16 * na) cm ml w2 ((hM.below hb02).more hb02.size) (by omega)).mono ?_; rintro e w3 ⟨A3, c3', rfl, hc3, hM3, hA3, hb3⟩; have hbx : Below w.heap.size w w3 := hb02.trans (hb3.mono hb02.size); have hb03 := hbx; have hI3 := hI2.below hb3 (Nat.le_refl _); have hD3 := hD2.below hb3 hD2.lt)
      | (go_at_call 21; refine (owna_any D (16 * n) cd p w1 ((hD.below hb01).more hb01.size) (by omega) (by omega)).mono ?_; rintro e w2 ⟨gD, cD, rfl, hcD, hgD, hD2, hb2⟩; have hbx : Below w.heap.size w w2 := hb01.trans (hb2.mono hb01.size); have hb02 := hbx; have hI2 := hI1.below hb2 (Nat.le_refl _))
      | (go_at_call 21; refine (owni_any V cv vl w.drew hV).mono ?_; rintro e w1 ⟨gI, cI, rfl, hgI, hgI2, hI1, hb1⟩; have hbx : Below w.heap.size w w1 := (Below.refl w.heap.size w).drew.trans hb1; have hb01 := hbx; have hgI3 : w.heap.size ≤ gI := hgI))
  go_wp2_with fail
  simp [bodyPost, results, Tryd.results36]
  exact closg_end hC hb04 hgC2 hgT2 haC haT
end Go.Proofs.YtkfagcpboehjjaaDoor
