/-
  The message's hash, the digest, the closures. No condition.
-/
import Derived.Test.YtiegapnfbeemcaaGreatDoorA74
import Derived.Test.YtiegapnfbeemcaaGreatDoorA63
import Derived.Deep.RegionHeld3
import Derived.Deep.DeepCutAuto
namespace Go.Proofs.YtiegapnfbeemcaaGreatDoor
set_option maxRecDepth 100000
open Go.RowKit
open X (WR E0 H0 bsA bsB bsGx bsGy)

theorem so_sum2 (base b : Nat) (v : Value) (t : List Int) (A : Option Addr) (w : World) (hb : base ≤ b) (h : SO w base b v t) (ht : BB t) (hl : t.length ≤ 100000) :
    Calls Tryz.prog 47 #[.pointer (some ⟨b, 0, none⟩), .slice A 0 0] w fun e w' => ∃ g c, e = .returned (.slice (some ⟨g, 0, none⟩) 32 c) ∧ 32 ≤ c ∧ c ≤ maxLen ∧ g < w'.heap.size ∧ (∀ j, j < 32 → w'.cell? ⟨g, 0 + j, none⟩ = some (.int .u8 ((sm3 t).getD j 0))) ∧ Below base w w' ∧
      ∀ k, k < w.heap.size → k ≠ b → k ≠ blk v → w'.heap[k]? = w.heap[k]? := by
  refine (sum_f base b (stOf t) (8 * (t.length : Int)) v (restOf t) A w hb h.1 h.2 (stOf_U t) ht.rest (by omega) (rest_length t)).mono ?_
  rintro e w' ⟨r, he, h1, v', _, _, h3, h4, _⟩
  rw [show (8 : Int) * (t.length : Int) = (t.length : Int) * 8 by omega, sm3_parts] at h1
  obtain ⟨g, cc, e2, q1, q2, q3, q4, q5, _⟩ := h1.form (by rw [sm3_length]; omega)
  rw [sm3_length] at e2 q3 q5
  subst e2
  exact ⟨g, cc, he, q3, q4, q2, fun j hj => by rw [Nat.zero_add]; exact q5 j hj, h3, fun k hk hkb hkv => (h4 k hk hkb hkv).1⟩
theorem bo_any (x : Int) : ∀ y ∈ bo (x % 4294967296), 0 ≤ y ∧ y ≤ 255 := bo_byte (by omega)
theorem sm3_byte (l : List Int) : BB (sm3 l) := by
  have h := u32_absorb (pad l) ((pad l).length / 64) u32_start
  obtain ⟨h0, h1, h2, h3, h4, h5, h6, h7⟩ := h
  intro x hx
  unfold sm3 outBytes at hx
  simp only [List.mem_append] at hx
  rcases hx with ((((((h | h) | h) | h) | h) | h) | h) | h
  · exact bo_byte h0 x h
  · exact bo_byte h1 x h
  · exact bo_byte h2 x h
  · exact bo_byte h3 x h
  · exact bo_byte h4 x h
  · exact bo_byte h5 x h
  · exact bo_byte h6 x h
  · exact bo_byte h7 x h
theorem getD_byte {l : List Int} (h : BB l) (j : Nat) : 0 ≤ l.getD j 0 ∧ l.getD j 0 ≤ 255 := by
  rw [List.getD_eq_getElem?_getD]
  rcases Nat.lt_or_ge j l.length with hj | hj
  · rw [List.getElem?_eq_getElem hj]; exact h _ (List.getElem_mem _)
  · rw [List.getElem?_eq_none hj]; exact ⟨by simp, by simp⟩
set_option maxHeartbeats 1000000 in
theorem mh_any (Az A : Option Addr) (cz n c : Nat) (z m : List Int) (w : World) (hz : Reads w w.heap.size 1 Az 32 (z.map (Value.int .u8))) (hm : Reads w w.heap.size 1 A n (m.map (Value.int .u8))) (hzb : BB z) (hmb : BB m) (hn : n ≤ 300) :
    Calls Tryz.prog 50 #[.slice Az 32 cz, .slice A n c] w fun e w' => ∃ G, e = .returned (.tuple #[.pointer (some ⟨G, 0, none⟩), .nilIface]) ∧ IntO w' w.heap.size G (fun j => (sm3 (z ++ m)).getD j 0) ∧ Below w.heap.size w w' := by
  have lz : z.length = 32 := by simpa using hz.1
  have lm : m.length = n := by simpa using hm.1
  have LL := Lib.hid (And.intro lz lm)
  clear lz lm
  go_enter Tryz.func50, Tryz.ntmps50
  go_wp2_with (first
    | (go_at_call 37; refine (so_new w).mono ?_; rintro e w1 ⟨rfl, v1, hso1, hv1, hB1⟩
       have hz1 : ZM w w1 v1 [] := ⟨hso1, hB1, hso1.1.lt⟩)
    | (have h7 := hz2; go_at_call 39; refine (hz2.write m A n c (src_of (hm.below hz2.below) (Nat.le_refl _) hz2.below.size) hzb2 hmb (by rw [hl2]; omega)).mono ?_; rintro e w3 ⟨rfl, v3, hz3, _, _⟩
       have hl3 : ([] ++ z ++ m).length ≤ 400 := by have := LL.out; rw [List.length_append, hl2]; omega
       have hG3 := Blk.new w3 109 #[.bool false, .slice none 0 0]
       have hz4 := hz3.down ((Below.refl _ _).alloc (Nat.le_refl _) (.cells #[.bool false, .slice none 0 0] 109))
       have hv3 := hz3.so.2.blk_lt
       have hbig3 := hz3.big)
    | (go_at_call 39; refine (hz1.write z Az 32 cz (src_of (hz.below hz1.below) (Nat.le_refl _) hz1.below.size) (fun _ h => by cases h) hzb (by simp)).mono ?_; rintro e w2 ⟨rfl, v2, hz2, _, _⟩
       have hzb2 : BB ([] ++ z) := hzb
       have hl2 : ([] ++ z).length = 32 := LL.out.1)
    | (go_at_call 47; refine (so_sum2 w.heap.size w.heap.size v3 ([] ++ z ++ m) none _ (Nat.le_refl _) hz4.so (hzb2.app hmb) (by omega)).mono ?_; rintro e w5 ⟨g, cc, rfl, hcc, hcm, hgl, hcell, hB5, hk5⟩
       have lcc : (32 : Int) ≤ (cc : Int) := by omega
       have hG5 : Blk w5 w3.heap.size 109 #[.bool false, .slice none 0 0] := (hk5 _ hG3.lt (by omega) (by omega)).trans hG3
       have hlow : w.heap.size ≤ w3.heap.size := by omega)
    | (go_at_call 78; refine (setBytes_any w3.heap.size g 0 cc (fun j => (sm3 ([] ++ z ++ m)).getD j 0) w5 hG5 hgl hcc hcm (fun j _ => getD_byte (sm3_byte _) j) hcell).mono ?_; rintro e w6 ⟨rfl, hI6, hB6⟩))
  refine bodyPost_ret (v := .tuple #[.pointer (some ⟨w3.heap.size, 0, none⟩), .nilIface]) (by simp [results, Tryz.results50, go_sem]) rfl ⟨w3.heap.size, rfl, hI6.lift hlow, (hz4.below.trans hB5).trans (hB6.mono hlow)⟩
end Go.Proofs.YtiegapnfbeemcaaGreatDoor

namespace Go.Proofs.YtiegapnfbeemcaaGreatDoor
set_option maxRecDepth 100000
open Go.RowKit
open X (WR E0 H0 bsA bsB bsGx bsGy)

def idAll (n : Nat) (p bx bY : List Int) : List Int := idHead n ++ p ++ bsA ++ bsB ++ bsGx ++ bsGy ++ bx ++ bY
/-- What the digest hands out: the last bytes of the hash, without the zeros ahead. -/
def Tail32 (w : World) (h : Nat) (E : List Int) (v : Value) : Prop := ∃ (A : Option Addr) (L c : Nat), v = .slice A L c ∧ L ≤ 32 ∧ (∀ j, j < 32 - L → E.getD j 0 = 0) ∧ Reads w w.heap.size 1 A L (((List.range L).map fun i => E.getD (32 - L + i) 0).map (Value.int .u8)) ∧ (∀ ad, A = some ad → h ≤ ad.block) ∧ L ≤ c ∧ c ≤ maxLen

set_option maxHeartbeats 1000000 in
theorem dig_any (eb P G1 G2 : Nat) (I : Value) (bx bY : List Int) (A Am : Option Addr) (n c nm cm : Nat) (p m : List Int) (w : World) (hW : WR (E0 eb) H0 w)
    (hP : Blk w P 81 #[I, .pointer (some ⟨G1, 0, none⟩), .pointer (some ⟨G2, 0, none⟩)]) (hI1 : IntO w 0 G1 (fun j => bx.getD j 0)) (hI2 : IntO w 0 G2 (fun j => bY.getD j 0)) (hx : BB bx) (hy : BB bY) (hlx : bx.length = 32) (hly : bY.length = 32)
    (hr : Reads w w.heap.size 1 A n (p.map (Value.int .u8))) (hp : BB p) (hn0 : 0 < n) (hn : n < 8192) (hrm : Reads w w.heap.size 1 Am nm (m.map (Value.int .u8))) (hm : BB m) (hnm : nm ≤ 300) :
    Calls Tryz.prog 28 #[.pointer (some ⟨P, 0, none⟩), .slice Am nm cm, .slice A n c] w fun e w' => ∃ v, e = .returned (.tuple #[v, .nilIface]) ∧ Tail32 w' w.heap.size (sm3 (sm3 (idAll n p bx bY) ++ m)) v ∧ Below w.heap.size w w' := by
  have hza := za_any eb P G1 G2 I bx bY A n c p w hW hP hI1 hI2 hx hy hlx hly hr hp hn0 hn
  have l1 : ¬ ((n : Int) = 0) := by omega
  have l2 : ((n : Int) == 0) = false := by simpa using l1
  go_enter Tryz.func28, Tryz.ntmps28
  go_wp2_with (first
    | (go_at_call 24; refine hza.mono ?_; rintro e w1 ⟨g, cz, rfl, ho, hB1⟩
       have hrz := ho.reads.2
       rw [sm3_length] at hrz
       have hk := mh_any (some ⟨g, 0, none⟩) Am cz nm cm (sm3 (idAll n p bx bY)) m w1 hrz ((hrm.below hB1).more hB1.size) (sm3_byte _) hm hnm)
    | (go_at_call 50; refine hk.mono ?_; rintro e w2 ⟨G, rfl, hI, hB2⟩
       have hk2 := bytes_any w1.heap.size G _ w2 hI (fun j _ => getD_byte (sm3_byte _) j)
       have hs1 := hB1.size
       have hs2 := hB2.size)
    | (go_at_call 42; refine hk2.mono ?_; rintro e w3 ⟨A3, L3, c3, rfl, hL, hz, hLc, hcm, hrd, hlo, hB3⟩))
  refine bodyPost_ret (v := .tuple #[.slice A3 L3 c3, .nilIface]) (by simp [results, Tryz.results28, go_sem]) rfl ⟨_, rfl, ⟨A3, L3, c3, rfl, hL, hz, hrd, fun ad h => by have := hlo ad h; omega, hLc, hcm⟩, (hB1.trans (hB2.mono hs1)).trans (hB3.mono (by omega))⟩
end Go.Proofs.YtiegapnfbeemcaaGreatDoor

namespace Go.Proofs.YtiegapnfbeemcaaGreatDoor
set_option maxRecDepth 100000
open Go.RowKit
open X (WR E0 H0 bsA bsB bsGx bsGy)

/-- Below a height all blocks but two are as they were. -/
structure But (w : World) (B3 B4 : Nat) (W : World) : Prop where
  os : W.os = w.os
  tape : W.tape = w.tape
  output : W.output = w.output
  size : w.heap.size ≤ W.heap.size
  block : ∀ k, k < w.heap.size → k ≠ B3 → k ≠ B4 → W.heap[k]? = w.heap[k]?
theorem But.cell {w W : World} {B3 B4 k : Nat} {t : TypeId} {v : Value} (h : But w B3 B4 W) (hb : Blk w k t #[v]) (h3 : k ≠ B3) (h4 : k ≠ B4) : W.cell? ⟨k, 0, none⟩ = some v :=
  ((show Blk W k t #[v] from (h.block k hb.lt h3 h4).trans hb).cell 0)
theorem But.of_below {w W : World} {B3 B4 : Nat} (h : Below w.heap.size w W) : But w B3 B4 W := ⟨h.os, h.tape, h.output, h.size, fun k hk _ _ => h.block k hk⟩
theorem But.set3 {w W : World} {B3 B4 : Nat} (h : But w B3 B4 W) (v : Value) : But w B3 B4 (W.setCell ⟨B3, 0, none⟩ v) :=
  ⟨h.os, h.tape, h.output, by simpa [World.setCell] using h.size, fun k hk h3 h4 => (Below.heap_setCell W ⟨B3, 0, none⟩ v k h3).trans (h.block k hk h3 h4)⟩
theorem But.set4 {w W : World} {B3 B4 : Nat} (h : But w B3 B4 W) (v : Value) : But w B3 B4 (W.setCell ⟨B4, 0, none⟩ v) :=
  ⟨h.os, h.tape, h.output, by simpa [World.setCell] using h.size, fun k hk h3 h4 => (Below.heap_setCell W ⟨B4, 0, none⟩ v k h4).trans (h.block k hk h3 h4)⟩
/-- A slice of 32 bytes. -/
structure In32 (w : World) (g o c : Nat) (bx : List Int) : Prop where
  lt : g < w.heap.size
  len : bx.length = 32
  cap : 32 ≤ c
  max : c ≤ maxLen
  byte : BB bx
  cell : ∀ j, j < 32 → w.cell? ⟨g, o + j, none⟩ = some (.int .u8 (bx.getD j 0))
theorem In32.below {w w' : World} {g o c : Nat} {bx : List Int} (h : In32 w g o c bx) (hB : Below w.heap.size w w') : In32 w' g o c bx :=
  ⟨Nat.lt_of_lt_of_le h.lt hB.size, h.len, h.cap, h.max, h.byte, fun j hj => (hB.cell (p := ⟨g, o + j, none⟩) h.lt).trans (h.cell j hj)⟩
theorem public_in (eb gx ox cx gy oy cy : Nat) (bx bY : List Int) (w : World) (hW : WR (E0 eb) H0 w) (hx : In32 w gx ox cx bx) (hy : In32 w gy oy cy bY) :
    Calls Tryz.prog 25 #[.slice (some ⟨gx, ox, none⟩) 32 cx, .slice (some ⟨gy, oy, none⟩) 32 cy] w fun e w' => ∃ (P G1 G2 : Nat) (I : Value), e = .returned (.pointer (some ⟨P, 0, none⟩)) ∧
      Blk w' P 81 #[I, .pointer (some ⟨G1, 0, none⟩), .pointer (some ⟨G2, 0, none⟩)] ∧ IntO w' 0 G1 (fun j => bx.getD j 0) ∧ IntO w' 0 G2 (fun j => bY.getD j 0) ∧ Below w.heap.size w w' :=
  (public_any eb gx ox cx gy oy cy (fun j => bx.getD j 0) (fun j => bY.getD j 0) w hW hx.lt hx.cap hx.max (fun j _ => getD_byte hx.byte j) hx.cell hy.lt hy.cap hy.max (fun j _ => getD_byte hy.byte j) hy.cell).mono fun _ _ ⟨P, G1, G2, I, h1, h2, h3, h4, h5⟩ =>
    ⟨P, G1, G2, I, h1, h2, h3.lift (Nat.zero_le _), h4.lift (Nat.zero_le _), h5⟩

set_option maxHeartbeats 1000000 in
theorem clo_id (eb gx ox cx gy oy cy B0 B1 B2 B3 B4 : Nat) (bx bY : List Int) (A : Option Addr) (n c : Nat) (p : List Int) (w : World) (hW : WR (E0 eb) H0 w) (hx : In32 w gx ox cx bx) (hy : In32 w gy oy cy bY)
    (hr : Reads w w.heap.size 1 A n (p.map (Value.int .u8))) (hp : BB p) (hn0 : 0 < n) (hn : n < 8192)
    (h0 : Blk w B0 22 #[.slice (some ⟨gx, ox, none⟩) 32 cx]) (h1 : Blk w B1 22 #[.slice (some ⟨gy, oy, none⟩) 32 cy]) (h2 : Blk w B2 22 #[.slice A n c]) (h3 : Blk w B3 22 #[.slice none 0 0]) (h4 : Blk w B4 51 #[.nilIface])
    (d03 : B0 ≠ B3) (d04 : B0 ≠ B4) (d13 : B1 ≠ B3) (d14 : B1 ≠ B4) (d23 : B2 ≠ B3) (d24 : B2 ≠ B4) (d34 : B3 ≠ B4) :
    Calls Tryz.prog 23 #[.pointer (some ⟨B0, 0, none⟩), .pointer (some ⟨B1, 0, none⟩), .pointer (some ⟨B2, 0, none⟩), .pointer (some ⟨B3, 0, none⟩), .pointer (some ⟨B4, 0, none⟩)] w fun e w' =>
      e = .returned (.tuple #[]) ∧ ∃ g c', Blk w' B3 22 #[.slice (some ⟨g, 0, none⟩) 32 c'] ∧ Blk w' B4 51 #[.nilIface] ∧ OwnB w' w.heap.size (.slice (some ⟨g, 0, none⟩) 32 c') (sm3 (idAll n p bx bY)) ∧ But w B3 B4 w' := by
  go_enter Tryz.func23, Tryz.ntmps23
  go_wp2_with fail
  have hd : Below w.heap.size w w.drew := ⟨rfl, rfl, rfl, Nat.le_refl _, fun _ _ => rfl⟩
  have hS : But w B3 B4 w.drew := .of_below hd
  refine Code.wp_mono NoPanic.imp ?_
  refine wp_region_held (S := fun W : World => But w B3 B4 W) (by kernel_rfl) ?_
  refine wpAnyH_take (i := 0) (v := .slice (some ⟨gx, ox, none⟩) 32 cx) rfl (by kernel_rfl) (by kernel_rfl) (by kernel_rfl) (fun _ _ _ h => h) (.inl ⟨rfl, fun W h => by have := h.cell h0 d03 d04; simp [execOp, Act.eval, go_sem, this]⟩) hS ?_
  refine wpAnyH_take (i := 1) (v := .slice (some ⟨gy, oy, none⟩) 32 cy) rfl (by kernel_rfl) (by kernel_rfl) (by kernel_rfl) (fun _ _ _ h => h) (.inl ⟨rfl, fun W h => by have := h.cell h1 d13 d14; simp [execOp, Act.eval, Act.put, go_sem, this]⟩) hS ?_
  refine wpAnyH_take (i := 3) (v := .slice A n c) rfl (by kernel_rfl) (by kernel_rfl) (by kernel_rfl) (fun _ _ _ h => h) (.inl ⟨rfl, fun W h => by have := h.cell h2 d23 d24; simp [execOp, Act.eval, Act.put, go_sem, this]⟩) hS ?_
  refine wpAnyH_ready (rs := [2]) (by kernel_rfl) (by simp) (AllReadyH.cons rfl (fun K1 hK1 => ?_) AllReadyH.nil)
  rw [if_pos (by rfl)]
  go_wp2_with (go_at_call 25; refine (public_in eb gx ox cx gy oy cy bx bY w.drew (hW.below hd) (hx.below hd) (hy.below hd)).mono ?_; rintro r w1 ⟨P, G1, G2, I, rfl, hP, hI1, hI2, hB1⟩)
  have hB1' : Below w.heap.size w w1 := hd.trans hB1
  refine hK1.out _ _ (.of_below hB1') (fun _ => ?_)
  refine wpAnyH_ready (rs := [4]) (by kernel_rfl) (by simp) (AllReadyH.cons rfl (fun K2 hK2 => ?_) AllReadyH.nil)
  rw [if_pos (by rfl)]
  go_wp2_with (go_at_call 24; refine (za_any eb P G1 G2 I bx bY A n c p w1 (hW.below hB1') hP hI1 hI2 hx.byte hy.byte hx.len hy.len ((hr.below hB1').more hB1'.size) hp hn0 hn).mono ?_; rintro r w2 ⟨g, c', rfl, ho, hB2⟩)
  have hB2' : Below w.heap.size w w2 := hB1'.trans (hB2.mono hB1'.size)
  replace hS : But w B3 B4 w2 := .of_below hB2'
  refine hK2.out _ _ hS (fun _ => ?_)
  refine wpAnyH_take (i := 5) (v := .tuple #[.slice (some ⟨g, 0, none⟩) 32 c', .nilIface]) rfl (by kernel_rfl) (by kernel_rfl) (by kernel_rfl) (fun _ _ _ h => h) (.inl ⟨rfl, fun W _ => rfl⟩) hS ?_
  refine wpAnyH_take (i := 6) (v := .slice (some ⟨g, 0, none⟩) 32 c') rfl (by kernel_rfl) (by kernel_rfl) (by kernel_rfl) (fun _ _ _ h => h) (.inl ⟨rfl, fun W _ => rfl⟩) hS ?_
  refine wpAnyH_take (i := 7) (v := .nilIface) rfl (by kernel_rfl) (by kernel_rfl) (by kernel_rfl) (fun _ _ _ h => h) (.inl ⟨rfl, fun W _ => rfl⟩) hS ?_
  have b3 : Blk w2 B3 22 #[.slice none 0 0] := h3.below hB2' h3.lt
  have b4 : Blk w2 B4 51 #[.nilIface] := h4.below hB2' h4.lt
  have c3 := b3.cell 0
  have z3 := b3.frozen 0
  simp at c3
  refine wpAnyH_ready (rs := [8]) (by kernel_rfl) (by simp) (AllReadyH.cons rfl (fun K3 hK3 => ?_) AllReadyH.nil)
  rw [if_pos (by rfl)]
  go_simp
  refine hK3.out _ _ (hS.set3 _) (fun _ => ?_)
  have b3' : Blk (w2.setCell ⟨B3, 0, none⟩ (.slice (some ⟨g, 0, none⟩) 32 c')) B3 22 #[.slice (some ⟨g, 0, none⟩) 32 c'] := by
    have := b3.set_ 0 (.slice (some ⟨g, 0, none⟩) 32 c')
    simpa using this
  have b4' : Blk (w2.setCell ⟨B3, 0, none⟩ (.slice (some ⟨g, 0, none⟩) 32 c')) B4 51 #[.nilIface] := b4.far (p := ⟨B3, 0, none⟩) (Ne.symm d34) _
  have c4 := b4'.cell 0
  have z4 := b4'.frozen 0
  simp at c4
  refine wpAnyH_ready (rs := [9]) (by kernel_rfl) (by simp) (AllReadyH.cons rfl (fun K4 hK4 => ?_) AllReadyH.nil)
  rw [if_pos (by rfl)]
  go_simp
  refine hK4.out _ _ ((hS.set3 _).set4 _) (fun _ => ?_)
  refine wpAnyH_done (by kernel_rfl) ?_ _
  refine NoPanic.normal ?_
  go_end0
  obtain ⟨g', cc, e, q1, _⟩ := ho.form (by rw [sm3_length]; omega)
  obtain rfl : g = g' := by injection e with e _ _; injection e with e; injection e
  have hgb : w.heap.size ≤ g := Nat.le_trans hB1'.size q1
  have n3 : g ≠ B3 := by have := h3.lt; omega
  have n4 : g ≠ B4 := by have := h4.lt; omega
  refine ⟨rfl, g, c', b3'.far (p := ⟨B4, 0, none⟩) d34 _, ?_, (ho.keep ((Below.heap_setCell _ ⟨B4, 0, none⟩ _ g n4).trans (Below.heap_setCell _ ⟨B3, 0, none⟩ _ g n3))).lift hB1'.size, (hS.set3 _).set4 _⟩
  have := b4'.set_ 0 .nilIface
  simpa using this
theorem Tail32.keep {w w' : World} {h : Nat} {E : List Int} {v : Value} (hb : Tail32 w h E v) (hs : w.heap.size ≤ w'.heap.size) (hk : ∀ k, h ≤ k → k < w.heap.size → w'.heap[k]? = w.heap[k]?) : Tail32 w' h E v := by
  obtain ⟨A, L, c, e, h1, h2, h3, h4, h5⟩ := hb
  refine ⟨A, L, c, e, h1, h2, ⟨h3.1, fun hp => ?_⟩, h4, h5⟩
  obtain ⟨ad, e', hlt, hc⟩ := h3.2 hp
  exact ⟨ad, e', by omega, fun j u hj => by
    rw [← hc j u hj]
    unfold World.cell?
    rw [block_of_add, hk _ (h4 ad e') hlt]⟩
set_option maxHeartbeats 1000000 in
theorem clo_dig (eb gx ox cx gy oy cy B0 B1 B2 B3 B4 Bm : Nat) (bx bY : List Int) (A Am : Option Addr) (n c nm cm : Nat) (p m : List Int) (w : World) (hW : WR (E0 eb) H0 w) (hx : In32 w gx ox cx bx) (hy : In32 w gy oy cy bY)
    (hr : Reads w w.heap.size 1 A n (p.map (Value.int .u8))) (hp : BB p) (hn0 : 0 < n) (hn : n < 8192) (hrm : Reads w w.heap.size 1 Am nm (m.map (Value.int .u8))) (hm : BB m) (hnm : nm ≤ 300)
    (h0 : Blk w B0 22 #[.slice (some ⟨gx, ox, none⟩) 32 cx]) (h1 : Blk w B1 22 #[.slice (some ⟨gy, oy, none⟩) 32 cy]) (hbm : Blk w Bm 22 #[.slice Am nm cm]) (h2 : Blk w B2 22 #[.slice A n c]) (h3 : Blk w B3 22 #[.slice none 0 0]) (h4 : Blk w B4 51 #[.nilIface])
    (d03 : B0 ≠ B3) (d04 : B0 ≠ B4) (d13 : B1 ≠ B3) (d14 : B1 ≠ B4) (dm3 : Bm ≠ B3) (dm4 : Bm ≠ B4) (d23 : B2 ≠ B3) (d24 : B2 ≠ B4) (d34 : B3 ≠ B4) :
    Calls Tryz.prog 27 #[.pointer (some ⟨B0, 0, none⟩), .pointer (some ⟨B1, 0, none⟩), .pointer (some ⟨Bm, 0, none⟩), .pointer (some ⟨B2, 0, none⟩), .pointer (some ⟨B3, 0, none⟩), .pointer (some ⟨B4, 0, none⟩)] w fun e w' =>
      e = .returned (.tuple #[]) ∧ ∃ v, Blk w' B3 22 #[v] ∧ Blk w' B4 51 #[.nilIface] ∧ Tail32 w' w.heap.size (sm3 (sm3 (idAll n p bx bY) ++ m)) v ∧ But w B3 B4 w' := by
  go_enter Tryz.func27, Tryz.ntmps27
  go_wp2_with fail
  have hd : Below w.heap.size w w.drew := ⟨rfl, rfl, rfl, Nat.le_refl _, fun _ _ => rfl⟩
  have hS : But w B3 B4 w.drew := .of_below hd
  refine Code.wp_mono NoPanic.imp ?_
  refine wp_region_held (S := fun W : World => But w B3 B4 W) (by kernel_rfl) ?_
  refine wpAnyH_take (i := 0) (v := .slice (some ⟨gx, ox, none⟩) 32 cx) rfl (by kernel_rfl) (by kernel_rfl) (by kernel_rfl) (fun _ _ _ h => h) (.inl ⟨rfl, fun W h => by have := h.cell h0 d03 d04; simp [execOp, Act.eval, go_sem, this]⟩) hS ?_
  refine wpAnyH_take (i := 1) (v := .slice (some ⟨gy, oy, none⟩) 32 cy) rfl (by kernel_rfl) (by kernel_rfl) (by kernel_rfl) (fun _ _ _ h => h) (.inl ⟨rfl, fun W h => by have := h.cell h1 d13 d14; simp [execOp, Act.eval, Act.put, go_sem, this]⟩) hS ?_
  refine wpAnyH_take (i := 3) (v := .slice Am nm cm) rfl (by kernel_rfl) (by kernel_rfl) (by kernel_rfl) (fun _ _ _ h => h) (.inl ⟨rfl, fun W h => by have := h.cell hbm dm3 dm4; simp [execOp, Act.eval, Act.put, go_sem, this]⟩) hS ?_
  refine wpAnyH_take (i := 4) (v := .slice A n c) rfl (by kernel_rfl) (by kernel_rfl) (by kernel_rfl) (fun _ _ _ h => h) (.inl ⟨rfl, fun W h => by have := h.cell h2 d23 d24; simp [execOp, Act.eval, Act.put, go_sem, this]⟩) hS ?_
  refine wpAnyH_ready (rs := [2]) (by kernel_rfl) (by simp) (AllReadyH.cons rfl (fun K1 hK1 => ?_) AllReadyH.nil)
  rw [if_pos (by rfl)]
  go_wp2_with (go_at_call 25; refine (public_in eb gx ox cx gy oy cy bx bY w.drew (hW.below hd) (hx.below hd) (hy.below hd)).mono ?_; rintro r w1 ⟨P, G1, G2, I, rfl, hP, hI1, hI2, hB1⟩)
  have hB1' : Below w.heap.size w w1 := hd.trans hB1
  refine hK1.out _ _ (.of_below hB1') (fun _ => ?_)
  refine wpAnyH_ready (rs := [5]) (by kernel_rfl) (by simp) (AllReadyH.cons rfl (fun K2 hK2 => ?_) AllReadyH.nil)
  rw [if_pos (by rfl)]
  go_wp2_with (go_at_call 28; refine (dig_any eb P G1 G2 I bx bY A Am n c nm cm p m w1 (hW.below hB1') hP hI1 hI2 hx.byte hy.byte hx.len hy.len ((hr.below hB1').more hB1'.size) hp hn0 hn ((hrm.below hB1').more hB1'.size) hm hnm).mono ?_; rintro r w2 ⟨v, rfl, ho, hB2⟩; obtain ⟨A3, L3, cv, e3, ho3⟩ := id ho; subst e3)
  have hB2' : Below w.heap.size w w2 := hB1'.trans (hB2.mono hB1'.size)
  replace hS : But w B3 B4 w2 := .of_below hB2'
  refine hK2.out _ _ hS (fun _ => ?_)
  refine wpAnyH_take (i := 6) (v := .tuple #[.slice A3 L3 cv, .nilIface]) rfl (by kernel_rfl) (by kernel_rfl) (by kernel_rfl) (fun _ _ _ h => h) (.inl ⟨rfl, fun W _ => rfl⟩) hS ?_
  refine wpAnyH_take (i := 7) (v := .slice A3 L3 cv) rfl (by kernel_rfl) (by kernel_rfl) (by kernel_rfl) (fun _ _ _ h => h) (.inl ⟨rfl, fun W _ => rfl⟩) hS ?_
  refine wpAnyH_take (i := 8) (v := .nilIface) rfl (by kernel_rfl) (by kernel_rfl) (by kernel_rfl) (fun _ _ _ h => h) (.inl ⟨rfl, fun W _ => rfl⟩) hS ?_
  have b3 : Blk w2 B3 22 #[.slice none 0 0] := h3.below hB2' h3.lt
  have b4 : Blk w2 B4 51 #[.nilIface] := h4.below hB2' h4.lt
  have c3 := b3.cell 0
  have z3 := b3.frozen 0
  simp at c3
  refine wpAnyH_ready (rs := [9]) (by kernel_rfl) (by simp) (AllReadyH.cons rfl (fun K3 hK3 => ?_) AllReadyH.nil)
  rw [if_pos (by rfl)]
  go_simp
  refine hK3.out _ _ (hS.set3 _) (fun _ => ?_)
  have b3' : Blk (w2.setCell ⟨B3, 0, none⟩ (.slice A3 L3 cv)) B3 22 #[.slice A3 L3 cv] := by
    have := b3.set_ 0 (.slice A3 L3 cv)
    simpa using this
  have b4' : Blk (w2.setCell ⟨B3, 0, none⟩ (.slice A3 L3 cv)) B4 51 #[.nilIface] := b4.far (p := ⟨B3, 0, none⟩) (Ne.symm d34) _
  have c4 := b4'.cell 0
  have z4 := b4'.frozen 0
  simp at c4
  refine wpAnyH_ready (rs := [10]) (by kernel_rfl) (by simp) (AllReadyH.cons rfl (fun K4 hK4 => ?_) AllReadyH.nil)
  rw [if_pos (by rfl)]
  go_simp
  refine hK4.out _ _ ((hS.set3 _).set4 _) (fun _ => ?_)
  refine wpAnyH_done (by kernel_rfl) ?_ _
  refine NoPanic.normal ?_
  go_end0
  have l3 := h3.lt
  have l4 := h4.lt
  have hs1 := hB1'.size
  refine ⟨rfl, _, b3'.far (p := ⟨B4, 0, none⟩) d34 _, ?_, ?_, (hS.set3 _).set4 _⟩
  · have := b4'.set_ 0 .nilIface
    simpa using this
  · obtain ⟨A4, L4, c4, e4, q1, q2, q3, q4, q5⟩ := ho.keep (w' := (w2.setCell ⟨B3, 0, none⟩ (.slice A3 L3 cv)).setCell ⟨B4, 0, none⟩ .nilIface) (by simp [World.setCell]) fun k hk _ => (Below.heap_setCell _ ⟨B4, 0, none⟩ _ k (by show k ≠ B4; omega)).trans (Below.heap_setCell _ ⟨B3, 0, none⟩ _ k (by show k ≠ B3; omega))
    exact ⟨A4, L4, c4, e4, q1, q2, q3, fun ad h => Nat.le_trans hs1 (q4 ad h), q5⟩
end Go.Proofs.YtiegapnfbeemcaaGreatDoor

namespace Go.Proofs.YtiegapnfbeemcaaGreatDoor
set_option maxRecDepth 100000
open Go.RowKit
open X (WR E0 H0 bsA bsB bsGx bsGy)

theorem new_blk (w : World) (k : Nat) (hk : k = w.heap.size) (cs : Array Value) (t : TypeId) : Blk (w.alloc (.cells cs t)) k t cs := by subst hk; exact Blk.new w t cs
theorem below_alloc {w W : World} (h : Below w.heap.size w W) (o : Obj) : Below w.heap.size w (W.alloc o) := h.alloc h.size o
set_option maxHeartbeats 1000000 in
theorem ido_any (eb gx ox cx gy oy cy : Nat) (bx bY : List Int) (A : Option Addr) (n c : Nat) (p : List Int) (w : World) (hW : WR (E0 eb) H0 w) (hx : In32 w gx ox cx bx) (hy : In32 w gy oy cy bY)
    (hr : Reads w w.heap.size 1 A n (p.map (Value.int .u8))) (hp : BB p) (hn0 : 0 < n) (hn : n < 8192) :
    Calls Tryz.prog 9 #[.slice (some ⟨gx, ox, none⟩) 32 cx, .slice (some ⟨gy, oy, none⟩) 32 cy, .slice A n c] w fun e w' => ∃ g c', e = .returned (.tuple #[.slice (some ⟨g, 0, none⟩) 32 c', .bool true]) ∧
      OwnB w' w.heap.size (.slice (some ⟨g, 0, none⟩) 32 c') (sm3 (idAll n p bx bY)) ∧ Below w.heap.size w w' := by
  have hmf : ∀ (fn : Fn) (first cap : Array Value) (w : World), (Instr.makeFunc fn first cap).run Tryz.prog w = .ok (.func fn first cap) w := fun _ _ _ _ => rfl
  obtain ⟨WB, hWB⟩ : ∃ W, W = ((((w.alloc (.cells #[.slice (some ⟨gx, ox, none⟩) 32 cx] 22)).alloc (.cells #[.slice (some ⟨gy, oy, none⟩) 32 cy] 22)).alloc (.cells #[.slice A n c] 22)).alloc (.cells #[.slice none 0 0] 22)).alloc (.cells #[.nilIface] 51) := ⟨_, rfl⟩
  have hsz : WB.heap.size = w.heap.size + 1 + 1 + 1 + 1 + 1 := by rw [hWB]; simp
  have hB0 : Below w.heap.size w WB := by rw [hWB]; exact below_alloc (below_alloc (below_alloc (below_alloc (below_alloc (Below.refl _ _) _) _) _) _) _
  have b0 : Blk WB w.heap.size 22 #[.slice (some ⟨gx, ox, none⟩) 32 cx] := by rw [hWB]; exact ((((new_blk w _ rfl _ 22).alloc _).alloc _).alloc _).alloc _
  have b1 : Blk WB (w.heap.size + 1) 22 #[.slice (some ⟨gy, oy, none⟩) 32 cy] := by rw [hWB]; exact (((new_blk _ _ (by simp) _ 22).alloc _).alloc _).alloc _
  have b2 : Blk WB (w.heap.size + 1 + 1) 22 #[.slice A n c] := by rw [hWB]; exact ((new_blk _ _ (by simp) _ 22).alloc _).alloc _
  have b3 : Blk WB (w.heap.size + 1 + 1 + 1) 22 #[.slice none 0 0] := by rw [hWB]; exact (new_blk _ _ (by simp) _ 22).alloc _
  have b4 : Blk WB (w.heap.size + 1 + 1 + 1 + 1) 51 #[.nilIface] := by rw [hWB]; exact new_blk _ _ (by simp) _ 51
  have hBC : Below w.heap.size w (WB.alloc (.cells #[.bool false] 4)) := below_alloc hB0 _
  have hflag : Blk (WB.alloc (.cells #[.bool false] 4)) WB.heap.size 4 #[.bool false] := Blk.new WB 4 _
  have hclo := clo_id eb gx ox cx gy oy cy w.heap.size (w.heap.size + 1) (w.heap.size + 1 + 1) (w.heap.size + 1 + 1 + 1) (w.heap.size + 1 + 1 + 1 + 1) bx bY A n c p (WB.alloc (.cells #[.bool false] 4)) (hW.below hBC) (hx.below hBC) (hy.below hBC) ((hr.below hBC).more hBC.size) hp hn0 hn (b0.alloc _) (b1.alloc _) (b2.alloc _) (b3.alloc _) (b4.alloc _) (by omega) (by omega) (by omega) (by omega) (by omega) (by omega) (by omega)
  have hcalm := calm_any 23 #[.pointer (some ⟨w.heap.size, 0, none⟩), .pointer (some ⟨w.heap.size + 1, 0, none⟩), .pointer (some ⟨w.heap.size + 1 + 1, 0, none⟩), .pointer (some ⟨w.heap.size + 1 + 1 + 1, 0, none⟩), .pointer (some ⟨w.heap.size + 1 + 1 + 1 + 1, 0, none⟩)]
    (fun w' => ∃ g c', Blk w' (w.heap.size + 1 + 1 + 1) 22 #[.slice (some ⟨g, 0, none⟩) 32 c'] ∧ Blk w' (w.heap.size + 1 + 1 + 1 + 1) 51 #[.nilIface] ∧ OwnB w' (WB.alloc (.cells #[.bool false] 4)).heap.size (.slice (some ⟨g, 0, none⟩) 32 c') (sm3 (idAll n p bx bY)) ∧ But (WB.alloc (.cells #[.bool false] 4)) (w.heap.size + 1 + 1 + 1) (w.heap.size + 1 + 1 + 1 + 1) w') WB
    (fun w => by kernel_rfl) (hclo.mono fun e w' ⟨he, g, c', h1, h2, h3, h4⟩ => ⟨he, (h4.block _ hflag.lt (by omega) (by omega)).trans hflag, g, c', h1, h2, h3, h4⟩)
  go_enter Tryz.func9, Tryz.ntmps9
  have HWB := Lib.hid hWB
  clear hWB
  go_upto_region 2 with (fail)
  rw [← HWB.out]
  go_wp2_with (go_at_call 22; refine hcalm.mono ?_; rintro e w'' ⟨rfl, w', ⟨g, c', h3, h4, ho, hBut⟩, rfl⟩
               have k3 := h3.far (p := ⟨WB.heap.size, 0, none⟩) (by show w.heap.size + 1 + 1 + 1 ≠ WB.heap.size; omega) (.bool true)
               have k4 := h4.far (p := ⟨WB.heap.size, 0, none⟩) (by show w.heap.size + 1 + 1 + 1 + 1 ≠ WB.heap.size; omega) (.bool true)
               obtain ⟨w2, hw2⟩ : ∃ W, W = w'.setCell ⟨WB.heap.size, 0, none⟩ (.bool true) := ⟨_, rfl⟩
               rw [← hw2] at k3 k4 ⊢
               have H2 := Lib.hid hw2
               clear hw2
               have c3 := k3.cell 0
               have c4 := k4.cell 0
               have z3 := k3.frozen 0
               have d3 := (k3.set_ 0 (.slice (some ⟨g, 0, none⟩) 32 c')).cell 0
               simp at c3 c4 d3)
  have hw2 := H2.out
  have hlow : ∀ k, k < w.heap.size → w2.heap[k]? = w.heap[k]? := fun k hk => by
    rw [hw2]
    exact ((Below.heap_setCell w' ⟨WB.heap.size, 0, none⟩ (.bool true) k (by show k ≠ WB.heap.size; omega)).trans (hBut.block k (by rw [World.size_alloc]; omega) (by omega) (by omega))).trans (hBC.block k hk)
  have hlow2 : Below w.heap.size w w2 := ⟨by rw [hw2]; exact hBut.os.trans hBC.os, by rw [hw2]; exact hBut.tape.trans hBC.tape, by rw [hw2]; exact hBut.output.trans hBC.output, by rw [hw2]; have := hBut.size; have := hBC.size; simp [World.setCell]; omega, hlow⟩
  obtain ⟨g', cc, e', q1, q2, _⟩ := ho.form (by rw [sm3_length]; omega)
  obtain rfl : g = g' := by injection e' with e' _ _; injection e' with e'; injection e'
  rw [World.size_alloc] at q1
  have ho2 : OwnB w2 w.heap.size (.slice (some ⟨g, 0, none⟩) 32 c') (sm3 (idAll n p bx bY)) := by
    have := ho.keep (w' := w2) (by rw [hw2]; exact Below.heap_setCell w' ⟨WB.heap.size, 0, none⟩ (.bool true) g (by show g ≠ WB.heap.size; omega))
    exact this.lift (by rw [World.size_alloc]; omega)
  refine bodyPost_ret (v := .tuple #[.slice (some ⟨g, 0, none⟩) 32 c', .bool true]) (by simp [results, Tryz.results9, go_sem, d3]) rfl ⟨g, c', rfl, ho2.keep (Below.heap_setCell w2 ⟨w.heap.size + 1 + 1 + 1, 0, none⟩ _ g (by show g ≠ w.heap.size + 1 + 1 + 1; omega)), hlow2.setCell (p := ⟨w.heap.size + 1 + 1 + 1, 0, none⟩) (by show w.heap.size ≤ w.heap.size + 1 + 1 + 1; omega) _⟩
set_option maxHeartbeats 1000000 in
theorem dgo_any (eb gx ox cx gy oy cy : Nat) (bx bY : List Int) (A Am : Option Addr) (n c nm cm : Nat) (p m : List Int) (w : World) (hW : WR (E0 eb) H0 w) (hx : In32 w gx ox cx bx) (hy : In32 w gy oy cy bY)
    (hr : Reads w w.heap.size 1 A n (p.map (Value.int .u8))) (hp : BB p) (hn0 : 0 < n) (hn : n < 8192) (hrm : Reads w w.heap.size 1 Am nm (m.map (Value.int .u8))) (hm : BB m) (hnm : nm ≤ 300) :
    Calls Tryz.prog 11 #[.slice (some ⟨gx, ox, none⟩) 32 cx, .slice (some ⟨gy, oy, none⟩) 32 cy, .slice Am nm cm, .slice A n c] w fun e w' => ∃ v, e = .returned (.tuple #[v, .bool true]) ∧ Tail32 w' w.heap.size (sm3 (sm3 (idAll n p bx bY) ++ m)) v ∧ Below w.heap.size w w' := by
  have hmf : ∀ (fn : Fn) (first cap : Array Value) (w : World), (Instr.makeFunc fn first cap).run Tryz.prog w = .ok (.func fn first cap) w := fun _ _ _ _ => rfl
  obtain ⟨WB, hWB⟩ : ∃ W, W = (((((w.alloc (.cells #[.slice (some ⟨gx, ox, none⟩) 32 cx] 22)).alloc (.cells #[.slice (some ⟨gy, oy, none⟩) 32 cy] 22)).alloc (.cells #[.slice Am nm cm] 22)).alloc (.cells #[.slice A n c] 22)).alloc (.cells #[.slice none 0 0] 22)).alloc (.cells #[.nilIface] 51) := ⟨_, rfl⟩
  have hsz : WB.heap.size = w.heap.size + 1 + 1 + 1 + 1 + 1 + 1 := by rw [hWB]; simp
  have hB0 : Below w.heap.size w WB := by rw [hWB]; exact below_alloc (below_alloc (below_alloc (below_alloc (below_alloc (below_alloc (Below.refl _ _) _) _) _) _) _) _
  have b0 : Blk WB w.heap.size 22 #[.slice (some ⟨gx, ox, none⟩) 32 cx] := by rw [hWB]; exact (((((new_blk w _ rfl _ 22).alloc _).alloc _).alloc _).alloc _).alloc _
  have b1 : Blk WB (w.heap.size + 1) 22 #[.slice (some ⟨gy, oy, none⟩) 32 cy] := by rw [hWB]; exact ((((new_blk _ _ (by simp) _ 22).alloc _).alloc _).alloc _).alloc _
  have bm : Blk WB (w.heap.size + 1 + 1) 22 #[.slice Am nm cm] := by rw [hWB]; exact (((new_blk _ _ (by simp) _ 22).alloc _).alloc _).alloc _
  have b2 : Blk WB (w.heap.size + 1 + 1 + 1) 22 #[.slice A n c] := by rw [hWB]; exact ((new_blk _ _ (by simp) _ 22).alloc _).alloc _
  have b3 : Blk WB (w.heap.size + 1 + 1 + 1 + 1) 22 #[.slice none 0 0] := by rw [hWB]; exact (new_blk _ _ (by simp) _ 22).alloc _
  have b4 : Blk WB (w.heap.size + 1 + 1 + 1 + 1 + 1) 51 #[.nilIface] := by rw [hWB]; exact new_blk _ _ (by simp) _ 51
  have hBC : Below w.heap.size w (WB.alloc (.cells #[.bool false] 4)) := below_alloc hB0 _
  have hflag : Blk (WB.alloc (.cells #[.bool false] 4)) WB.heap.size 4 #[.bool false] := Blk.new WB 4 _
  have hclo := clo_dig eb gx ox cx gy oy cy w.heap.size (w.heap.size + 1) (w.heap.size + 1 + 1 + 1) (w.heap.size + 1 + 1 + 1 + 1) (w.heap.size + 1 + 1 + 1 + 1 + 1) (w.heap.size + 1 + 1) bx bY A Am n c nm cm p m (WB.alloc (.cells #[.bool false] 4)) (hW.below hBC) (hx.below hBC) (hy.below hBC) ((hr.below hBC).more hBC.size) hp hn0 hn ((hrm.below hBC).more hBC.size) hm hnm (b0.alloc _) (b1.alloc _) (bm.alloc _) (b2.alloc _) (b3.alloc _) (b4.alloc _) (by omega) (by omega) (by omega) (by omega) (by omega) (by omega) (by omega) (by omega) (by omega)
  have hcalm := calm_any 27 #[.pointer (some ⟨w.heap.size, 0, none⟩), .pointer (some ⟨w.heap.size + 1, 0, none⟩), .pointer (some ⟨w.heap.size + 1 + 1, 0, none⟩), .pointer (some ⟨w.heap.size + 1 + 1 + 1, 0, none⟩), .pointer (some ⟨w.heap.size + 1 + 1 + 1 + 1, 0, none⟩), .pointer (some ⟨w.heap.size + 1 + 1 + 1 + 1 + 1, 0, none⟩)]
    (fun w' => ∃ v, Blk w' (w.heap.size + 1 + 1 + 1 + 1) 22 #[v] ∧ Blk w' (w.heap.size + 1 + 1 + 1 + 1 + 1) 51 #[.nilIface] ∧ Tail32 w' (WB.alloc (.cells #[.bool false] 4)).heap.size (sm3 (sm3 (idAll n p bx bY) ++ m)) v ∧ But (WB.alloc (.cells #[.bool false] 4)) (w.heap.size + 1 + 1 + 1 + 1) (w.heap.size + 1 + 1 + 1 + 1 + 1) w') WB
    (fun w => by kernel_rfl) (hclo.mono fun e w' ⟨he, v, h1, h2, h3, h4⟩ => ⟨he, (h4.block _ hflag.lt (by omega) (by omega)).trans hflag, v, h1, h2, h3, h4⟩)
  go_enter Tryz.func11, Tryz.ntmps11
  have HWB := Lib.hid hWB
  clear hWB
  go_upto_region 2 with (fail)
  rw [← HWB.out]
  go_wp2_with (go_at_call 22; refine hcalm.mono ?_; rintro e w'' ⟨rfl, w', ⟨v, h3, h4, ho, hBut⟩, rfl⟩
               obtain ⟨A3, L3, cv, e3, ho3⟩ := id ho
               subst e3
               have k3 := h3.far (p := ⟨WB.heap.size, 0, none⟩) (by show w.heap.size + 1 + 1 + 1 + 1 ≠ WB.heap.size; omega) (.bool true)
               have k4 := h4.far (p := ⟨WB.heap.size, 0, none⟩) (by show w.heap.size + 1 + 1 + 1 + 1 + 1 ≠ WB.heap.size; omega) (.bool true)
               obtain ⟨w2, hw2⟩ : ∃ W, W = w'.setCell ⟨WB.heap.size, 0, none⟩ (.bool true) := ⟨_, rfl⟩
               rw [← hw2] at k3 k4 ⊢
               have H2 := Lib.hid hw2
               clear hw2
               have c3 := k3.cell 0
               have c4 := k4.cell 0
               have z3 := k3.frozen 0
               have d3 := (k3.set_ 0 (.slice A3 L3 cv)).cell 0
               simp at c3 c4 d3)
  have hw2 := H2.out
  have hlow : ∀ k, k < w.heap.size → w2.heap[k]? = w.heap[k]? := fun k hk => by
    rw [hw2]
    exact ((Below.heap_setCell w' ⟨WB.heap.size, 0, none⟩ (.bool true) k (by show k ≠ WB.heap.size; omega)).trans (hBut.block k (by rw [World.size_alloc]; omega) (by omega) (by omega))).trans (hBC.block k hk)
  have hlow2 : Below w.heap.size w w2 := ⟨by rw [hw2]; exact hBut.os.trans hBC.os, by rw [hw2]; exact hBut.tape.trans hBC.tape, by rw [hw2]; exact hBut.output.trans hBC.output, by rw [hw2]; have := hBut.size; have := hBC.size; simp [World.setCell]; omega, hlow⟩
  have ho2 : Tail32 (w2.setCell ⟨w.heap.size + 1 + 1 + 1 + 1, 0, none⟩ (.slice A3 L3 cv)) w.heap.size (sm3 (sm3 (idAll n p bx bY) ++ m)) (.slice A3 L3 cv) := by
    have hs := World.size_alloc WB (.cells #[.bool false] 4)
    obtain ⟨A4, L4, c4, e4, r1, r2, r3, r4, r5⟩ := ho.keep (w' := w2.setCell ⟨w.heap.size + 1 + 1 + 1 + 1, 0, none⟩ (.slice A3 L3 cv)) (by rw [hw2]; simp [World.setCell]) fun k hk _ => (Below.heap_setCell w2 ⟨w.heap.size + 1 + 1 + 1 + 1, 0, none⟩ _ k (by show k ≠ w.heap.size + 1 + 1 + 1 + 1; omega)).trans (by rw [hw2]; exact Below.heap_setCell w' ⟨WB.heap.size, 0, none⟩ (.bool true) k (by show k ≠ WB.heap.size; omega))
    exact ⟨A4, L4, c4, e4, r1, r2, r3, fun ad h => by have := r4 ad h; omega, r5⟩
  refine bodyPost_ret (v := .tuple #[.slice A3 L3 cv, .bool true]) (by simp [results, Tryz.results11, go_sem, d3]) rfl ⟨_, rfl, ho2, hlow2.setCell (p := ⟨w.heap.size + 1 + 1 + 1 + 1, 0, none⟩) (by show w.heap.size ≤ w.heap.size + 1 + 1 + 1 + 1; omega) _⟩
end Go.Proofs.YtiegapnfbeemcaaGreatDoor
