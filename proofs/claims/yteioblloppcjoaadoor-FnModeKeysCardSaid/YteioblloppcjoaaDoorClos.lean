/- The closure within the call: the four modes, one way. No condition but where things lie. -/
import Derived.Test.YteioblloppcjoaaDoorCbc
import Derived.Test.YteioblloppcjoaaDoorCfb
import Derived.Test.YteioblloppcjoaaDoorOfb
import Derived.Deep.RegionHeld3
import Derived.Test.YteioblloppcjoaaDoorItob
namespace Go.Proofs.YteioblloppcjoaaDoor
set_option maxRecDepth 100000
open Go.RowKit

/-- What the closure has captured. -/
structure Capt (w : World) (N : Nat) (m : Int) (K V D : Value) : Prop where
  mode : Blk w N 3 #[.int .i64 m]
  key : Blk w (N + 1) 22 #[K]
  iv : Blk w (N + 2) 22 #[V]
  data : Blk w (N + 3) 22 #[D]
  back : Blk w (N + 4) 4 #[.bool false]
  out : Blk w (N + 5) 22 #[.slice none 0 0]
  err : Blk w (N + 6) 27 #[.nilIface]
theorem Capt.only {w w' : World} {N : Nat} {m : Int} {K V D : Value} (h : Capt w N m K V D) (ho : Only [] w w') : Capt w' N m K V D :=
  ⟨ho.blk h.mode (by simp), ho.blk h.key (by simp), ho.blk h.iv (by simp), ho.blk h.data (by simp), ho.blk h.back (by simp), ho.blk h.out (by simp), ho.blk h.err (by simp)⟩
theorem Capt.cells {w : World} {N : Nat} {m : Int} {K V D : Value} (h : Capt w N m K V D) : w.cell? ⟨N, 0, none⟩ = some (.int .i64 m) ∧ w.cell? ⟨N + 1, 0, none⟩ = some K ∧ w.cell? ⟨N + 2, 0, none⟩ = some V ∧ w.cell? ⟨N + 3, 0, none⟩ = some D ∧
    w.cell? ⟨N + 4, 0, none⟩ = some (.bool false) ∧ w.cell? ⟨N + 5, 0, none⟩ = some (.slice none 0 0) ∧ w.cell? ⟨N + 6, 0, none⟩ = some .nilIface :=
  ⟨h.mode.cell 0, h.key.cell 0, h.iv.cell 0, h.data.cell 0, h.back.cell 0, h.out.cell 0, h.err.cell 0⟩

/-- The closure is done: what it gave is laid down. -/
def ClosDone (N : Nat) (E : Value → Prop) (w : World) (e : Ending) (w' : World) : Prop :=
  e = .returned (.tuple #[]) ∧ Only [N + 5, N + 6] w w' ∧ (∃ A n c, Blk w' (N + 5) 22 #[.slice A n c]) ∧ ∃ v, E v ∧ Blk w' (N + 6) 27 #[v]

/-- Sixteen bytes are copied into new memory; some bytes are. -/
def GotV (w : World) (e : Ending) (w' : World) : Prop := ∃ g c, e = .returned (.slice (some ⟨g, 0, none⟩) 16 c) ∧ w.heap.size ≤ g ∧ Src w' ⟨g, 0, none⟩ 16 ∧ g < w'.heap.size ∧ Below w.heap.size w w'
def GotD (n : Nat) (l : List Int) (w : World) (e : Ending) (w' : World) : Prop := ∃ A c, e = .returned (.slice A n c) ∧ OwnB w' w.heap.size (.slice A n c) l ∧ Below w.heap.size w w'
theorem own16_any (V : Option Addr) (cv : Nat) (lv : List Int) (w : World) (hV : Reads w w.heap.size 1 V 16 (lv.map (Value.int .u8))) (hvb : ∀ x ∈ lv, 0 ≤ x ∧ x ≤ 255) :
    Calls Tryd.prog 11 #[.slice V 16 cv] w (GotV w) := by
  have hl : lv.length = 16 := by have := hV.1; simpa using this
  refine (own_any V 16 cv lv w hV (by omega)).mono ?_
  rintro e w1 ⟨v, rfl, hv, hb⟩
  obtain ⟨g, c, rfl, _⟩ := hv.form (by omega)
  rw [hl] at hv ⊢
  obtain ⟨h1, _, h3⟩ := hv.bys hvb hl
  exact ⟨g, c, rfl, h1, h3.src (by omega), h3.lt, hb⟩
theorem ownd_any (A : Option Addr) (n c : Nat) (l : List Int) (w : World) (hD : Reads w w.heap.size 1 A n (l.map (Value.int .u8))) (hn : n ≤ 500) :
    Calls Tryd.prog 11 #[.slice A n c] w (GotD n l w) := by
  have hl : l.length = n := by have := hD.1; simpa using this
  refine (own_any A n c l w hD (by omega)).mono ?_
  rintro e w1 ⟨v, rfl, hv, hb⟩
  obtain ⟨A', c', rfl⟩ := hv.shaped
  rw [hl] at hv ⊢
  exact ⟨A', c', rfl, hv, hb⟩

/-- What is laid at the end. -/
theorem clos_end {w w3 : World} {N : Nat} {m : Int} {K V D : Value} (hC : Capt w N m K V D) (hb : Below w.heap.size w w3) (A : Option Addr) (n c : Nat) {E : Value → Prop} {v : Value} (hv : E v) :
    ClosDone N E w (.returned (.tuple #[])) ((w3.setCell ⟨N + 5, 0, none⟩ (.slice A n c)).setCell ⟨N + 6, 0, none⟩ v) := by
  have ho : Only [N + 5, N + 6] w w3 := (Only.of_below hb (Nat.le_refl _)).mono (by simp)
  have h5 : Blk w3 (N + 5) 22 #[.slice none 0 0] := (hb.block _ hC.out.lt).trans hC.out
  have h6 : Blk w3 (N + 6) 27 #[.nilIface] := (hb.block _ hC.err.lt).trans hC.err
  refine ⟨rfl, (ho.setCell (p := ⟨N + 5, 0, none⟩) (fun _ => by simp) _).setCell (p := ⟨N + 6, 0, none⟩) (fun _ => by simp) _, ⟨A, n, c, ?_⟩, v, hv, ?_⟩
  · exact (h5.set_ 0 (.slice A n c)).far (p := ⟨N + 6, 0, none⟩) (by show N + 5 ≠ N + 6; omega) v
  · exact (h6.far (p := ⟨N + 5, 0, none⟩) (by show N + 6 ≠ N + 5; omega) (.slice A n c)).set_ 0 v

/-- A key of another length. -/
def Refused (w : World) (e : Ending) (w' : World) : Prop := ∃ v, e = .returned (.tuple #[.slice none 0 0, .iface 46 v]) ∧ Only [] w w'
theorem ecb_no (K : Option Addr) (nk ck : Nat) (A : Option Addr) (n c : Nat) (x : Int) (w : World) (h1 : nk ≠ 16) (h2 : nk ≤ 100) (hx : w.cell? ⟨7, 2, none⟩ = some (.int .u64 x)) (h8 : 8 ≤ w.heap.size) :
    Calls Tryd.prog 10 #[.slice K nk ck, .slice A n c, .bool true] w (Refused w) := by
  have l1 : ((nk : Int) != 16) = true := by simp; omega
  have l2 : ¬ ((nk : Int) = 16) := by omega
  go_enter Tryd.func10, Tryd.ntmps10
  go_wp2_with (first | (go_at_call 17; refine (itoa_any nk x w h2 hx h8).mono ?_; rintro e w' ⟨s, rfl, hs, ho⟩; have hs' : s.size ≤ 100 := hs) | (go_at_call 16; refine (new_any _ _).mono ?_; rintro e w2 ⟨v, rfl, ho2⟩))
  go_ret2
  exact ⟨v, rfl, ho.trans ho2⟩
theorem cbc_no (V : Option Addr) (nv cv : Nat) (K : Option Addr) (nk ck : Nat) (A : Option Addr) (n c : Nat) (x : Int) (w : World) (h1 : nk ≠ 16) (h2 : nk ≤ 100) (hx : w.cell? ⟨7, 2, none⟩ = some (.int .u64 x)) (h8 : 8 ≤ w.heap.size) :
    Calls Tryd.prog 12 #[.slice V nv cv, .slice K nk ck, .slice A n c, .bool true] w (Refused w) := by
  have l1 : ((nk : Int) != 16) = true := by simp; omega
  have l2 : ¬ ((nk : Int) = 16) := by omega
  go_enter Tryd.func12, Tryd.ntmps12
  go_wp2_with (first | (go_at_call 17; refine (itoa_any nk x w h2 hx h8).mono ?_; rintro e w' ⟨s, rfl, hs, ho⟩; have hs' : s.size ≤ 100 := hs) | (go_at_call 16; refine (new_any _ _).mono ?_; rintro e w2 ⟨v, rfl, ho2⟩))
  go_ret2
  exact ⟨v, rfl, ho.trans ho2⟩
theorem cfb_no (V : Option Addr) (nv cv : Nat) (K : Option Addr) (nk ck : Nat) (A : Option Addr) (n c : Nat) (x : Int) (w : World) (h1 : nk ≠ 16) (h2 : nk ≤ 100) (hx : w.cell? ⟨7, 2, none⟩ = some (.int .u64 x)) (h8 : 8 ≤ w.heap.size) :
    Calls Tryd.prog 13 #[.slice V nv cv, .slice K nk ck, .slice A n c, .bool true] w (Refused w) := by
  have l1 : ((nk : Int) != 16) = true := by simp; omega
  have l2 : ¬ ((nk : Int) = 16) := by omega
  go_enter Tryd.func13, Tryd.ntmps13
  go_wp2_with (first | (go_at_call 17; refine (itoa_any nk x w h2 hx h8).mono ?_; rintro e w' ⟨s, rfl, hs, ho⟩; have hs' : s.size ≤ 100 := hs) | (go_at_call 16; refine (new_any _ _).mono ?_; rintro e w2 ⟨v, rfl, ho2⟩))
  go_ret2
  exact ⟨v, rfl, ho.trans ho2⟩
theorem ofb_no (V : Option Addr) (nv cv : Nat) (K : Option Addr) (nk ck : Nat) (A : Option Addr) (n c : Nat) (x : Int) (w : World) (h1 : nk ≠ 16) (h2 : nk ≤ 100) (hx : w.cell? ⟨7, 2, none⟩ = some (.int .u64 x)) (h8 : 8 ≤ w.heap.size) :
    Calls Tryd.prog 14 #[.slice V nv cv, .slice K nk ck, .slice A n c, .bool true] w (Refused w) := by
  have l1 : ((nk : Int) != 16) = true := by simp; omega
  have l2 : ¬ ((nk : Int) = 16) := by omega
  go_enter Tryd.func14, Tryd.ntmps14
  go_wp2_with (first | (go_at_call 17; refine (itoa_any nk x w h2 hx h8).mono ?_; rintro e w' ⟨s, rfl, hs, ho⟩; have hs' : s.size ≤ 100 := hs) | (go_at_call 16; refine (new_any _ _).mono ?_; rintro e w2 ⟨v, rfl, ho2⟩))
  go_ret2
  exact ⟨v, rfl, ho.trans ho2⟩
set_option maxHeartbeats 4000000 in
theorem clos_ecb (N : Nat) (K : Addr) (ck : Nat) (V : Option Addr) (cv : Nat) (A : Option Addr) (n c : Nat) (l : List Int) (w : World) (hC : Capt w N 1 (.slice (some K) 16 ck) (.slice V 16 cv) (.slice A n c))
    (hK : Src w K 16) (hKl : K.block < w.heap.size) (ht : Tabs w) (h7 : 7 ≤ w.heap.size) (hD : Reads w w.heap.size 1 A n (l.map (Value.int .u8))) (hdb : ∀ x ∈ l, 0 ≤ x ∧ x ≤ 255) (hn : n ≤ 500) :
    Calls Tryd.prog 6 #[.pointer (some ⟨N, 0, none⟩), .pointer (some ⟨N + 1, 0, none⟩), .pointer (some ⟨N + 6, 0, none⟩), .pointer (some ⟨N + 5, 0, none⟩), .pointer (some ⟨N + 4, 0, none⟩), .pointer (some ⟨N + 3, 0, none⟩), .pointer (some ⟨N + 2, 0, none⟩)] w
      (ClosDone N (· = .nilIface) w) := by
  obtain ⟨c0, c1, c2, c3, c4, c5, c6⟩ := hC.cells
  have f5 := hC.out.frozen 0
  have f6 := hC.err.frozen 0
  have s6 := hC.err.lt
  have hl : l.length = n := by have := hD.1; simpa using this
  have HL := Lib.hid hl
  clear hl
  go_enter Tryd.func6, Tryd.ntmps6
  go_wp2_with fail
  go_region_held3 (fun w' => w'.cell? ⟨N + 1, 0, none⟩ = some (.slice (some K) 16 ck) ∧ w'.cell? ⟨N + 2, 0, none⟩ = some (.slice V 16 cv) ∧ w'.cell? ⟨N + 3, 0, none⟩ = some (.slice A n c) ∧ w'.cell? ⟨N + 4, 0, none⟩ = some (.bool false))
    (first | go_keep | exact ⟨(hbx.cell (p := ⟨N + 1, 0, none⟩) (by show N + 1 < w.heap.size; omega)).trans c1, (hbx.cell (p := ⟨N + 2, 0, none⟩) (by show N + 2 < w.heap.size; omega)).trans c2, (hbx.cell (p := ⟨N + 3, 0, none⟩) (by show N + 3 < w.heap.size; omega)).trans c3, (hbx.cell (p := ⟨N + 4, 0, none⟩) (by show N + 4 < w.heap.size; omega)).trans c4⟩)
    (first
      | (go_at_call 10; refine (ecb_any K ck A2 n cc2 w.heap.size l w2 (hK.below hbz hKl) hKl (ht.of_below hbz h7) h7 hbz.size HL.out hown2 hdb hn).mono ?_; rintro e w3 ⟨A3, n3, cc3, rfl, hb3⟩; have hbx : Below w.heap.size w w3 := hbz.trans hb3; have hbw := hbx; have k5 := (hbx.cell (p := ⟨N + 5, 0, none⟩) (by show N + 5 < w.heap.size; omega)).trans c5; have k6 := (hbx.cell (p := ⟨N + 6, 0, none⟩) s6).trans c6; have y5 := (hbx.frozen (p := ⟨N + 5, 0, none⟩) (by show N + 5 < w.heap.size; omega)).trans f5; have y6 := (hbx.frozen (p := ⟨N + 6, 0, none⟩) s6).trans f6)
      | (go_at_call 11; refine (ownd_any A n c l w.drew hD hn).mono ?_; rintro e w2 ⟨A2, cc2, rfl, hown2, hb2⟩; have hbx : Below w.heap.size w w2 := (Below.refl w.heap.size w).drew.trans hb2; have hbz := hbx))
  go_wp2_with fail
  simp [bodyPost, results, Tryd.results6]
  exact clos_end hC hbw A3 n3 cc3 rfl
set_option maxHeartbeats 4000000 in
theorem clos_cbc (N : Nat) (K : Addr) (ck : Nat) (V : Option Addr) (cv : Nat) (A : Option Addr) (n c : Nat) (lv l : List Int) (w : World) (hC : Capt w N 2 (.slice (some K) 16 ck) (.slice V 16 cv) (.slice A n c))
    (hK : Src w K 16) (hKl : K.block < w.heap.size) (ht : Tabs w) (h7 : 7 ≤ w.heap.size)
    (hV : Reads w w.heap.size 1 V 16 (lv.map (Value.int .u8))) (hvb : ∀ x ∈ lv, 0 ≤ x ∧ x ≤ 255) (hD : Reads w w.heap.size 1 A n (l.map (Value.int .u8))) (hdb : ∀ x ∈ l, 0 ≤ x ∧ x ≤ 255) (hn : n ≤ 500) :
    Calls Tryd.prog 6 #[.pointer (some ⟨N, 0, none⟩), .pointer (some ⟨N + 1, 0, none⟩), .pointer (some ⟨N + 6, 0, none⟩), .pointer (some ⟨N + 5, 0, none⟩), .pointer (some ⟨N + 4, 0, none⟩), .pointer (some ⟨N + 3, 0, none⟩), .pointer (some ⟨N + 2, 0, none⟩)] w
      (ClosDone N (· = .nilIface) w) := by
  obtain ⟨c0, c1, c2, c3, c4, c5, c6⟩ := hC.cells
  have f5 := hC.out.frozen 0
  have f6 := hC.err.frozen 0
  have s6 := hC.err.lt
  have hl : l.length = n := by have := hD.1; simpa using this
  have HL := Lib.hid hl
  clear hl
  go_enter Tryd.func6, Tryd.ntmps6
  go_wp2_with fail
  go_region_held3 (fun w' => w'.cell? ⟨N + 1, 0, none⟩ = some (.slice (some K) 16 ck) ∧ w'.cell? ⟨N + 2, 0, none⟩ = some (.slice V 16 cv) ∧ w'.cell? ⟨N + 3, 0, none⟩ = some (.slice A n c) ∧ w'.cell? ⟨N + 4, 0, none⟩ = some (.bool false))
    (first | go_keep | exact ⟨(hbx.cell (p := ⟨N + 1, 0, none⟩) (by show N + 1 < w.heap.size; omega)).trans c1, (hbx.cell (p := ⟨N + 2, 0, none⟩) (by show N + 2 < w.heap.size; omega)).trans c2, (hbx.cell (p := ⟨N + 3, 0, none⟩) (by show N + 3 < w.heap.size; omega)).trans c3, (hbx.cell (p := ⟨N + 4, 0, none⟩) (by show N + 4 < w.heap.size; omega)).trans c4⟩)
    (first
      | (go_at_call 12; refine (cbc_any ⟨g1, 0, none⟩ cc1 K ck A2 n cc2 w1.heap.size l w2 (hs1.below hb2 hl1) hl1 (hK.below hbz hKl) (by have := hby.size; omega) (ht.of_below hbz h7) (by have := hby.size; omega) hb2.size HL.out hown2 hdb hn).mono ?_; rintro e w3 ⟨A3, n3, cc3, rfl, hb3⟩; have hbx : Below w.heap.size w w3 := hbz.trans (hb3.mono hby.size); have hbw := hbx; have k5 := (hbx.cell (p := ⟨N + 5, 0, none⟩) (by show N + 5 < w.heap.size; omega)).trans c5; have k6 := (hbx.cell (p := ⟨N + 6, 0, none⟩) s6).trans c6; have y5 := (hbx.frozen (p := ⟨N + 5, 0, none⟩) (by show N + 5 < w.heap.size; omega)).trans f5; have y6 := (hbx.frozen (p := ⟨N + 6, 0, none⟩) s6).trans f6)
      | (go_at_call 11; refine (ownd_any A n c l w1 ((hD.below hby).more hby.size) hn).mono ?_; rintro e w2 ⟨A2, cc2, rfl, hown2, hb2⟩; have hbx : Below w.heap.size w w2 := hby.trans (hb2.mono hby.size); have hbz := hbx)
      | (go_at_call 11; refine (own16_any V cv lv w.drew hV hvb).mono ?_; rintro e w1 ⟨g1, cc1, rfl, hg1, hs1, hl1, hb1⟩; have hbx : Below w.heap.size w w1 := (Below.refl w.heap.size w).drew.trans hb1; have hby := hbx))
  go_wp2_with fail
  simp [bodyPost, results, Tryd.results6]
  exact clos_end hC hbw A3 n3 cc3 rfl
set_option maxHeartbeats 4000000 in
theorem clos_cfb (N : Nat) (K : Addr) (ck : Nat) (V : Option Addr) (cv : Nat) (A : Option Addr) (n c : Nat) (lv l : List Int) (w : World) (hC : Capt w N 3 (.slice (some K) 16 ck) (.slice V 16 cv) (.slice A n c))
    (hK : Src w K 16) (hKl : K.block < w.heap.size) (ht : Tabs w) (h7 : 7 ≤ w.heap.size)
    (hV : Reads w w.heap.size 1 V 16 (lv.map (Value.int .u8))) (hvb : ∀ x ∈ lv, 0 ≤ x ∧ x ≤ 255) (hD : Reads w w.heap.size 1 A n (l.map (Value.int .u8))) (hdb : ∀ x ∈ l, 0 ≤ x ∧ x ≤ 255) (hn : n ≤ 500) :
    Calls Tryd.prog 6 #[.pointer (some ⟨N, 0, none⟩), .pointer (some ⟨N + 1, 0, none⟩), .pointer (some ⟨N + 6, 0, none⟩), .pointer (some ⟨N + 5, 0, none⟩), .pointer (some ⟨N + 4, 0, none⟩), .pointer (some ⟨N + 3, 0, none⟩), .pointer (some ⟨N + 2, 0, none⟩)] w
      (ClosDone N (· = .nilIface) w) := by
  obtain ⟨c0, c1, c2, c3, c4, c5, c6⟩ := hC.cells
  have f5 := hC.out.frozen 0
  have f6 := hC.err.frozen 0
  have s6 := hC.err.lt
  have hl : l.length = n := by have := hD.1; simpa using this
  have HL := Lib.hid hl
  clear hl
  go_enter Tryd.func6, Tryd.ntmps6
  go_wp2_with fail
  go_region_held3 (fun w' => w'.cell? ⟨N + 1, 0, none⟩ = some (.slice (some K) 16 ck) ∧ w'.cell? ⟨N + 2, 0, none⟩ = some (.slice V 16 cv) ∧ w'.cell? ⟨N + 3, 0, none⟩ = some (.slice A n c) ∧ w'.cell? ⟨N + 4, 0, none⟩ = some (.bool false))
    (first | go_keep | exact ⟨(hbx.cell (p := ⟨N + 1, 0, none⟩) (by show N + 1 < w.heap.size; omega)).trans c1, (hbx.cell (p := ⟨N + 2, 0, none⟩) (by show N + 2 < w.heap.size; omega)).trans c2, (hbx.cell (p := ⟨N + 3, 0, none⟩) (by show N + 3 < w.heap.size; omega)).trans c3, (hbx.cell (p := ⟨N + 4, 0, none⟩) (by show N + 4 < w.heap.size; omega)).trans c4⟩)
    (first
      | (go_at_call 13; refine (cfb_any ⟨g1, 0, none⟩ cc1 K ck A2 n cc2 w1.heap.size l w2 (hs1.below hb2 hl1) hl1 (hK.below hbz hKl) (by have := hby.size; omega) (ht.of_below hbz h7) (by have := hby.size; omega) hb2.size HL.out hown2 hdb hn).mono ?_; rintro e w3 ⟨A3, n3, cc3, rfl, hb3⟩; have hbx : Below w.heap.size w w3 := hbz.trans (hb3.mono hby.size); have hbw := hbx; have k5 := (hbx.cell (p := ⟨N + 5, 0, none⟩) (by show N + 5 < w.heap.size; omega)).trans c5; have k6 := (hbx.cell (p := ⟨N + 6, 0, none⟩) s6).trans c6; have y5 := (hbx.frozen (p := ⟨N + 5, 0, none⟩) (by show N + 5 < w.heap.size; omega)).trans f5; have y6 := (hbx.frozen (p := ⟨N + 6, 0, none⟩) s6).trans f6)
      | (go_at_call 11; refine (ownd_any A n c l w1 ((hD.below hby).more hby.size) hn).mono ?_; rintro e w2 ⟨A2, cc2, rfl, hown2, hb2⟩; have hbx : Below w.heap.size w w2 := hby.trans (hb2.mono hby.size); have hbz := hbx)
      | (go_at_call 11; refine (own16_any V cv lv w.drew hV hvb).mono ?_; rintro e w1 ⟨g1, cc1, rfl, hg1, hs1, hl1, hb1⟩; have hbx : Below w.heap.size w w1 := (Below.refl w.heap.size w).drew.trans hb1; have hby := hbx))
  go_wp2_with fail
  simp [bodyPost, results, Tryd.results6]
  exact clos_end hC hbw A3 n3 cc3 rfl
set_option maxHeartbeats 4000000 in
theorem clos_ofb (N : Nat) (K : Addr) (ck : Nat) (V : Option Addr) (cv : Nat) (A : Option Addr) (n c : Nat) (lv l : List Int) (w : World) (hC : Capt w N 4 (.slice (some K) 16 ck) (.slice V 16 cv) (.slice A n c))
    (hK : Src w K 16) (hKl : K.block < w.heap.size) (ht : Tabs w) (h7 : 7 ≤ w.heap.size)
    (hV : Reads w w.heap.size 1 V 16 (lv.map (Value.int .u8))) (hvb : ∀ x ∈ lv, 0 ≤ x ∧ x ≤ 255) (hD : Reads w w.heap.size 1 A n (l.map (Value.int .u8))) (hdb : ∀ x ∈ l, 0 ≤ x ∧ x ≤ 255) (hn : n ≤ 500) :
    Calls Tryd.prog 6 #[.pointer (some ⟨N, 0, none⟩), .pointer (some ⟨N + 1, 0, none⟩), .pointer (some ⟨N + 6, 0, none⟩), .pointer (some ⟨N + 5, 0, none⟩), .pointer (some ⟨N + 4, 0, none⟩), .pointer (some ⟨N + 3, 0, none⟩), .pointer (some ⟨N + 2, 0, none⟩)] w
      (ClosDone N (· = .nilIface) w) := by
  obtain ⟨c0, c1, c2, c3, c4, c5, c6⟩ := hC.cells
  have f5 := hC.out.frozen 0
  have f6 := hC.err.frozen 0
  have s6 := hC.err.lt
  have hl : l.length = n := by have := hD.1; simpa using this
  have HL := Lib.hid hl
  clear hl
  go_enter Tryd.func6, Tryd.ntmps6
  go_wp2_with fail
  go_region_held3 (fun w' => w'.cell? ⟨N + 1, 0, none⟩ = some (.slice (some K) 16 ck) ∧ w'.cell? ⟨N + 2, 0, none⟩ = some (.slice V 16 cv) ∧ w'.cell? ⟨N + 3, 0, none⟩ = some (.slice A n c) ∧ w'.cell? ⟨N + 4, 0, none⟩ = some (.bool false))
    (first | go_keep | exact ⟨(hbx.cell (p := ⟨N + 1, 0, none⟩) (by show N + 1 < w.heap.size; omega)).trans c1, (hbx.cell (p := ⟨N + 2, 0, none⟩) (by show N + 2 < w.heap.size; omega)).trans c2, (hbx.cell (p := ⟨N + 3, 0, none⟩) (by show N + 3 < w.heap.size; omega)).trans c3, (hbx.cell (p := ⟨N + 4, 0, none⟩) (by show N + 4 < w.heap.size; omega)).trans c4⟩)
    (first
      | (go_at_call 14; refine (ofb_any ⟨g1, 0, none⟩ cc1 K ck A2 n cc2 w1.heap.size l w2 (hs1.below hb2 hl1) hl1 (hK.below hbz hKl) (by have := hby.size; omega) (ht.of_below hbz h7) (by have := hby.size; omega) hb2.size HL.out hown2 hdb hn).mono ?_; rintro e w3 ⟨A3, n3, cc3, rfl, hb3⟩; have hbx : Below w.heap.size w w3 := hbz.trans (hb3.mono hby.size); have hbw := hbx; have k5 := (hbx.cell (p := ⟨N + 5, 0, none⟩) (by show N + 5 < w.heap.size; omega)).trans c5; have k6 := (hbx.cell (p := ⟨N + 6, 0, none⟩) s6).trans c6; have y5 := (hbx.frozen (p := ⟨N + 5, 0, none⟩) (by show N + 5 < w.heap.size; omega)).trans f5; have y6 := (hbx.frozen (p := ⟨N + 6, 0, none⟩) s6).trans f6)
      | (go_at_call 11; refine (ownd_any A n c l w1 ((hD.below hby).more hby.size) hn).mono ?_; rintro e w2 ⟨A2, cc2, rfl, hown2, hb2⟩; have hbx : Below w.heap.size w w2 := hby.trans (hb2.mono hby.size); have hbz := hbx)
      | (go_at_call 11; refine (own16_any V cv lv w.drew hV hvb).mono ?_; rintro e w1 ⟨g1, cc1, rfl, hg1, hs1, hl1, hb1⟩; have hbx : Below w.heap.size w w1 := (Below.refl w.heap.size w).drew.trans hb1; have hby := hbx))
  go_wp2_with fail
  simp [bodyPost, results, Tryd.results6]
  exact clos_end hC hbw A3 n3 cc3 rfl
set_option maxHeartbeats 4000000 in
theorem clno_ecb (N : Nat) (K : Option Addr) (nk ck : Nat) (V : Option Addr) (cv : Nat) (A : Option Addr) (n c : Nat) (l : List Int) (x : Int) (w : World) (hC : Capt w N 1 (.slice K nk ck) (.slice V 16 cv) (.slice A n c))
    (hk1 : nk ≠ 16) (hk2 : nk ≤ 100) (hx : w.cell? ⟨7, 2, none⟩ = some (.int .u64 x)) (h8 : 8 ≤ w.heap.size) (hD : Reads w w.heap.size 1 A n (l.map (Value.int .u8))) (hn : n ≤ 500) :
    Calls Tryd.prog 6 #[.pointer (some ⟨N, 0, none⟩), .pointer (some ⟨N + 1, 0, none⟩), .pointer (some ⟨N + 6, 0, none⟩), .pointer (some ⟨N + 5, 0, none⟩), .pointer (some ⟨N + 4, 0, none⟩), .pointer (some ⟨N + 3, 0, none⟩), .pointer (some ⟨N + 2, 0, none⟩)] w
      (ClosDone N (fun v => ∃ u, v = .iface 46 u) w) := by
  obtain ⟨c0, c1, c2, c3, c4, c5, c6⟩ := hC.cells
  have f5 := hC.out.frozen 0
  have f6 := hC.err.frozen 0
  have s6 := hC.err.lt
  go_enter Tryd.func6, Tryd.ntmps6
  go_wp2_with fail
  go_region_held3 (fun w' => w'.cell? ⟨N + 1, 0, none⟩ = some (.slice K nk ck) ∧ w'.cell? ⟨N + 2, 0, none⟩ = some (.slice V 16 cv) ∧ w'.cell? ⟨N + 3, 0, none⟩ = some (.slice A n c) ∧ w'.cell? ⟨N + 4, 0, none⟩ = some (.bool false))
    (first | go_keep | exact ⟨(hbx.cell (p := ⟨N + 1, 0, none⟩) (by show N + 1 < w.heap.size; omega)).trans c1, (hbx.cell (p := ⟨N + 2, 0, none⟩) (by show N + 2 < w.heap.size; omega)).trans c2, (hbx.cell (p := ⟨N + 3, 0, none⟩) (by show N + 3 < w.heap.size; omega)).trans c3, (hbx.cell (p := ⟨N + 4, 0, none⟩) (by show N + 4 < w.heap.size; omega)).trans c4⟩)
    (first
      | (go_at_call 10; refine (ecb_no K nk ck A2 n cc2 x w2 hk1 hk2 ((hbz.cell (p := ⟨7, 2, none⟩) (by show 7 < w.heap.size; omega)).trans hx) (by have := hbz.size; omega)).mono ?_; rintro e w3 ⟨u, rfl, ho3⟩; have hbx : Below w.heap.size w w3 := hbz.trans (ho3.to_below hbz.size (by simp)); have hbw := hbx; have k5 := (hbx.cell (p := ⟨N + 5, 0, none⟩) (by show N + 5 < w.heap.size; omega)).trans c5; have k6 := (hbx.cell (p := ⟨N + 6, 0, none⟩) s6).trans c6; have y5 := (hbx.frozen (p := ⟨N + 5, 0, none⟩) (by show N + 5 < w.heap.size; omega)).trans f5; have y6 := (hbx.frozen (p := ⟨N + 6, 0, none⟩) s6).trans f6)
      | (go_at_call 11; refine (ownd_any A n c l w.drew hD hn).mono ?_; rintro e w2 ⟨A2, cc2, rfl, hown2, hb2⟩; have hbx : Below w.heap.size w w2 := (Below.refl w.heap.size w).drew.trans hb2; have hbz := hbx))
  go_wp2_with fail
  simp [bodyPost, results, Tryd.results6]
  exact clos_end hC hbw none 0 0 ⟨u, rfl⟩
set_option maxHeartbeats 4000000 in
theorem clno_cbc (N : Nat) (K : Option Addr) (nk ck : Nat) (V : Option Addr) (cv : Nat) (A : Option Addr) (n c : Nat) (lv l : List Int) (x : Int) (w : World) (hC : Capt w N 2 (.slice K nk ck) (.slice V 16 cv) (.slice A n c))
    (hk1 : nk ≠ 16) (hk2 : nk ≤ 100) (hx : w.cell? ⟨7, 2, none⟩ = some (.int .u64 x)) (h8 : 8 ≤ w.heap.size)
    (hV : Reads w w.heap.size 1 V 16 (lv.map (Value.int .u8))) (hvb : ∀ x ∈ lv, 0 ≤ x ∧ x ≤ 255) (hD : Reads w w.heap.size 1 A n (l.map (Value.int .u8))) (hn : n ≤ 500) :
    Calls Tryd.prog 6 #[.pointer (some ⟨N, 0, none⟩), .pointer (some ⟨N + 1, 0, none⟩), .pointer (some ⟨N + 6, 0, none⟩), .pointer (some ⟨N + 5, 0, none⟩), .pointer (some ⟨N + 4, 0, none⟩), .pointer (some ⟨N + 3, 0, none⟩), .pointer (some ⟨N + 2, 0, none⟩)] w
      (ClosDone N (fun v => ∃ u, v = .iface 46 u) w) := by
  obtain ⟨c0, c1, c2, c3, c4, c5, c6⟩ := hC.cells
  have f5 := hC.out.frozen 0
  have f6 := hC.err.frozen 0
  have s6 := hC.err.lt
  go_enter Tryd.func6, Tryd.ntmps6
  go_wp2_with fail
  go_region_held3 (fun w' => w'.cell? ⟨N + 1, 0, none⟩ = some (.slice K nk ck) ∧ w'.cell? ⟨N + 2, 0, none⟩ = some (.slice V 16 cv) ∧ w'.cell? ⟨N + 3, 0, none⟩ = some (.slice A n c) ∧ w'.cell? ⟨N + 4, 0, none⟩ = some (.bool false))
    (first | go_keep | exact ⟨(hbx.cell (p := ⟨N + 1, 0, none⟩) (by show N + 1 < w.heap.size; omega)).trans c1, (hbx.cell (p := ⟨N + 2, 0, none⟩) (by show N + 2 < w.heap.size; omega)).trans c2, (hbx.cell (p := ⟨N + 3, 0, none⟩) (by show N + 3 < w.heap.size; omega)).trans c3, (hbx.cell (p := ⟨N + 4, 0, none⟩) (by show N + 4 < w.heap.size; omega)).trans c4⟩)
    (first
      | (go_at_call 12; refine (cbc_no (some ⟨g1, 0, none⟩) 16 cc1 K nk ck A2 n cc2 x w2 hk1 hk2 ((hbz.cell (p := ⟨7, 2, none⟩) (by show 7 < w.heap.size; omega)).trans hx) (by have := hbz.size; omega)).mono ?_; rintro e w3 ⟨u, rfl, ho3⟩; have hbx : Below w.heap.size w w3 := hbz.trans (ho3.to_below hbz.size (by simp)); have hbw := hbx; have k5 := (hbx.cell (p := ⟨N + 5, 0, none⟩) (by show N + 5 < w.heap.size; omega)).trans c5; have k6 := (hbx.cell (p := ⟨N + 6, 0, none⟩) s6).trans c6; have y5 := (hbx.frozen (p := ⟨N + 5, 0, none⟩) (by show N + 5 < w.heap.size; omega)).trans f5; have y6 := (hbx.frozen (p := ⟨N + 6, 0, none⟩) s6).trans f6)
      | (go_at_call 11; refine (ownd_any A n c l w1 ((hD.below hby).more hby.size) hn).mono ?_; rintro e w2 ⟨A2, cc2, rfl, hown2, hb2⟩; have hbx : Below w.heap.size w w2 := hby.trans (hb2.mono hby.size); have hbz := hbx)
      | (go_at_call 11; refine (own16_any V cv lv w.drew hV hvb).mono ?_; rintro e w1 ⟨g1, cc1, rfl, hg1, hs1, hl1, hb1⟩; have hbx : Below w.heap.size w w1 := (Below.refl w.heap.size w).drew.trans hb1; have hby := hbx))
  go_wp2_with fail
  simp [bodyPost, results, Tryd.results6]
  exact clos_end hC hbw none 0 0 ⟨u, rfl⟩
set_option maxHeartbeats 4000000 in
theorem clno_cfb (N : Nat) (K : Option Addr) (nk ck : Nat) (V : Option Addr) (cv : Nat) (A : Option Addr) (n c : Nat) (lv l : List Int) (x : Int) (w : World) (hC : Capt w N 3 (.slice K nk ck) (.slice V 16 cv) (.slice A n c))
    (hk1 : nk ≠ 16) (hk2 : nk ≤ 100) (hx : w.cell? ⟨7, 2, none⟩ = some (.int .u64 x)) (h8 : 8 ≤ w.heap.size)
    (hV : Reads w w.heap.size 1 V 16 (lv.map (Value.int .u8))) (hvb : ∀ x ∈ lv, 0 ≤ x ∧ x ≤ 255) (hD : Reads w w.heap.size 1 A n (l.map (Value.int .u8))) (hn : n ≤ 500) :
    Calls Tryd.prog 6 #[.pointer (some ⟨N, 0, none⟩), .pointer (some ⟨N + 1, 0, none⟩), .pointer (some ⟨N + 6, 0, none⟩), .pointer (some ⟨N + 5, 0, none⟩), .pointer (some ⟨N + 4, 0, none⟩), .pointer (some ⟨N + 3, 0, none⟩), .pointer (some ⟨N + 2, 0, none⟩)] w
      (ClosDone N (fun v => ∃ u, v = .iface 46 u) w) := by
  obtain ⟨c0, c1, c2, c3, c4, c5, c6⟩ := hC.cells
  have f5 := hC.out.frozen 0
  have f6 := hC.err.frozen 0
  have s6 := hC.err.lt
  go_enter Tryd.func6, Tryd.ntmps6
  go_wp2_with fail
  go_region_held3 (fun w' => w'.cell? ⟨N + 1, 0, none⟩ = some (.slice K nk ck) ∧ w'.cell? ⟨N + 2, 0, none⟩ = some (.slice V 16 cv) ∧ w'.cell? ⟨N + 3, 0, none⟩ = some (.slice A n c) ∧ w'.cell? ⟨N + 4, 0, none⟩ = some (.bool false))
    (first | go_keep | exact ⟨(hbx.cell (p := ⟨N + 1, 0, none⟩) (by show N + 1 < w.heap.size; omega)).trans c1, (hbx.cell (p := ⟨N + 2, 0, none⟩) (by show N + 2 < w.heap.size; omega)).trans c2, (hbx.cell (p := ⟨N + 3, 0, none⟩) (by show N + 3 < w.heap.size; omega)).trans c3, (hbx.cell (p := ⟨N + 4, 0, none⟩) (by show N + 4 < w.heap.size; omega)).trans c4⟩)
    (first
      | (go_at_call 13; refine (cfb_no (some ⟨g1, 0, none⟩) 16 cc1 K nk ck A2 n cc2 x w2 hk1 hk2 ((hbz.cell (p := ⟨7, 2, none⟩) (by show 7 < w.heap.size; omega)).trans hx) (by have := hbz.size; omega)).mono ?_; rintro e w3 ⟨u, rfl, ho3⟩; have hbx : Below w.heap.size w w3 := hbz.trans (ho3.to_below hbz.size (by simp)); have hbw := hbx; have k5 := (hbx.cell (p := ⟨N + 5, 0, none⟩) (by show N + 5 < w.heap.size; omega)).trans c5; have k6 := (hbx.cell (p := ⟨N + 6, 0, none⟩) s6).trans c6; have y5 := (hbx.frozen (p := ⟨N + 5, 0, none⟩) (by show N + 5 < w.heap.size; omega)).trans f5; have y6 := (hbx.frozen (p := ⟨N + 6, 0, none⟩) s6).trans f6)
      | (go_at_call 11; refine (ownd_any A n c l w1 ((hD.below hby).more hby.size) hn).mono ?_; rintro e w2 ⟨A2, cc2, rfl, hown2, hb2⟩; have hbx : Below w.heap.size w w2 := hby.trans (hb2.mono hby.size); have hbz := hbx)
      | (go_at_call 11; refine (own16_any V cv lv w.drew hV hvb).mono ?_; rintro e w1 ⟨g1, cc1, rfl, hg1, hs1, hl1, hb1⟩; have hbx : Below w.heap.size w w1 := (Below.refl w.heap.size w).drew.trans hb1; have hby := hbx))
  go_wp2_with fail
  simp [bodyPost, results, Tryd.results6]
  exact clos_end hC hbw none 0 0 ⟨u, rfl⟩
set_option maxHeartbeats 4000000 in
theorem clno_ofb (N : Nat) (K : Option Addr) (nk ck : Nat) (V : Option Addr) (cv : Nat) (A : Option Addr) (n c : Nat) (lv l : List Int) (x : Int) (w : World) (hC : Capt w N 4 (.slice K nk ck) (.slice V 16 cv) (.slice A n c))
    (hk1 : nk ≠ 16) (hk2 : nk ≤ 100) (hx : w.cell? ⟨7, 2, none⟩ = some (.int .u64 x)) (h8 : 8 ≤ w.heap.size)
    (hV : Reads w w.heap.size 1 V 16 (lv.map (Value.int .u8))) (hvb : ∀ x ∈ lv, 0 ≤ x ∧ x ≤ 255) (hD : Reads w w.heap.size 1 A n (l.map (Value.int .u8))) (hn : n ≤ 500) :
    Calls Tryd.prog 6 #[.pointer (some ⟨N, 0, none⟩), .pointer (some ⟨N + 1, 0, none⟩), .pointer (some ⟨N + 6, 0, none⟩), .pointer (some ⟨N + 5, 0, none⟩), .pointer (some ⟨N + 4, 0, none⟩), .pointer (some ⟨N + 3, 0, none⟩), .pointer (some ⟨N + 2, 0, none⟩)] w
      (ClosDone N (fun v => ∃ u, v = .iface 46 u) w) := by
  obtain ⟨c0, c1, c2, c3, c4, c5, c6⟩ := hC.cells
  have f5 := hC.out.frozen 0
  have f6 := hC.err.frozen 0
  have s6 := hC.err.lt
  go_enter Tryd.func6, Tryd.ntmps6
  go_wp2_with fail
  go_region_held3 (fun w' => w'.cell? ⟨N + 1, 0, none⟩ = some (.slice K nk ck) ∧ w'.cell? ⟨N + 2, 0, none⟩ = some (.slice V 16 cv) ∧ w'.cell? ⟨N + 3, 0, none⟩ = some (.slice A n c) ∧ w'.cell? ⟨N + 4, 0, none⟩ = some (.bool false))
    (first | go_keep | exact ⟨(hbx.cell (p := ⟨N + 1, 0, none⟩) (by show N + 1 < w.heap.size; omega)).trans c1, (hbx.cell (p := ⟨N + 2, 0, none⟩) (by show N + 2 < w.heap.size; omega)).trans c2, (hbx.cell (p := ⟨N + 3, 0, none⟩) (by show N + 3 < w.heap.size; omega)).trans c3, (hbx.cell (p := ⟨N + 4, 0, none⟩) (by show N + 4 < w.heap.size; omega)).trans c4⟩)
    (first
      | (go_at_call 14; refine (ofb_no (some ⟨g1, 0, none⟩) 16 cc1 K nk ck A2 n cc2 x w2 hk1 hk2 ((hbz.cell (p := ⟨7, 2, none⟩) (by show 7 < w.heap.size; omega)).trans hx) (by have := hbz.size; omega)).mono ?_; rintro e w3 ⟨u, rfl, ho3⟩; have hbx : Below w.heap.size w w3 := hbz.trans (ho3.to_below hbz.size (by simp)); have hbw := hbx; have k5 := (hbx.cell (p := ⟨N + 5, 0, none⟩) (by show N + 5 < w.heap.size; omega)).trans c5; have k6 := (hbx.cell (p := ⟨N + 6, 0, none⟩) s6).trans c6; have y5 := (hbx.frozen (p := ⟨N + 5, 0, none⟩) (by show N + 5 < w.heap.size; omega)).trans f5; have y6 := (hbx.frozen (p := ⟨N + 6, 0, none⟩) s6).trans f6)
      | (go_at_call 11; refine (ownd_any A n c l w1 ((hD.below hby).more hby.size) hn).mono ?_; rintro e w2 ⟨A2, cc2, rfl, hown2, hb2⟩; have hbx : Below w.heap.size w w2 := hby.trans (hb2.mono hby.size); have hbz := hbx)
      | (go_at_call 11; refine (own16_any V cv lv w.drew hV hvb).mono ?_; rintro e w1 ⟨g1, cc1, rfl, hg1, hs1, hl1, hb1⟩; have hbx : Below w.heap.size w w1 := (Below.refl w.heap.size w).drew.trans hb1; have hby := hbx))
  go_wp2_with fail
  simp [bodyPost, results, Tryd.results6]
  exact clos_end hC hbw none 0 0 ⟨u, rfl⟩
end Go.Proofs.YteioblloppcjoaaDoor
