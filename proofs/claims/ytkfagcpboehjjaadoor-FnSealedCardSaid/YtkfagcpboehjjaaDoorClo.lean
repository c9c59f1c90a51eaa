/- What the closure within the call has captured, and what it leaves. No condition. -/
import Derived.Test.YtkfagcpboehjjaaDoorSpm
import Derived.Test.YtkfagcpboehjjaaDoorCalm
import Derived.Deep.RegionHeld3
namespace Go.Proofs.YtkfagcpboehjjaaDoor
set_option maxRecDepth 100000
open Go.RowKit

structure Capt (w : World) (N : Nat) (m : Int) (K V D : Value) (bk : Bool) : Prop where
  mode : Blk w N 3 #[.int .i64 m]
  key : Blk w (N + 1) 22 #[K]
  iv : Blk w (N + 2) 22 #[V]
  data : Blk w (N + 3) 22 #[D]
  back : Blk w (N + 4) 4 #[.bool bk]
  out : Blk w (N + 5) 22 #[.slice none 0 0]
  err : Blk w (N + 6) 36 #[.nilIface]
theorem Capt.only {w w' : World} {N : Nat} {m : Int} {K V D : Value} {bk : Bool} (h : Capt w N m K V D bk) (ho : Only [] w w') : Capt w' N m K V D bk :=
  ⟨ho.blk h.mode (by simp), ho.blk h.key (by simp), ho.blk h.iv (by simp), ho.blk h.data (by simp), ho.blk h.back (by simp), ho.blk h.out (by simp), ho.blk h.err (by simp)⟩
theorem Capt.cells {w : World} {N : Nat} {m : Int} {K V D : Value} {bk : Bool} (h : Capt w N m K V D bk) : w.cell? ⟨N, 0, none⟩ = some (.int .i64 m) ∧ w.cell? ⟨N + 1, 0, none⟩ = some K ∧ w.cell? ⟨N + 2, 0, none⟩ = some V ∧ w.cell? ⟨N + 3, 0, none⟩ = some D ∧
    w.cell? ⟨N + 4, 0, none⟩ = some (.bool bk) ∧ w.cell? ⟨N + 5, 0, none⟩ = some (.slice none 0 0) ∧ w.cell? ⟨N + 6, 0, none⟩ = some .nilIface :=
  ⟨h.mode.cell 0, h.key.cell 0, h.iv.cell 0, h.data.cell 0, h.back.cell 0, h.out.cell 0, h.err.cell 0⟩

/-- The closure is done: what it gave is laid down. -/
def ClosDone (N n : Nat) (F : Nat → Int) (w : World) (e : Ending) (w' : World) : Prop :=
  e = .returned (.tuple #[]) ∧ Only [N + 5, N + 6] w w' ∧ (∃ go c, Blk w' (N + 5) 22 #[.slice (some ⟨go, 0, none⟩) n c] ∧ w.heap.size ≤ go ∧ ArrB w' go n F) ∧ Blk w' (N + 6) 36 #[.nilIface]

/-- Sixteen bytes are copied into new memory; some bytes are. -/
def GotV (f : Nat → Int) (w : World) (e : Ending) (w' : World) : Prop := ∃ g c, e = .returned (.slice (some ⟨g, 0, none⟩) 16 c) ∧ w.heap.size ≤ g ∧ Src w' ⟨g, 0, none⟩ 16 f ∧ g < w'.heap.size ∧ Below w.heap.size w w'
def GotD (n : Nat) (l : List Int) (w : World) (e : Ending) (w' : World) : Prop := ∃ A c, e = .returned (.slice A n c) ∧ OwnB w' w.heap.size (.slice A n c) l ∧ Below w.heap.size w w'
def GotA (n : Nat) (d : Nat → Int) (w : World) (e : Ending) (w' : World) : Prop := ∃ g c, e = .returned (.slice (some ⟨g, 0, none⟩) n c) ∧ n ≤ c ∧ w.heap.size ≤ g ∧ ArrB w' g n d ∧ Below w.heap.size w w'
theorem own16_any (V : Option Addr) (cv : Nat) (f : Nat → Int) (w : World) (hV : Reads w w.heap.size 1 V 16 ((fst 16 f).map (Value.int .u8))) :
    Calls Tryd.prog 21 #[.slice V 16 cv] w (GotV f w) := by
  refine (own_any V 16 cv (fst 16 f) w hV (by omega)).mono ?_
  rintro e w1 ⟨v, rfl, hv, hb⟩
  obtain ⟨g, c, rfl, h1, h2, h3⟩ := hv.arr (by omega)
  exact ⟨g, c, rfl, h2, h3.src0 (by omega), h3.lt, hb⟩
theorem ownd_any (A : Option Addr) (n c : Nat) (l : List Int) (w : World) (hD : Reads w w.heap.size 1 A n (l.map (Value.int .u8))) (hn : n ≤ 1008) :
    Calls Tryd.prog 21 #[.slice A n c] w (GotD n l w) := by
  have hl : l.length = n := by have := hD.1; simpa using this
  refine (own_any A n c l w hD (by omega)).mono ?_
  rintro e w1 ⟨v, rfl, hv, hb⟩
  obtain ⟨A', c', rfl⟩ := hv.shaped
  rw [hl] at hv ⊢
  exact ⟨A', c', rfl, hv, hb⟩
theorem owna_any (A : Option Addr) (n c : Nat) (d : Nat → Int) (w : World) (hD : Reads w w.heap.size 1 A n ((fst n d).map (Value.int .u8))) (h0 : 0 < n) (hn : n ≤ 1008) :
    Calls Tryd.prog 21 #[.slice A n c] w (GotA n d w) := by
  refine (own_any A n c (fst n d) w hD (by omega)).mono ?_
  rintro e w1 ⟨v, rfl, hv, hb⟩
  obtain ⟨g, c, rfl, h1, h2, h3⟩ := hv.arr h0
  exact ⟨g, c, rfl, h1, h2, h3, hb⟩

/-- What is laid at the end. -/
theorem clos_end {w w3 : World} {N n go c : Nat} {m : Int} {K V D : Value} {bk : Bool} {F : Nat → Int} (hC : Capt w N m K V D bk) (hb : Below w.heap.size w w3) (hgo : w.heap.size ≤ go) (ha : ArrB w3 go n F) :
    ClosDone N n F w (.returned (.tuple #[])) ((w3.setCell ⟨N + 5, 0, none⟩ (.slice (some ⟨go, 0, none⟩) n c)).setCell ⟨N + 6, 0, none⟩ .nilIface) := by
  have ho : Only [N + 5, N + 6] w w3 := (Only.of_below hb (Nat.le_refl _)).mono (by simp)
  have h5 : Blk w3 (N + 5) 22 #[.slice none 0 0] := (hb.block _ hC.out.lt).trans hC.out
  have h6 : Blk w3 (N + 6) 36 #[.nilIface] := (hb.block _ hC.err.lt).trans hC.err
  have s6 := hC.err.lt
  have hos : Only [N + 5, N + 6] w3 ((w3.setCell ⟨N + 5, 0, none⟩ (.slice (some ⟨go, 0, none⟩) n c)).setCell ⟨N + 6, 0, none⟩ .nilIface) := ((Only.refl _ w3).setCell (p := ⟨N + 5, 0, none⟩) (fun _ => by simp) _).setCell (p := ⟨N + 6, 0, none⟩) (fun _ => by simp) _
  refine ⟨rfl, ho.then_ hos (fun x hx _ => hx), ⟨go, c, ?_, hgo, ha.only hos (by simp; omega)⟩, ?_⟩
  · exact (h5.set_ 0 (.slice (some ⟨go, 0, none⟩) n c)).far (p := ⟨N + 6, 0, none⟩) (by show N + 5 ≠ N + 6; omega) _
  · exact (h6.far (p := ⟨N + 5, 0, none⟩) (by show N + 6 ≠ N + 5; omega) (.slice (some ⟨go, 0, none⟩) n c)).set_ 0 .nilIface
end Go.Proofs.YtkfagcpboehjjaaDoor
