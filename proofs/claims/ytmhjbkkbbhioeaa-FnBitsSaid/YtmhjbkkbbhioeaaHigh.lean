/- The first bits of a row; FnBits' walk. No condition. -/
import Derived.Test.YtmhjbkkbbhioeaaShift
import Derived.Test.YtmhjbkkbbhioeaaCalm
import Derived.WalkKit
import Derived.LoopTactic
import Derived.BigQuiet
import Derived.WalkSpells
import Derived.Deep.RegionWith
namespace Go.Proofs.Ytmhjbkkbbhioeaa
open Go.RowKit

theorem msb_any (k : Nat) (A : Option Addr) (c : Nat) (w : World) (hk : k ≤ 16) (hc : 16 ≤ c) (hm : c ≤ maxLen) (a : Addr) (hA : A = some a) :
    Calls Try.prog 20 #[.int .i64 (8 * (k : Int)), .slice A 16 c] w fun e w' => e = .returned (.slice A k c) ∧ w' = w := by
  subst hA
  unfold maxLen at hm
  have h1 : (k : Int) ≤ 16 := by omega
  have h2 : (8 * (k : Int)).tdiv 8 = (k : Int) := by rw [Int.tdiv_eq_ediv_of_nonneg (by omega)]; omega
  have h3 : (0 : Int) ≤ (k : Int) := by omega
  go_enter Try.func20, Try.ntmps20
  go_wp2_with fail
  go_ret
  exact ⟨rfl, rfl⟩

theorem inner_any (k : Nat) (a : Addr) (c g1 g2 g3 : Nat) (w : World) (hk : k ≤ 16) (hc : 16 ≤ c) (hm : c ≤ maxLen)
    (h1 : w.cell? ⟨g1, 0, none⟩ = some (.int .i64 (8 * (k : Int)))) (h2 : w.cell? ⟨g2, 0, none⟩ = some (.slice (some a) 16 c))
    (h3 : w.cell? ⟨g3, 0, none⟩ = some (.slice none 0 0)) (h4 : w.frozen? ⟨g3, 0, none⟩ = false) :
    Calls Try.prog 19 #[.pointer (some ⟨g1, 0, none⟩), .pointer (some ⟨g2, 0, none⟩), .pointer (some ⟨g3, 0, none⟩)] w fun e w' => e = .returned (.tuple #[]) ∧ w' = w.setCell ⟨g3, 0, none⟩ (.slice (some a) k c) := by
  go_enter Try.func19, Try.ntmps19
  go_wp2_with fail
  refine (msb_any k (some a) c w hk hc hm a rfl).mono ?_
  rintro e w' ⟨rfl, rfl⟩
  go_wp2_with fail
  go_end0
  exact ⟨rfl, rfl⟩

theorem Reads.first {w : World} {B n k : Nat} {A : Option Addr} {xs : List Value} (h : Reads w B 1 A n xs) (hk : k ≤ n) : Reads w B 1 A k (xs.take k) :=
  ⟨by have := h.1; rw [List.length_take]; omega, fun h0 => by
    obtain ⟨ad, e, hb, hc⟩ := h.2 (by omega)
    refine ⟨ad, e, hb, fun j u hu => hc j u ?_⟩
    rw [List.getElem?_take] at hu
    split at hu
    · exact hu
    · cases hu⟩

theorem OwnB.setLow {w : World} {base : Nat} {v : Value} {l : List Int} (h : OwnB w base v l) {p : Addr} (hp : p.block < base) (u : Value) : OwnB (w.setCell p u) base v l :=
  World.ownsRow.kept (row := some p.block) h ⟨rfl, rfl, rfl, by simp [World.setCell], fun k _ hne => Below.heap_setCell w p u k (fun e => hne (by rw [e]))⟩ (by
    rcases h.2 with ⟨rfl, _⟩ | ⟨g, cap, cur, rfl, hb, _⟩
    · exact .inl rfl
    · refine .inr ?_
      simp [Value.ownBlock]
      omega)

theorem highbits_any (k : Nat) (A : Option Addr) (c : Nat) (l : List Int) (w : World) (hk : k ≤ 16) (hc : 16 ≤ c) (hm : c ≤ maxLen) (hr : Reads w w.heap.size 1 A 16 (l.map (Value.int .u8))) :
    Calls Try.prog 10 #[.int .i64 (8 * (k : Int)), .slice A 16 c] w (RetBytes w (l.take k)) := by
  obtain ⟨a, ha, hab, hcell⟩ := hr.2 (by omega)
  subst ha
  have hmf : ∀ (fn : Fn) (first cap : Array Value) (w : World), (Instr.makeFunc fn first cap).run Try.prog w = .ok (.func fn first cap) w := fun _ _ _ _ => rfl
  go_enter Try.func10, Try.ntmps10
  go_wp2_with fail
  have hb0 : Below w.heap.size w (((w.alloc (.cells #[.int .i64 (8 * (k : Int))] 3)).alloc (.cells #[.slice (some a) 16 c] 24)).alloc (.cells #[.slice none 0 0] 24)) :=
    (((Below.refl _ _).alloc (Nat.le_refl _) _).alloc (by simp) _).alloc (by simp; omega) _
  have B0 : Blk (((w.alloc (.cells #[.int .i64 (8 * (k : Int))] 3)).alloc (.cells #[.slice (some a) 16 c] 24)).alloc (.cells #[.slice none 0 0] 24)) w.heap.size 3 #[.int .i64 (8 * (k : Int))] := ((Blk.new w 3 _).alloc _).alloc _
  have B1 : Blk (((w.alloc (.cells #[.int .i64 (8 * (k : Int))] 3)).alloc (.cells #[.slice (some a) 16 c] 24)).alloc (.cells #[.slice none 0 0] 24)) (w.heap.size + 1) 24 #[.slice (some a) 16 c] := by
    have := (Blk.new (w.alloc (.cells #[.int .i64 (8 * (k : Int))] 3)) 24 #[.slice (some a) 16 c]).alloc (.cells #[.slice none 0 0] 24)
    simpa using this
  have B2 : Blk (((w.alloc (.cells #[.int .i64 (8 * (k : Int))] 3)).alloc (.cells #[.slice (some a) 16 c] 24)).alloc (.cells #[.slice none 0 0] 24)) (w.heap.size + 1 + 1) 24 #[.slice none 0 0] := by
    have := Blk.new ((w.alloc (.cells #[.int .i64 (8 * (k : Int))] 3)).alloc (.cells #[.slice (some a) 16 c] 24)) 24 #[.slice none 0 0]
    simpa using this
  have hs0 : (((w.alloc (.cells #[.int .i64 (8 * (k : Int))] 3)).alloc (.cells #[.slice (some a) 16 c] 24)).alloc (.cells #[.slice none 0 0] 24)).heap.size = w.heap.size + 1 + 1 + 1 := by simp
  generalize ((w.alloc (.cells #[.int .i64 (8 * (k : Int))] 3)).alloc (.cells #[.slice (some a) 16 c] 24)).alloc (.cells #[.slice none 0 0] 24) = W at *
  refine (calm_any 19 _ (fun w' => Below w.heap.size w w' ∧ Blk w' (w.heap.size + 1 + 1) 24 #[.slice (some a) k c] ∧ w.heap.size + 1 + 1 + 1 ≤ w'.heap.size) W (fun _ => by kernel_rfl) ?_).mono ?_
  · refine (inner_any k a c _ _ _ _ hk hc hm ((B0.alloc _).cell 0) ((B1.alloc _).cell 0) ((B2.alloc _).cell 0) ((B2.alloc _).frozen 0)).mono ?_
    rintro e w' ⟨rfl, rfl⟩
    refine ⟨rfl, (Blk.new W 4 _).far (by simp; omega) _, (hb0.alloc (by omega) _).setCell (by simp; omega) _, (B2.alloc _).set_ 0 _, by simp [World.setCell]; omega⟩
  rintro e w'' ⟨rfl, w', ⟨hb1, B3, hs1⟩, rfl⟩
  have hb2 : Below w.heap.size w (w'.setCell ⟨W.heap.size, 0, none⟩ (.bool true)) := hb1.setCell (by simp; omega) _
  have B4 := B3.far (p := ⟨W.heap.size, 0, none⟩) (by simp; omega) (.bool true)
  have hs2 : w.heap.size + 1 + 1 + 1 ≤ (w'.setCell ⟨W.heap.size, 0, none⟩ (.bool true)).heap.size := by simpa [World.setCell] using hs1
  generalize w'.setCell ⟨W.heap.size, 0, none⟩ (.bool true) = V at *
  clear hb0 B0 B1 B2 hs0 hb1 B3 hs1
  have c4 := B4.cell 0
  have f4 := B4.frozen 0
  simp only [List.getElem?_toArray, List.getElem?_cons_zero] at c4
  go_wp2_with fail
  have hr2 : Reads V V.heap.size 1 (some a) k ((l.take k).map (Value.int .u8)) := by
    rw [List.map_take]; exact ((hr.below hb2).more hb2.size).first hk
  refine (own_any (some a) k c _ V hr2 (by omega)).mono ?_
  rintro e w3 ⟨v, rfl, hv, hB3⟩
  obtain ⟨A3, c3, e3⟩ := hv.shaped
  rw [show (l.take k).length = k by have := hr.1; rw [List.length_map] at this; rw [List.length_take]; omega] at e3
  subst e3
  have B5 := B4.below hB3 (by omega)
  have c5 := B5.cell 0
  have f5 := B5.frozen 0
  simp only [List.getElem?_toArray, List.getElem?_cons_zero] at c5
  have hlate := (B5.set_ 0 (.slice A3 k c3)).cell 0
  have hv2 := hv.setLow (p := ⟨w.heap.size + 1 + 1, 0, none⟩) (by simp; omega) (.slice A3 k c3)
  have hB4 : Below w.heap.size w (w3.setCell ⟨w.heap.size + 1 + 1, 0, none⟩ (.slice A3 k c3)) := (hb2.trans (hB3.mono hb2.size)).setCell (by simp; omega) _
  simp only [List.setIfInBounds_toArray, List.set_cons_zero, List.getElem?_toArray, List.getElem?_cons_zero] at hlate
  go_wp2_with fail
  refine bodyPost_ret (v := .slice A3 k c3) ?_ rfl ⟨_, rfl, hv2.lift (by omega), hB4⟩
  simp [results, Try.results10, go_sem, hlate]

theorem same_first {w : World} {B k c1 c : Nat} {A1 A : Option Addr} {l : List Int} (hv : OwnB w B (.slice A1 k c1) (l.take k)) (hlk : (l.take k).length = k) (hR : Reads w w.heap.size 1 A 16 (l.map (Value.int .u8))) (hk : k ≤ 16) :
    Calls Try.prog 8 #[.slice A1 k c1, .slice A k c] w fun e w' => e = .returned (.bool true) ∧ w = w' :=
  same_any A1 k c1 A k c (l.take k) w (by have := hv.reads.2; rwa [hlk] at this) (by rw [List.map_take]; exact hR.first hk)

end Go.Proofs.Ytmhjbkkbbhioeaa
