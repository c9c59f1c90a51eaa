/- The reference's next counter, exactly. No condition but where things lie. -/
import Derived.Test.YtkfagcpboehjjaaDoorGn
import Derived.Deep.DeepCutAuto
namespace Go.Proofs.YtkfagcpboehjjaaDoor
set_option maxRecDepth 100000
open Go.RowKit

/-- The four bytes at the end, more by one. -/
def inc4 (f : Nat → Int) : Int := (wd (f 12) (f 13) (f 14) (f 15) + 1) % 4294967296
def nx (f : Nat → Int) : List Int := fst 12 f ++ bo (inc4 f)
abbrev BO (X : Int) : Obj := .cells #[.int .u8 (X / 16777216), .int .u8 (X / 65536 % 256), .int .u8 (X / 256 % 256), .int .u8 (X % 256)] 5

set_option maxHeartbeats 4000000 in
theorem next_any (g c : Nat) (f : Nat → Int) (w : World) (hC : ArrB w g 16 f) (hf : Bf f) (hc : 16 ≤ c) :
    Calls Tryd.prog 34 #[.slice (some ⟨g, 0, none⟩) 16 c] w (RetBytes w (nx f)) := by
  obtain ⟨V, hV⟩ : ∃ V, V = wd (f 12) (f 13) (f 14) (f 15) := ⟨_, rfl⟩
  obtain ⟨X, hX⟩ : ∃ X, X = inc4 f := ⟨_, rfl⟩
  have hX0 : (V + 1) % 4294967296 = X := by rw [hX, hV]; rfl
  have hX1 : IntKind.u32.wrap (V + 1) = X := by rw [IntKind.wrap_u32', hX0]
  have hXb : 0 ≤ X ∧ X ≤ 4294967295 := by omega
  clear hX0
  have hlt := hC.lt
  have hs0 : Src w ⟨g, 12, none⟩ 4 (fun j => f (12 + j)) := hC.src (o := 12) (m := 4) (by omega)
  have hw0 : ∀ W : World, Src W ⟨g, 12, none⟩ 4 (fun j => f (12 + j)) → Calls Tryd.prog 46 #[.slice (some ⟨g, 12, none⟩) 4 (c - 12)] W fun e w' => e = .returned (.int .u32 V) ∧ ∃ m, w' = W.drewN m := fun W h => by
    have := word_any ⟨g, 12, none⟩ 4 (c - 12) (fun j => f (12 + j)) W (by omega) (fun j _ => hf _) h
    rw [← show V = wd (f (12 + 0)) (f (12 + 1)) (f (12 + 2)) (f (12 + 3)) from hV] at this
    exact this
  have hb0 := bytesOf_any X
  have hr0 : Reads w w.heap.size 1 (some ⟨g, 0, none⟩) 12 ((fst 12 f).map (Value.int .u8)) := (hC.upto_ (m := 12) (by omega)).reads
  have l1 : (12 : Int) ≤ (c : Int) := by omega
  have l2 : (16 : Int) ≤ (c : Int) := by omega
  have l3 : ¬ c = 12 := by omega
  have HV := Lib.hid hV
  have HX := Lib.hid hX
  clear hV hX
  have i1 : OwnB (w.drew.alloc (.cells #[] 5)) w.heap.size (.slice (some ⟨w.heap.size, 0, none⟩) 0 0) [] := OwnB.empty w.drew (Nat.le_refl _)
  have hB1 : Below w.heap.size w (w.drew.alloc (.cells #[] 5)) := ((Below.refl w.heap.size w).drew).alloc (Nat.le_refl _) _
  go_enter Tryd.func34, Tryd.ntmps34
  go_wp2_with fail
  go_cut [2] (fun v w' => OwnB w' w.heap.size v (nx f) ∧ Below w.heap.size w w')
  case first =>
    go_region_held3 (fun _ => True) (trivial)
      (first
        | (refine step_app2 _ rfl (.tmp 6) (.tmp 11) rfl w.heap.size v6 (fst 12 f) rfl ((hown6.drewN ma).alloc _) (w6.heap.size + 1) (some ⟨w6.heap.size, 0, none⟩) 4 4 (bo X) rfl (reads_bo X (Nat.le_refl _)) (by rw [fst_length]; decide) (Nat.le_trans hB6.size (by simp)) ?_; intro v8 w8 hown8 hb8 hfar8 hv8)
        | (go_at_call 49; (try rw [hX1]); with_reducible (refine (hb0 _ hXb).mono ?_); rintro e wb ⟨rfl, rfl⟩)
        | (go_at_call 46; refine (hw0 _ (hs0.below hB6 hlt)).mono ?_; rintro e wa ⟨rfl, ma, rfl⟩)
        | (refine step_app2 _ rfl (.tmp 3) (.tmp 5) rfl w.heap.size (.slice (some ⟨w.heap.size, 0, none⟩) 0 0) [] rfl i1 w.heap.size (some ⟨g, 0, none⟩) 12 c (fst 12 f) rfl (hr0.below hB1) (by decide) (by simp) ?_; intro v6 w6 hown6 hb6 hfar6 hv6; have hB6 := hB1.trans hb6; rw [List.nil_append] at hown6))
    go_wp2_with fail
    go_meet
    refine ⟨?_, ((below_drewN hB6 _).alloc (by simpa using hB6.size) _).trans hb8⟩
    unfold nx
    rw [← HX.out]
    exact hown8
  case rest =>
    obtain ⟨h1, h2⟩ := hcut
    go_wp2_with fail
    go_ret
    exact ⟨_, rfl, h1, h2⟩
end Go.Proofs.YtkfagcpboehjjaaDoor
