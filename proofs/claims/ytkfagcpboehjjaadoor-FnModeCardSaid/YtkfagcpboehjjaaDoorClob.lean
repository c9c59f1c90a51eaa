/- The closure within the call: the four modes, back, exactly. No condition but where things lie. -/
import Derived.Test.YtkfagcpboehjjaaDoorEcbb
import Derived.Test.YtkfagcpboehjjaaDoorCbcb
import Derived.Test.YtkfagcpboehjjaaDoorCfbb
import Derived.Test.YtkfagcpboehjjaaDoorOfbb
import Derived.Test.YtkfagcpboehjjaaDoorClo
namespace Go.Proofs.YtkfagcpboehjjaaDoor
set_option maxRecDepth 100000
open Go.RowKit

set_option maxHeartbeats 4000000 in
theorem clos_ecbb (N : Nat) (K : Addr) (ck : Nat) (V : Option Addr) (nv cv : Nat) (A : Option Addr) (c : Nat) (kf iv : Nat → Int) (l : List Int) (k : Nat) (d : Nat → Int) (w : World) (hC : Capt w N 1 (.slice (some K) 16 ck) (.slice V nv cv) (.slice A (16 * k) c) true)
    (hK : Src w K 16 kf) (hKf : Bf kf) (hKl : K.block < w.heap.size) (ht : Tabs w) (h7 : 7 ≤ w.heap.size) (hD : Reads w w.heap.size 1 A (16 * k) ((fst (16 * k) d).map (Value.int .u8))) (hdf : Bf d) (hk0 : 0 < k) (hk4 : k ≤ 63) (hpl : (padL l).length = 16 * k) (hback : ∀ p, p < 16 * k → pick (mO 1 (keyF kf) iv d true) p = lF (padL l) p) :
    Calls Tryd.prog 16 #[.pointer (some ⟨N, 0, none⟩), .pointer (some ⟨N + 1, 0, none⟩), .pointer (some ⟨N + 6, 0, none⟩), .pointer (some ⟨N + 5, 0, none⟩), .pointer (some ⟨N + 4, 0, none⟩), .pointer (some ⟨N + 3, 0, none⟩), .pointer (some ⟨N + 2, 0, none⟩)] w
      (ClosDone N l.length (lF l) w) := by
  obtain ⟨c0, c1, c2, c3, c4, c5, c6⟩ := hC.cells
  have f5 := hC.out.frozen 0
  have f6 := hC.err.frozen 0
  have s6 := hC.err.lt
  go_enter Tryd.func16, Tryd.ntmps16
  go_wp2_with fail
  go_region_held3 (fun w' => w'.cell? ⟨N + 1, 0, none⟩ = some (.slice (some K) 16 ck) ∧ w'.cell? ⟨N + 2, 0, none⟩ = some (.slice V nv cv) ∧ w'.cell? ⟨N + 3, 0, none⟩ = some (.slice A (16 * k) c) ∧ w'.cell? ⟨N + 4, 0, none⟩ = some (.bool true))
    (first | go_keep | exact ⟨(hbx.cell (p := ⟨N + 1, 0, none⟩) (by show N + 1 < w.heap.size; omega)).trans c1, (hbx.cell (p := ⟨N + 2, 0, none⟩) (by show N + 2 < w.heap.size; omega)).trans c2, (hbx.cell (p := ⟨N + 3, 0, none⟩) (by show N + 3 < w.heap.size; omega)).trans c3, (hbx.cell (p := ⟨N + 4, 0, none⟩) (by show N + 4 < w.heap.size; omega)).trans c4⟩)
    (first
      | (go_at_call 20; refine (ecb_back iv K ck kf d g2 k cc2 w.heap.size l w2 (hK.below hbz hKl) hKf hKl (ht.of_below hbz h7) h7 hbz.size hcc2 hk4 hgg2 harr2 hdf hpl hback).mono ?_; rintro e w3 ⟨go, cc3, rfl, hgo, harr, hb3⟩; have hbx : Below w.heap.size w w3 := hbz.trans hb3; have hgo2 := hgo; have hbw := hbx; have k5 := (hbx.cell (p := ⟨N + 5, 0, none⟩) (by show N + 5 < w.heap.size; omega)).trans c5; have k6 := (hbx.cell (p := ⟨N + 6, 0, none⟩) s6).trans c6; have y5 := (hbx.frozen (p := ⟨N + 5, 0, none⟩) (by show N + 5 < w.heap.size; omega)).trans f5; have y6 := (hbx.frozen (p := ⟨N + 6, 0, none⟩) s6).trans f6)
      | (go_at_call 21; refine (owna_any A (16 * k) c d w.drew hD (by omega) (by omega)).mono ?_; rintro e w2 ⟨g2, cc2, rfl, hcc2, hgg2, harr2, hb2⟩; have hbx : Below w.heap.size w w2 := (Below.refl w.heap.size w).drew.trans hb2; have hbz := hbx))
  go_wp2_with fail
  simp [bodyPost, results, Tryd.results16]
  exact clos_end hC hbw hgo2 harr
set_option maxHeartbeats 4000000 in
theorem clos_cbcb (N : Nat) (K : Addr) (ck : Nat) (V : Option Addr) (cv : Nat) (A : Option Addr) (c : Nat) (kf iv : Nat → Int) (l : List Int) (k : Nat) (d : Nat → Int) (w : World) (hC : Capt w N 2 (.slice (some K) 16 ck) (.slice V 16 cv) (.slice A (16 * k) c) true)
    (hK : Src w K 16 kf) (hKf : Bf kf) (hKl : K.block < w.heap.size) (ht : Tabs w) (h7 : 7 ≤ w.heap.size)
    (hV : Reads w w.heap.size 1 V 16 ((fst 16 iv).map (Value.int .u8)))  (hD : Reads w w.heap.size 1 A (16 * k) ((fst (16 * k) d).map (Value.int .u8))) (hdf : Bf d) (hk0 : 0 < k) (hk4 : k ≤ 63) (hpl : (padL l).length = 16 * k) (hback : ∀ p, p < 16 * k → pick (mO 2 (keyF kf) iv d true) p = lF (padL l) p) :
    Calls Tryd.prog 16 #[.pointer (some ⟨N, 0, none⟩), .pointer (some ⟨N + 1, 0, none⟩), .pointer (some ⟨N + 6, 0, none⟩), .pointer (some ⟨N + 5, 0, none⟩), .pointer (some ⟨N + 4, 0, none⟩), .pointer (some ⟨N + 3, 0, none⟩), .pointer (some ⟨N + 2, 0, none⟩)] w
      (ClosDone N l.length (lF l) w) := by
  obtain ⟨c0, c1, c2, c3, c4, c5, c6⟩ := hC.cells
  have f5 := hC.out.frozen 0
  have f6 := hC.err.frozen 0
  have s6 := hC.err.lt
  go_enter Tryd.func16, Tryd.ntmps16
  go_wp2_with fail
  go_region_held3 (fun w' => w'.cell? ⟨N + 1, 0, none⟩ = some (.slice (some K) 16 ck) ∧ w'.cell? ⟨N + 2, 0, none⟩ = some (.slice V 16 cv) ∧ w'.cell? ⟨N + 3, 0, none⟩ = some (.slice A (16 * k) c) ∧ w'.cell? ⟨N + 4, 0, none⟩ = some (.bool true))
    (first | go_keep | exact ⟨(hbx.cell (p := ⟨N + 1, 0, none⟩) (by show N + 1 < w.heap.size; omega)).trans c1, (hbx.cell (p := ⟨N + 2, 0, none⟩) (by show N + 2 < w.heap.size; omega)).trans c2, (hbx.cell (p := ⟨N + 3, 0, none⟩) (by show N + 3 < w.heap.size; omega)).trans c3, (hbx.cell (p := ⟨N + 4, 0, none⟩) (by show N + 4 < w.heap.size; omega)).trans c4⟩)
    (first
      | (go_at_call 22; refine (cbc_back ⟨g1, 0, none⟩ cc1 iv K ck kf d g2 k cc2 w1.heap.size l w2 (hs1.below hb2 hl1) hl1 (hK.below hbz hKl) hKf (by have := hby.size; omega) (ht.of_below hbz h7) (by have := hby.size; omega) hb2.size hcc2 hk4 hgg2 harr2 hdf hpl hback).mono ?_; rintro e w3 ⟨go, cc3, rfl, hgo, harr, hb3⟩; have hbx : Below w.heap.size w w3 := hbz.trans (hb3.mono hby.size); have hgo2 : w.heap.size ≤ go := Nat.le_trans hby.size hgo; have hbw := hbx; have k5 := (hbx.cell (p := ⟨N + 5, 0, none⟩) (by show N + 5 < w.heap.size; omega)).trans c5; have k6 := (hbx.cell (p := ⟨N + 6, 0, none⟩) s6).trans c6; have y5 := (hbx.frozen (p := ⟨N + 5, 0, none⟩) (by show N + 5 < w.heap.size; omega)).trans f5; have y6 := (hbx.frozen (p := ⟨N + 6, 0, none⟩) s6).trans f6)
      | (go_at_call 21; refine (owna_any A (16 * k) c d w1 ((hD.below hby).more hby.size) (by omega) (by omega)).mono ?_; rintro e w2 ⟨g2, cc2, rfl, hcc2, hgg2, harr2, hb2⟩; have hbx : Below w.heap.size w w2 := hby.trans (hb2.mono hby.size); have hbz := hbx)
      | (go_at_call 21; refine (own16_any V cv iv w.drew hV).mono ?_; rintro e w1 ⟨g1, cc1, rfl, hg1, hs1, hl1, hb1⟩; have hbx : Below w.heap.size w w1 := (Below.refl w.heap.size w).drew.trans hb1; have hby := hbx))
  go_wp2_with fail
  simp [bodyPost, results, Tryd.results16]
  exact clos_end hC hbw hgo2 harr
set_option maxHeartbeats 4000000 in
theorem clos_cfbb (N : Nat) (K : Addr) (ck : Nat) (V : Option Addr) (cv : Nat) (A : Option Addr) (c : Nat) (kf iv : Nat → Int) (l : List Int) (k : Nat) (d : Nat → Int) (w : World) (hC : Capt w N 3 (.slice (some K) 16 ck) (.slice V 16 cv) (.slice A (16 * k) c) true)
    (hK : Src w K 16 kf) (hKf : Bf kf) (hKl : K.block < w.heap.size) (ht : Tabs w) (h7 : 7 ≤ w.heap.size)
    (hV : Reads w w.heap.size 1 V 16 ((fst 16 iv).map (Value.int .u8))) (hvf : Bf iv)  (hD : Reads w w.heap.size 1 A (16 * k) ((fst (16 * k) d).map (Value.int .u8))) (hdf : Bf d) (hk0 : 0 < k) (hk4 : k ≤ 63) (hpl : (padL l).length = 16 * k) (hback : ∀ p, p < 16 * k → pick (mO 3 (keyF kf) iv d true) p = lF (padL l) p) :
    Calls Tryd.prog 16 #[.pointer (some ⟨N, 0, none⟩), .pointer (some ⟨N + 1, 0, none⟩), .pointer (some ⟨N + 6, 0, none⟩), .pointer (some ⟨N + 5, 0, none⟩), .pointer (some ⟨N + 4, 0, none⟩), .pointer (some ⟨N + 3, 0, none⟩), .pointer (some ⟨N + 2, 0, none⟩)] w
      (ClosDone N l.length (lF l) w) := by
  obtain ⟨c0, c1, c2, c3, c4, c5, c6⟩ := hC.cells
  have f5 := hC.out.frozen 0
  have f6 := hC.err.frozen 0
  have s6 := hC.err.lt
  go_enter Tryd.func16, Tryd.ntmps16
  go_wp2_with fail
  go_region_held3 (fun w' => w'.cell? ⟨N + 1, 0, none⟩ = some (.slice (some K) 16 ck) ∧ w'.cell? ⟨N + 2, 0, none⟩ = some (.slice V 16 cv) ∧ w'.cell? ⟨N + 3, 0, none⟩ = some (.slice A (16 * k) c) ∧ w'.cell? ⟨N + 4, 0, none⟩ = some (.bool true))
    (first | go_keep | exact ⟨(hbx.cell (p := ⟨N + 1, 0, none⟩) (by show N + 1 < w.heap.size; omega)).trans c1, (hbx.cell (p := ⟨N + 2, 0, none⟩) (by show N + 2 < w.heap.size; omega)).trans c2, (hbx.cell (p := ⟨N + 3, 0, none⟩) (by show N + 3 < w.heap.size; omega)).trans c3, (hbx.cell (p := ⟨N + 4, 0, none⟩) (by show N + 4 < w.heap.size; omega)).trans c4⟩)
    (first
      | (go_at_call 23; refine (cfb_back ⟨g1, 0, none⟩ cc1 iv K ck kf d g2 k cc2 w1.heap.size l w2 (hs1.below hb2 hl1) hvf hl1 (hK.below hbz hKl) hKf (by have := hby.size; omega) (ht.of_below hbz h7) (by have := hby.size; omega) hb2.size hcc2 hk4 hgg2 harr2 hdf hpl hback).mono ?_; rintro e w3 ⟨go, cc3, rfl, hgo, harr, hb3⟩; have hbx : Below w.heap.size w w3 := hbz.trans (hb3.mono hby.size); have hgo2 : w.heap.size ≤ go := Nat.le_trans hby.size hgo; have hbw := hbx; have k5 := (hbx.cell (p := ⟨N + 5, 0, none⟩) (by show N + 5 < w.heap.size; omega)).trans c5; have k6 := (hbx.cell (p := ⟨N + 6, 0, none⟩) s6).trans c6; have y5 := (hbx.frozen (p := ⟨N + 5, 0, none⟩) (by show N + 5 < w.heap.size; omega)).trans f5; have y6 := (hbx.frozen (p := ⟨N + 6, 0, none⟩) s6).trans f6)
      | (go_at_call 21; refine (owna_any A (16 * k) c d w1 ((hD.below hby).more hby.size) (by omega) (by omega)).mono ?_; rintro e w2 ⟨g2, cc2, rfl, hcc2, hgg2, harr2, hb2⟩; have hbx : Below w.heap.size w w2 := hby.trans (hb2.mono hby.size); have hbz := hbx)
      | (go_at_call 21; refine (own16_any V cv iv w.drew hV).mono ?_; rintro e w1 ⟨g1, cc1, rfl, hg1, hs1, hl1, hb1⟩; have hbx : Below w.heap.size w w1 := (Below.refl w.heap.size w).drew.trans hb1; have hby := hbx))
  go_wp2_with fail
  simp [bodyPost, results, Tryd.results16]
  exact clos_end hC hbw hgo2 harr
set_option maxHeartbeats 4000000 in
theorem clos_ofbb (N : Nat) (K : Addr) (ck : Nat) (V : Option Addr) (cv : Nat) (A : Option Addr) (c : Nat) (kf iv : Nat → Int) (l : List Int) (k : Nat) (d : Nat → Int) (w : World) (hC : Capt w N 4 (.slice (some K) 16 ck) (.slice V 16 cv) (.slice A (16 * k) c) true)
    (hK : Src w K 16 kf) (hKf : Bf kf) (hKl : K.block < w.heap.size) (ht : Tabs w) (h7 : 7 ≤ w.heap.size)
    (hV : Reads w w.heap.size 1 V 16 ((fst 16 iv).map (Value.int .u8))) (hvf : Bf iv)  (hD : Reads w w.heap.size 1 A (16 * k) ((fst (16 * k) d).map (Value.int .u8))) (hk0 : 0 < k) (hk4 : k ≤ 63) (hpl : (padL l).length = 16 * k) (hback : ∀ p, p < 16 * k → pick (mO 4 (keyF kf) iv d true) p = lF (padL l) p) :
    Calls Tryd.prog 16 #[.pointer (some ⟨N, 0, none⟩), .pointer (some ⟨N + 1, 0, none⟩), .pointer (some ⟨N + 6, 0, none⟩), .pointer (some ⟨N + 5, 0, none⟩), .pointer (some ⟨N + 4, 0, none⟩), .pointer (some ⟨N + 3, 0, none⟩), .pointer (some ⟨N + 2, 0, none⟩)] w
      (ClosDone N l.length (lF l) w) := by
  obtain ⟨c0, c1, c2, c3, c4, c5, c6⟩ := hC.cells
  have f5 := hC.out.frozen 0
  have f6 := hC.err.frozen 0
  have s6 := hC.err.lt
  go_enter Tryd.func16, Tryd.ntmps16
  go_wp2_with fail
  go_region_held3 (fun w' => w'.cell? ⟨N + 1, 0, none⟩ = some (.slice (some K) 16 ck) ∧ w'.cell? ⟨N + 2, 0, none⟩ = some (.slice V 16 cv) ∧ w'.cell? ⟨N + 3, 0, none⟩ = some (.slice A (16 * k) c) ∧ w'.cell? ⟨N + 4, 0, none⟩ = some (.bool true))
    (first | go_keep | exact ⟨(hbx.cell (p := ⟨N + 1, 0, none⟩) (by show N + 1 < w.heap.size; omega)).trans c1, (hbx.cell (p := ⟨N + 2, 0, none⟩) (by show N + 2 < w.heap.size; omega)).trans c2, (hbx.cell (p := ⟨N + 3, 0, none⟩) (by show N + 3 < w.heap.size; omega)).trans c3, (hbx.cell (p := ⟨N + 4, 0, none⟩) (by show N + 4 < w.heap.size; omega)).trans c4⟩)
    (first
      | (go_at_call 24; refine (ofb_back ⟨g1, 0, none⟩ cc1 iv K ck kf d g2 k cc2 w1.heap.size l w2 (hs1.below hb2 hl1) hvf hl1 (hK.below hbz hKl) hKf (by have := hby.size; omega) (ht.of_below hbz h7) (by have := hby.size; omega) hb2.size hcc2 hk4 hgg2 harr2 hpl hback).mono ?_; rintro e w3 ⟨go, cc3, rfl, hgo, harr, hb3⟩; have hbx : Below w.heap.size w w3 := hbz.trans (hb3.mono hby.size); have hgo2 : w.heap.size ≤ go := Nat.le_trans hby.size hgo; have hbw := hbx; have k5 := (hbx.cell (p := ⟨N + 5, 0, none⟩) (by show N + 5 < w.heap.size; omega)).trans c5; have k6 := (hbx.cell (p := ⟨N + 6, 0, none⟩) s6).trans c6; have y5 := (hbx.frozen (p := ⟨N + 5, 0, none⟩) (by show N + 5 < w.heap.size; omega)).trans f5; have y6 := (hbx.frozen (p := ⟨N + 6, 0, none⟩) s6).trans f6)
      | (go_at_call 21; refine (owna_any A (16 * k) c d w1 ((hD.below hby).more hby.size) (by omega) (by omega)).mono ?_; rintro e w2 ⟨g2, cc2, rfl, hcc2, hgg2, harr2, hb2⟩; have hbx : Below w.heap.size w w2 := hby.trans (hb2.mono hby.size); have hbz := hbx)
      | (go_at_call 21; refine (own16_any V cv iv w.drew hV).mono ?_; rintro e w1 ⟨g1, cc1, rfl, hg1, hs1, hl1, hb1⟩; have hbx : Below w.heap.size w w1 := (Below.refl w.heap.size w).drew.trans hb1; have hby := hbx))
  go_wp2_with fail
  simp [bodyPost, results, Tryd.results16]
  exact clos_end hC hbw hgo2 harr
end Go.Proofs.YtkfagcpboehjjaaDoor
