/- A cipher encrypts a block. No condition but where things lie. -/
import Derived.Test.YteioblloppcjoaaDoorNewc
import Derived.Test.YteioblloppcjoaaDoorCrypt
namespace Go.Proofs.YteioblloppcjoaaDoor
set_option maxRecDepth 100000
open Go.RowKit

set_option maxHeartbeats 1000000 in
theorem encr_any (B a gk g gr gd c : Nat) (ad : Addr) (w : World) (hc : Ciph w B a gk g gr) (hB : 7 ≤ B) (hd : Bys w gd 16) (hs : Src w ad 16) (ht : Tabs w) (hl : ad.block < w.heap.size)
    (e1 : gd ≠ a) (e2 : gd ≠ gk) (e3 : gd ≠ g) (e4 : gd ≠ gr) (e5 : ad.block ≠ g) :
    Calls Tryd.prog 9 #[.pointer (some ⟨a, 0, none⟩), .slice (some ⟨gd, 0, none⟩) 16 16, .slice (some ad) 16 c] w (Done [g, gr, gd] (fun w' => Bys w' gd 16 ∧ Ciph w' B a gk g gr) w) := by
  have c0 := hc.row.cell 0
  have c1 := hc.row.cell 1
  have c2 := hc.row.cell 2
  simp at c0 c1 c2
  obtain ⟨r1, r2, r3, r4⟩ := hc.lt
  obtain ⟨b1, b2, b3, b4⟩ := hc.lo
  have n1 := hc.n1
  have n2 := hc.n2
  have n3 := hc.n3
  have a1 := hc.a1
  have a2 := hc.a2
  go_enter Tryd.func9, Tryd.ntmps9
  go_wp2_with fail
  refine region_quiet_tail 14 (by kernel_rfl) (by kernel_rfl) ?_
  simp only [List.take_succ_cons, List.take_zero, List.drop_succ_cons, List.drop_zero]
  repeat (quiet_step (fail))
  refine wpQuiet_nil ?_
  intro _ hw'
  obtain ⟨nq, rfl⟩ := hw'
  go_wp2_with fail
  refine (crypt_any gk g gr gd 16 c ad (w.drewN nq) (Nat.le_refl _) hc.k hc.b hc.r hd hs (ht.keep fun _ _ => rfl) (by show 7 ≤ w.heap.size; omega) hl e5 n1 n2 e3 e4 (by omega)).mono ?_
  rintro e w1 ⟨rfl, ho, hd1, hb1, hr1⟩
  have ho' : Only [g, gr, gd] w w1 := ((Only.refl _ w).drewN nq).then_ ho (by simp)
  go_wp2_with fail
  simp [bodyPost, results, Tryd.results9]
  refine ⟨rfl, ho', hd1, ?_⟩
  exact ⟨ho'.blk hc.row (by simp; omega), hc.k.only ho' (by simp; omega), hb1, hr1, n1, n2, n3, a1, a2, hc.lo⟩
end Go.Proofs.YteioblloppcjoaaDoor
