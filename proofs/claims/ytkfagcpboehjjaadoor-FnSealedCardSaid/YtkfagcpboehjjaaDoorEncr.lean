/- A cipher encrypts a block, exactly. No condition but where things lie. -/
import Derived.Test.YtkfagcpboehjjaaDoorNewc
import Derived.Test.YtkfagcpboehjjaaDoorMode
import Derived.Test.YtkfagcpboehjjaaDoorEnc
namespace Go.Proofs.YtkfagcpboehjjaaDoor
set_option maxRecDepth 100000
open Go.RowKit

set_option maxHeartbeats 1000000 in
theorem encr_any (B a gk g gr gd c : Nat) (ad : Addr) (f rk : Nat → Int) (w : World) (hc : Ciph w B a gk g gr rk) (hB : 7 ≤ B) (hd : ∃ o, ArrB w gd 16 o) (hs : Src w ad 16 f) (hf : Bf f) (ht : Tabs w) (hl : ad.block < w.heap.size)
    (e1 : gd ≠ a) (e2 : gd ≠ gk) (e3 : gd ≠ g) (e4 : gd ≠ gr) (e5 : ad.block ≠ g) :
    Calls Tryd.prog 19 #[.pointer (some ⟨a, 0, none⟩), .slice (some ⟨gd, 0, none⟩) 16 16, .slice (some ad) 16 c] w (Done [g, gr, gd] (fun w' => ArrB w' gd 16 (E rk f) ∧ Ciph w' B a gk g gr rk) w) := by
  have c0 := hc.row.cell 0
  have c1 := hc.row.cell 1
  have c2 := hc.row.cell 2
  simp at c0 c1 c2
  obtain ⟨r1, r2, r3, r4⟩ := hc.lt
  obtain ⟨b1, b2, b3, b4⟩ := hc.lo
  have n1 := hc.n1
  have n2 := hc.n2
  have n3 := hc.n3
  have a1 := hc.a1
  have a2 := hc.a2
  obtain ⟨o1, hb⟩ := hc.b
  obtain ⟨o2, hr⟩ := hc.r
  obtain ⟨o3, hd⟩ := hd
  go_enter Tryd.func19, Tryd.ntmps19
  go_wp2_with fail
  refine region_quiet_tail 14 (by kernel_rfl) (by kernel_rfl) ?_
  simp only [List.take_succ_cons, List.take_zero, List.drop_succ_cons, List.drop_zero]
  repeat (quiet_step (fail))
  refine wpQuiet_nil ?_
  intro _ hw'
  obtain ⟨nq, rfl⟩ := hw'
  go_wp2_with fail
  refine (enc_any gk g gr gd 16 c ad f rk o1 o2 o3 (w.drewN nq) (Nat.le_refl _) hc.k hb hr hd hs hf (ht.keep fun _ _ => rfl) (by show 7 ≤ w.heap.size; omega) hl e5 n1 n2 e3 e4 (by omega)).mono ?_
  rintro e w1 ⟨rfl, ho, hd1, hb1, hr1⟩
  have ho' : Only [g, gr, gd] w w1 := ((Only.refl _ w).drewN nq).then_ ho (by simp)
  have hd2 : ArrB w1 gd 16 (E rk f) := by
    have h := E_impl rk f
    first | exact h ▸ hd1 | (rw [h] at hd1; exact hd1)
  go_wp2_with fail
  simp [bodyPost, results, Tryd.results19]
  refine ⟨rfl, ho', hd2, ?_⟩
  exact ⟨ho'.blk hc.row (by simp; omega), hc.k.only ho' (by simp; omega), hb1, hr1, n1, n2, n3, a1, a2, hc.lo⟩
end Go.Proofs.YtkfagcpboehjjaaDoor
