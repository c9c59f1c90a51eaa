/- One block, through the package's call: done, or refused. No condition but where things lie. -/
import Derived.Test.YtkfagcpboehjjaaDoorImp
import Derived.Test.YtkfagcpboehjjaaDoorItob
import Derived.Test.YtkfagcpboehjjaaDoorEncr
import Derived.Test.YtkfagcpboehjjaaDoorDecr
import Derived.Outline
namespace Go.Proofs.YtkfagcpboehjjaaDoor
set_option maxRecDepth 100000
open Go.RowKit

/-- A key of another length. -/
theorem newc_no (K : Option Addr) (nk ck : Nat) (x : Int) (w : World) (h1 : nk ≠ 16) (h2 : nk ≤ 100) (hx : w.cell? ⟨7, 2, none⟩ = some (.int .u64 x)) (h8 : 8 ≤ w.heap.size) :
    Calls Tryd.prog 17 #[.slice K nk ck] w (fun e w' => ∃ v, e = .returned (.tuple #[.pointer none, .iface 71 v]) ∧ Only [] w w') := by
  have l1 : ((nk : Int) != 16) = true := by simp; omega
  have l2 : ¬ ((nk : Int) = 16) := by omega
  go_enter Tryd.func17, Tryd.ntmps17
  go_wp2_with (first | (go_at_call 40; refine (itoa_any nk x w h2 hx h8).mono ?_; rintro e w' ⟨s, rfl, hs, ho⟩; have hs' : s.size ≤ 100 := hs) | (go_at_call 39; refine (new_any _ _).mono ?_; rintro e w2 ⟨v, rfl, ho2⟩))
  go_ret2
  exact ⟨v, rfl, ho.trans ho2⟩

/-- The closure is done, and refused. -/
def ClosNo (N : Nat) (w : World) (e : Ending) (w' : World) : Prop :=
  e = .returned (.tuple #[]) ∧ Only [N + 6] w w' ∧ ∃ v, Blk w' (N + 6) 36 #[.iface 71 v]

set_option maxHeartbeats 1000000 in
theorem clos_no (N : Nat) (K : Option Addr) (nk ck : Nat) (V : Option Addr) (nv cv : Nat) (A : Option Addr) (n c : Nat) (bk : Bool) (x : Int) (w : World) (hC : Capt w N 0 (.slice K nk ck) (.slice V nv cv) (.slice A n c) bk)
    (h1 : nk ≠ 16) (h2 : nk ≤ 100) (hx : w.cell? ⟨7, 2, none⟩ = some (.int .u64 x)) (h8 : 8 ≤ w.heap.size) :
    Calls Tryd.prog 16 #[.pointer (some ⟨N, 0, none⟩), .pointer (some ⟨N + 1, 0, none⟩), .pointer (some ⟨N + 6, 0, none⟩), .pointer (some ⟨N + 5, 0, none⟩), .pointer (some ⟨N + 4, 0, none⟩), .pointer (some ⟨N + 3, 0, none⟩), .pointer (some ⟨N + 2, 0, none⟩)] w (ClosNo N w) := by
  obtain ⟨c0, c1, c2, c3, c4, c5, c6⟩ := hC.cells
  have f6 := hC.err.frozen 0
  go_enter Tryd.func16, Tryd.ntmps16
  go_wp2_with fail
  refine (newc_no K nk ck x w h1 h2 hx h8).mono ?_
  rintro e w1 ⟨v, rfl, ho⟩
  have hb := ho.blk hC.err (by simp)
  have k6 := hb.cell 0
  have y6 := hb.frozen 0
  simp at k6
  have hlate := (hb.set_ 0 (.iface 71 v)).cell 0
  simp at hlate
  go_wp2_with fail
  simp [bodyPost, results, Tryd.results16]
  exact ⟨rfl, (ho.mono (S' := [N + 6]) (by simp)).then_ ((Only.refl [N + 6] w1).setCell (p := ⟨N + 6, 0, none⟩) (fun _ => by simp) _) (fun x hx _ => hx), v, hb.set_ 0 (.iface 71 v)⟩

set_option maxHeartbeats 1000000 in
theorem clos_blk (N : Nat) (K : Addr) (ck : Nat) (V : Option Addr) (nv cv : Nat) (ad : Addr) (c : Nat) (bk : Bool) (kf f : Nat → Int) (w : World) (hC : Capt w N 0 (.slice (some K) 16 ck) (.slice V nv cv) (.slice (some ad) 16 c) bk)
    (hK : Src w K 16 kf) (hKf : Bf kf) (hKl : K.block < w.heap.size) (ht : Tabs w) (h7 : 7 ≤ w.heap.size) (hD : Src w ad 16 f) (hf : Bf f) (hl : ad.block < w.heap.size) (hK5 : ad.block ≠ N + 5 ∧ ad.block ≠ N + 6) (hN7 : 7 ≤ N) :
    Calls Tryd.prog 16 #[.pointer (some ⟨N, 0, none⟩), .pointer (some ⟨N + 1, 0, none⟩), .pointer (some ⟨N + 6, 0, none⟩), .pointer (some ⟨N + 5, 0, none⟩), .pointer (some ⟨N + 4, 0, none⟩), .pointer (some ⟨N + 3, 0, none⟩), .pointer (some ⟨N + 2, 0, none⟩)] w
      (ClosDone N 16 (DE bk (keyF kf) f) w) := by
  obtain ⟨c0, c1, c2, c3, c4, c5, c6⟩ := hC.cells
  have f6 := hC.err.frozen 0
  have m1 := makeB16
  cases bk
  · go_enter Tryd.func16, Tryd.ntmps16
    go_wp2_with fail
    refine (newc_any K ck kf w hK hKf ht h7 hKl).mono ?_
    rintro e w1 ⟨a, gk, g, gr, rfl, hcp, ho⟩
    have hC1 := hC.only ho
    obtain ⟨d0, d1, d2, d3, d4, d5, d6⟩ := hC1.cells
    have y6 := hC1.err.frozen 0
    have y5 := hC1.out.frozen 0
    have s6 := hC1.err.lt
    have s5 : N + 5 < w1.heap.size := by omega
    have s4 : N + 4 < w1.heap.size := by omega
    have s3 : N + 3 < w1.heap.size := by omega
    have z6 := hC.err.lt
    have hos : Only [N + 5, N + 6] w1 ((w1.setCell ⟨N + 6, 0, none⟩ .nilIface).setCell ⟨N + 5, 0, none⟩ (.slice (some ⟨w1.heap.size, 0, none⟩) 16 16)) := ((Only.refl _ w1).setCell (p := ⟨N + 6, 0, none⟩) (fun _ => by simp) _).setCell (p := ⟨N + 5, 0, none⟩) (fun _ => by simp) _
    have hb6 := (hC1.err.set_ 0 .nilIface).far (p := ⟨N + 5, 0, none⟩) (by show N + 6 ≠ N + 5; omega) (.slice (some ⟨w1.heap.size, 0, none⟩) 16 16)
    have hb5 := (hC1.out.far (p := ⟨N + 6, 0, none⟩) (by show N + 5 ≠ N + 6; omega) .nilIface).set_ 0 (.slice (some ⟨w1.heap.size, 0, none⟩) 16 16)
    go_wp2_with fail
    generalize hWs : (w1.setCell ⟨N + 6, 0, none⟩ .nilIface).setCell ⟨N + 5, 0, none⟩ (.slice (some ⟨w1.heap.size, 0, none⟩) 16 16) = Ws at *
    have hsz : Ws.heap.size = w1.heap.size := by rw [← hWs]; simp
    have hoW : Only [N + 5, N + 6] w1 (Ws.alloc (.cells (ZB 16) 5)) := hos.alloc _
    have hgd := ArrB.new Ws 16
    rw [hsz] at hgd
    obtain ⟨r1, r2, r3, r4⟩ := hcp.lt
    obtain ⟨q1, q2, q3, q4⟩ := hcp.lo
    have hs1 := ho.size
    refine (encr_any w.heap.size a gk g gr w1.heap.size c ad f (keyF kf) (Ws.alloc (.cells (ZB 16) 5)) (hcp.only hoW (by simp; omega) (by simp; omega) (by simp; omega) (by simp; omega)) h7 ⟨_, hgd⟩ ((hD.only ho hl (by simp)).only hoW (by omega) (by simp; omega)) hf ((ht.only ho h7 (by simp)).only hoW (by omega) (by intro k hk; simp at hk; omega)) (by simp; omega) (by omega) (by omega) (by omega) (by omega) (by omega)).mono ?_
    rintro e w3 ⟨rfl, ho3, hd3, hc3⟩
    go_wp2_with fail
    simp [bodyPost, results, Tryd.results16]
    have hb5' := ho3.blk (hb5.alloc (.cells (ZB 16) 5)) (by simp; omega)
    have hb6' := ho3.blk (hb6.alloc (.cells (ZB 16) 5)) (by simp; omega)
    exact ⟨rfl, ((ho.mono (S' := [N + 5, N + 6]) (by simp)).then_ hoW (fun x hx _ => hx)).then_ ho3 (by intro x hx hl; simp at hx ⊢; omega), ⟨w1.heap.size, 16, hb5', by omega, hd3⟩, hb6'⟩
  · go_enter Tryd.func16, Tryd.ntmps16
    go_wp2_with fail
    refine (newc_any K ck kf w hK hKf ht h7 hKl).mono ?_
    rintro e w1 ⟨a, gk, g, gr, rfl, hcp, ho⟩
    have hC1 := hC.only ho
    obtain ⟨d0, d1, d2, d3, d4, d5, d6⟩ := hC1.cells
    have y6 := hC1.err.frozen 0
    have y5 := hC1.out.frozen 0
    have s6 := hC1.err.lt
    have s5 : N + 5 < w1.heap.size := by omega
    have s4 : N + 4 < w1.heap.size := by omega
    have s3 : N + 3 < w1.heap.size := by omega
    have z6 := hC.err.lt
    have hos : Only [N + 5, N + 6] w1 ((w1.setCell ⟨N + 6, 0, none⟩ .nilIface).setCell ⟨N + 5, 0, none⟩ (.slice (some ⟨w1.heap.size, 0, none⟩) 16 16)) := ((Only.refl _ w1).setCell (p := ⟨N + 6, 0, none⟩) (fun _ => by simp) _).setCell (p := ⟨N + 5, 0, none⟩) (fun _ => by simp) _
    have hb6 := (hC1.err.set_ 0 .nilIface).far (p := ⟨N + 5, 0, none⟩) (by show N + 6 ≠ N + 5; omega) (.slice (some ⟨w1.heap.size, 0, none⟩) 16 16)
    have hb5 := (hC1.out.far (p := ⟨N + 6, 0, none⟩) (by show N + 5 ≠ N + 6; omega) .nilIface).set_ 0 (.slice (some ⟨w1.heap.size, 0, none⟩) 16 16)
    go_wp2_with fail
    generalize hWs : (w1.setCell ⟨N + 6, 0, none⟩ .nilIface).setCell ⟨N + 5, 0, none⟩ (.slice (some ⟨w1.heap.size, 0, none⟩) 16 16) = Ws at *
    have hsz : Ws.heap.size = w1.heap.size := by rw [← hWs]; simp
    have hoW : Only [N + 5, N + 6] w1 (Ws.alloc (.cells (ZB 16) 5)) := hos.alloc _
    have hgd := ArrB.new Ws 16
    rw [hsz] at hgd
    obtain ⟨r1, r2, r3, r4⟩ := hcp.lt
    obtain ⟨q1, q2, q3, q4⟩ := hcp.lo
    have hs1 := ho.size
    refine (decr_any w.heap.size a gk g gr w1.heap.size c ad f (keyF kf) (Ws.alloc (.cells (ZB 16) 5)) (hcp.only hoW (by simp; omega) (by simp; omega) (by simp; omega) (by simp; omega)) h7 ⟨_, hgd⟩ ((hD.only ho hl (by simp)).only hoW (by omega) (by simp; omega)) hf ((ht.only ho h7 (by simp)).only hoW (by omega) (by intro k hk; simp at hk; omega)) (by simp; omega) (by omega) (by omega) (by omega) (by omega) (by omega)).mono ?_
    rintro e w3 ⟨rfl, ho3, hd3, hc3⟩
    go_wp2_with fail
    simp [bodyPost, results, Tryd.results16]
    have hb5' := ho3.blk (hb5.alloc (.cells (ZB 16) 5)) (by simp; omega)
    have hb6' := ho3.blk (hb6.alloc (.cells (ZB 16) 5)) (by simp; omega)
    exact ⟨rfl, ((ho.mono (S' := [N + 5, N + 6]) (by simp)).then_ hoW (fun x hx _ => hx)).then_ ho3 (by intro x hx hl; simp at hx ⊢; omega), ⟨w1.heap.size, 16, hb5', by omega, hd3⟩, hb6'⟩
end Go.Proofs.YtkfagcpboehjjaaDoor
