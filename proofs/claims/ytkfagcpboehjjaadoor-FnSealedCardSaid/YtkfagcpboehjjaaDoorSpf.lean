/- The reference's rounds, back, exactly. No condition but where the block lies. -/
import Derived.Test.YtkfagcpboehjjaaDoorSpd
namespace Go.Proofs.YtkfagcpboehjjaaDoor
set_option maxRecDepth 100000
open Go.RowKit

set_option maxHeartbeats 8000000 in
theorem cryptb_any (cs : Array Value) (rk : Nat → Int) (ad : Addr) (n c : Nat) (f : Nat → Int) (w : World) (hsz : cs.size = 32) (hcell : ∀ j, j < 32 → cs[j]? = some (.int .u32 (rk j))) (hn : 16 ≤ n) (hc : n ≤ c) (hs : Src w ad 16 f) (hf : Bf f) (hl : ad.block < w.heap.size) :
    Calls Tryd.prog 25 #[.agg cs, .slice (some ad) n c, .bool true] w (RetBytes w (fst 16 (E (rev rk) f))) := by
  have s0 : Src w ad 4 (fun j => f j) := fun j hj => hs j (by omega)
  have s1 := hs.four' 4 (by omega) (by omega)
  have s2 := hs.four' 8 (by omega) (by omega)
  have s3 := hs.four' 12 (by omega) (by omega)
  have n4 : (4 : Int) ≤ (n : Int) := by omega
  have n8 : (8 : Int) ≤ (n : Int) := by omega
  have n12 : (12 : Int) ≤ (n : Int) := by omega
  have c4 : ¬ c = 4 := by omega
  have c8 : ¬ c = 8 := by omega
  have c12 : ¬ c = 12 := by omega
  have hz64 := zero64
  go_enter Tryd.func25, Tryd.ntmps25
  go_wp2_with fail
  obtain ⟨w1, hw1⟩ : ∃ w1, w1 = w.alloc (.cells cs 47) := ⟨_, rfl⟩
  rw [← hw1]
  have ho1 : Only [] w w1 := by rw [hw1]; exact (Only.refl _ _).alloc _
  have hk1 : ArrU w1 w.heap.size 47 32 rk := by rw [hw1]; exact ⟨cs, Blk.new w 47 cs, hsz, hcell⟩
  have hs1 : w1.heap.size = w.heap.size + 1 := by rw [hw1]; simp
  obtain ⟨Wb, hb0, hb1⟩ : ∃ Wb : Bool → World, Wb false = w1 ∧ Wb true = w1.alloc (.cells (ZU 36) 64) := ⟨fun b => if b then w1.alloc (.cells (ZU 36) 64) else w1, rfl, rfl⟩
  have t0 := s0.only ho1 hl (by simp)
  have u0 := s0.only (ho1.alloc (.cells (ZU 36) 64)) hl (by simp)
  have t1 := s1.only ho1 hl (by simp)
  have u1 := s1.only (ho1.alloc (.cells (ZU 36) 64)) hl (by simp)
  have t2 := s2.only ho1 hl (by simp)
  have u2 := s2.only (ho1.alloc (.cells (ZU 36) 64)) hl (by simp)
  have t3 := s3.only ho1 hl (by simp)
  have u3 := s3.only (ho1.alloc (.cells (ZU 36) 64)) hl (by simp)
  have k0 := fun W (h : Src W ad 4 (fun j => f j)) => word_any ad n c (fun j => f j) W (by omega) (fun j _ => hf _) h
  have k1 := fun W (h : Src W ⟨ad.block, ad.off + 4, none⟩ 4 (fun j => f (4 + j))) => word_any ⟨ad.block, ad.off + 4, none⟩ (n - 4) (c - 4) (fun j => f (4 + j)) W (by omega) (fun j _ => hf _) h
  have k2 := fun W (h : Src W ⟨ad.block, ad.off + 8, none⟩ 4 (fun j => f (8 + j))) => word_any ⟨ad.block, ad.off + 8, none⟩ (n - 8) (c - 8) (fun j => f (8 + j)) W (by omega) (fun j _ => hf _) h
  have k3 := fun W (h : Src W ⟨ad.block, ad.off + 12, none⟩ 4 (fun j => f (12 + j))) => word_any ⟨ad.block, ad.off + 12, none⟩ (n - 12) (c - 12) (fun j => f (12 + j)) W (by omega) (fun j _ => hf _) h
  clear s0 s1 s2 s3 hw1
  refine region_alloc_tail (C := fun b W => ∃ n, W = (Wb b).drewN n) 13 12 12 _ (.pointer (some ⟨w.heap.size + 1, 0, none⟩)) rfl (by kernel_rfl) (by kernel_rfl) rfl rfl rfl ⟨1, by rw [hb0]; rfl⟩ ?hal ?hrest
  case hal =>
    rintro a _ K ⟨nq, rfl⟩ hK
    rw [hb0]
    go_simp
    exact hK _ ⟨nq, by rw [hb1]; first | rfl | skip⟩
  case hrest =>
    simp only [List.take_succ_cons, List.take_zero, List.drop_succ_cons, List.drop_zero]
    repeat ((refine wpQuietB_step (fun K hK => ?_); go_simp; first | (refine hK _ ?_; clear hK K) | (apply Exists.intro; refine ⟨⟨fun _ => ?_, fun _ => ?_⟩, hK _ ?_⟩; ((go_at_call 46; with_reducible (first | exact Calls.quiet_of (k0 _ (t0.drewN' _)) | exact Calls.quiet_of (k0 _ (u0.drewN' _)) | exact Calls.quiet_of (k1 _ (t1.drewN' _)) | exact Calls.quiet_of (k1 _ (u1.drewN' _)) | exact Calls.quiet_of (k2 _ (t2.drewN' _)) | exact Calls.quiet_of (k2 _ (u2.drewN' _)) | exact Calls.quiet_of (k3 _ (t3.drewN' _)) | exact Calls.quiet_of (k3 _ (u3.drewN' _))))); ((go_at_call 46; with_reducible (first | exact Calls.quiet_of (k0 _ (t0.drewN' _)) | exact Calls.quiet_of (k0 _ (u0.drewN' _)) | exact Calls.quiet_of (k1 _ (t1.drewN' _)) | exact Calls.quiet_of (k1 _ (u1.drewN' _)) | exact Calls.quiet_of (k2 _ (t2.drewN' _)) | exact Calls.quiet_of (k2 _ (u2.drewN' _)) | exact Calls.quiet_of (k3 _ (t3.drewN' _)) | exact Calls.quiet_of (k3 _ (u3.drewN' _))))); clear hK K)))
    refine wpQuietB_build rfl 64 _ rfl (X4 (wdF f 0) (wdF f 1) (wdF f 2) (wdF f 3)) (by kernel_rfl) ?_
    refine wpQuietB_nil ?_
    rintro _ ⟨nq, rfl⟩
    have hrow : ((Wb true).drewN nq).heap[w.heap.size + 1]? = some (.cells (ZU 36) 64 (0, 0)) := by
      rw [hb1, ← hs1]
      exact (show (w1.alloc (.cells (ZU 36) 64)).heap[w1.heap.size]? = _ from heap_alloc_new w1 _)
    refine wpList_store_row rfl 64 _ _ rfl (w.heap.size + 1) (X4 (wdF f 0) (wdF f 1) (wdF f 2) (wdF f 3)) rfl rfl 64 (ZU 36) hrow (by rw [X4_size]; exact info64) (by rw [X4_size]; simp [ZU]) (X4_one _ _ _ _) ?_
    obtain ⟨ho2', hx3, hs2⟩ := store36 (a := wdF f 0) (b := wdF f 1) (c := wdF f 2) (d := wdF f 3) (nq := nq) hb1
    rw [hs1] at ho2' hx3 hs2
    generalize hW : ((Wb true).drewN nq).setRow (w.heap.size + 1) (X4 (wdF f 0) (wdF f 1) (wdF f 2) (wdF f 3)) = w2 at *
    have ho3 : Only [] w w2 := ho1.trans ho2'
    have hk3 : ArrU w2 w.heap.size 47 32 rk := hk1.only ho2' (by simp)
    clear hW hb0 hb1 Wb t0 t1 t2 t3 u0 u1 u2 u3 k0 k1 k2 k3 hrow hk1 ho1 ho2' hs1
    obtain ⟨gk, hgk⟩ : ∃ gk, gk = w.heap.size := ⟨_, rfl⟩
    obtain ⟨gx, hgx⟩ : ∃ gx, gx = w.heap.size + 1 := ⟨_, rfl⟩
    rw [← hgx] at hx3
    rw [← hgk] at hk3
    go_wp2_with fail
    rw [← hgx, ← hgk]
    have HGX := Lib.hid hgx
    have HGK := Lib.hid hgk
    clear hgx hgk
    go_loopw [25] (fun i wr => ∃ k : Nat, k ≤ 32 ∧ i = .int .i64 k ∧ Only [] w wr ∧ ArrU wr gx 64 36 (fun j => if j < k + 4 then FX f (rev rk) j else 0) ∧ ArrU wr gk 47 32 rk) (fun i _ => 32 - (intOf i).toNat)
    case atStart =>
      refine ⟨0, by omega, rfl, ho3, hx3.congr fun j _ => ?_, hk3⟩
      unfold x4F
      by_cases h4 : j < 4
      · rw [if_pos h4, if_pos (by omega), FX_low f _ j h4]
        rcases lt4 h4 with rfl | rfl | rfl | rfl <;> rfl
      · rw [if_neg h4, if_neg (by omega)]
    case round =>
      clear hx3 hk3 ho3
      obtain ⟨k, hk, rfl, ho, hx, hr⟩ := hrel
      by_cases hlt : k < 32
      · as_aux_lemma =>
        have l1 : (k : Int) < 32 := by omega
        obtain ⟨p1, p2, p3, p4, e1, e2, e3, e4, ⟨q1, q2, q3, q4⟩, HP⟩ := quint k hlt
        obtain ⟨v0, c0, H0⟩ : ∃ x, wr.cell? ⟨gx, k, none⟩ = some (.int .u32 x) ∧ Hid (x = FX f (rev rk) k) := ⟨_, hx.cell (by omega), Lib.hid (by rw [if_pos (by omega)])⟩
        obtain ⟨v1, c1, H1⟩ : ∃ x, wr.cell? ⟨gx, p1, none⟩ = some (.int .u32 x) ∧ Hid (x = FX f (rev rk) (k + 1)) := ⟨_, hx.cell (by omega), Lib.hid (by rw [if_pos (by have := HP.out; omega), HP.out.1])⟩
        obtain ⟨v2, c2, H2⟩ : ∃ x, wr.cell? ⟨gx, p2, none⟩ = some (.int .u32 x) ∧ Hid (x = FX f (rev rk) (k + 2)) := ⟨_, hx.cell (by omega), Lib.hid (by rw [if_pos (by have := HP.out; omega), HP.out.2.1])⟩
        obtain ⟨v3, c3, H3⟩ : ∃ x, wr.cell? ⟨gx, p3, none⟩ = some (.int .u32 x) ∧ Hid (x = FX f (rev rk) (k + 3)) := ⟨_, hx.cell (by omega), Lib.hid (by rw [if_pos (by have := HP.out; omega), HP.out.2.2.1])⟩
        obtain ⟨v4, c4'⟩ : ∃ x, wr.cell? ⟨gx, p4, none⟩ = some (.int .u32 x) := ⟨_, hx.cell (by omega)⟩
        have fz := hx.frozen p4
        obtain ⟨ro, cro⟩ : ∃ x, wr.cell? ⟨gk, k, none⟩ = some (.int .u32 x) := ⟨_, hr.cell hlt⟩
        obtain ⟨qb, eb, lb, HB⟩ := wback k hlt
        obtain ⟨ck, cck, HCK⟩ : ∃ x, wr.cell? ⟨gk, qb, none⟩ = some (.int .u32 x) ∧ Hid (x = rev rk k) := ⟨_, hr.cell (by omega), Lib.hid (by rw [HB.out]; rfl)⟩
        obtain ⟨y, hy, ey, HY⟩ : ∃ y, U32 y ∧ bits .xor .u32 (bits .xor .u32 (bits .xor .u32 v1 v2) v3) ck = y ∧ Hid (y = xr (xr (xr v1 v2) v3) ck) := ⟨_, u32_bits _ _ _, rfl, Lib.hid rfl⟩
        have l3 : (k : Int) < 36 := by omega
        have hbx : gx < w.heap.size → False := by have := HGX.out; omega
        have hne : gk ≠ gx := by have := HGX.out; have := HGK.out; omega
        go_wp2_with fail
        go_quiet ((go_at_call 47; exact Calls.quiet_of (tau_any _ _ hy)))
        go_wp2_with fail
        have hoq := ho.drewN nq
        have hxq := hx.drewN nq
        have hrq := hr.drewN nq
        have c0q : (wr.drewN nq).cell? ⟨gx, k, none⟩ = some (.int .u32 v0) := c0
        have c4q : (wr.drewN nq).cell? ⟨gx, p4, none⟩ = some (.int .u32 v4) := c4'
        have fzq : (wr.drewN nq).frozen? ⟨gx, p4, none⟩ = false := fz
        clear ho hx hr c0 c1 c2 c3 c4' fz cck
        generalize wr.drewN nq = wq at *
        have r2 := fun (x : Int) (n : Nat) => Calls.quiet_of (rotate_any x 2 (wq.drewN n) (by decide))
        have r10 := fun (x : Int) (n : Nat) => Calls.quiet_of (rotate_any x 10 (wq.drewN n) (by decide))
        have r18 := fun (x : Int) (n : Nat) => Calls.quiet_of (rotate_any x 18 (wq.drewN n) (by decide))
        have r24 := fun (x : Int) (n : Nat) => Calls.quiet_of (rotate_any x 24 (wq.drewN n) (by decide))
        refine region_quiet_tail 20 (by kernel_rfl) (by kernel_rfl) ?_
        simp only [List.take_succ_cons, List.take_zero, List.drop_succ_cons, List.drop_zero]
        repeat (quiet_step ((go_at_call 48; with_reducible (first | exact r2 _ _ | exact r10 _ _ | exact r18 _ _ | exact r24 _ _))))
        refine wpQuiet_nil ?_
        intro _ hw'
        obtain ⟨nq2, rfl⟩ := hw'
        go_wp2_with fail
        have hz : stepS v0 y = FX f (rev rk) (k + 4) := by rw [FX_next, H0.out, HY.out, HCK.out, H1.out, H2.out, H3.out]
        obtain ⟨P1, _, _, P4⟩ := HP.out
        go_roundw
        case rel =>
          refine ⟨k + 1, by omega, by rw [P1], (hoq.drewN nq2).setCell (p := ⟨gx, p4, none⟩) (fun h => (hbx h).elim) _, ?_, (hrq.drewN nq2).far (p := ⟨gx, p4, none⟩) hne _⟩
          refine (hxq.drewN nq2).set_ p4 (stepS v0 y) fun j hj => ?_
          by_cases hj4 : j = p4
          · rw [if_pos hj4, if_pos (by omega), hz, hj4, P4]
          · rw [if_neg hj4]
            by_cases h2 : j < k + 4
            · rw [if_pos h2, if_pos (by omega)]
            · rw [if_neg h2, if_neg (by omega)]
        case measure => simp [intOf]; omega
      · as_aux_lemma =>
        obtain rfl : k = 32 := by omega
        have hx' : ArrU wr gx 64 36 (FX f (rev rk)) := hx.congr fun j hj => if_pos (by omega)
        have hbel : Below w.heap.size w wr := ho.to_below'
        clear hx ho hr
        obtain ⟨wp, rfl⟩ : ∃ wp, wp = wr := ⟨_, rfl⟩
        go_wp2_with fail
        go_loopw [74, 11] (fun i v wr' => ∃ m : Nat, m ≤ 4 ∧ i = .int .i64 m ∧ OwnB wr' wp.heap.size v (fst (4 * m) (E (rev rk) f)) ∧ Below wp.heap.size wp wr') (fun i _ _ => 4 - (intOf i).toNat)
        case atStart => exact ⟨0, by omega, rfl, OwnB.nil _ _, Below.refl _ _⟩
        case round =>
          obtain ⟨m, hm, rfl, hown, hb2⟩ := hrel
          by_cases hm4 : m < 4
          · obtain ⟨q, eq, lq, HQ⟩ := wlast m hm4
            have l2 : (m : Int) < 4 := by omega
            have hxl := hx'.lt
            obtain ⟨x, cx, HX⟩ : ∃ x, wr.cell? ⟨gx, q, none⟩ = some (.int .u32 x) ∧ Hid (x = FX f (rev rk) (35 - m)) := ⟨_, (hx'.below hb2 hxl).cell (by omega), Lib.hid (by rw [HQ.out])⟩
            have hxu : 0 ≤ x ∧ x ≤ 4294967295 := by rw [HX.out]; exact FX_u32 _ _ _
            have hws := hb2.size
            go_wp2_with (first
              | (go_at_call 49; refine (bytesOf_any _ _ hxu).mono ?_; rintro e w' ⟨rfl, rfl⟩)
              | (at_builtin; refine app_bytes _ rfl (.tmp 77) (.tmp 82) rfl wp.heap.size _ _ rfl (hown.alloc _) (wr.heap.size + 1) _ 4 4 (bo x) rfl (reads_bo _ (Nat.le_refl _)) (by rw [fst_length]; omega) (by simp; omega) ?_; intro v3 w3 hown3 hb3))
            go_roundw
            case rel =>
              (repeat apply Exists.intro)
              refine ⟨?_, rfl⟩
              refine ⟨m + 1, by omega, by go_num, ?_, (hb2.alloc hws _).trans hb3⟩
              have he : fst (4 * (m + 1)) (E (rev rk) f) = fst (4 * m) (E (rev rk) f) ++ bo x := by rw [HX.out]; exact fst_four m _
              rw [he]
              exact hown3
            case measure => simp [intOf]; omega
          · obtain rfl : m = 4 := by omega
            go_wp2_with fail
            go_ret
            exact ⟨_, rfl, hown.lift hbel.size, hbel.trans (hb2.mono hbel.size)⟩
end Go.Proofs.YtkfagcpboehjjaaDoor
