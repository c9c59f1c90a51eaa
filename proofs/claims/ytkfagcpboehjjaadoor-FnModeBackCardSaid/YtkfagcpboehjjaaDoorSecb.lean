/- The reference's ECB, exactly. No condition but where things lie. -/
import Derived.Test.YtkfagcpboehjjaaDoorSmw
namespace Go.Proofs.YtkfagcpboehjjaaDoor
set_option maxRecDepth 100000
open Go.RowKit

set_option maxHeartbeats 8000000 in
theorem secb_any (b : Bool) (iv : Nat → Int) (K : Addr) (ck : Nat) (kf d : Nat → Int) (g k c1 : Nat) (w : World) (hK : Src w K 16 kf) (hKf : Bf kf) (hck : 16 ≤ ck) (hKl : K.block < w.heap.size)
    (hc1 : 16 * k ≤ c1) (hk4 : k ≤ 63) (hi : ArrB w g (16 * k) d) (hdf : Bf d) :
    Calls Tryd.prog 27 #[.slice (some K) 16 ck, .slice (some ⟨g, 0, none⟩) (16 * k) c1, .bool b] w (RetBytes w (fst (16 * k) (pick (mO 1 (keyF kf) iv d b)))) := by
  have hz47 := zero47
  obtain ⟨rk, hrk⟩ : ∃ rk, rk = keyF kf := ⟨_, rfl⟩
  obtain ⟨O, HO⟩ : ∃ O, Hid (O = mO 1 (rk) iv d b) := ⟨_, Lib.hid rfl⟩
  rw [← hrk, ← HO.out]
  have hkeys := rounds_any K 16 ck kf w (by omega) hck hK hKf hKl
  rw [← hrk] at hkeys
  go_enter Tryd.func27, Tryd.ntmps27
  go_wp2_with (first
    | (go_at_call 26; refine hkeys.mono ?_; rintro e w1 ⟨cs, rfl, hsz, hcell, ho1⟩)
    | (refine wpList_store_row rfl 47 _ _ rfl w1.heap.size cs rfl rfl 47 (ZU 32) (heap_alloc_new w1 _) (by rw [hsz]; exact info47) (by rw [hsz, ZU_size]) (cells_one hsz hcell) ?_))
  obtain ⟨ho2, hk2, hs2⟩ := keys_laid (cs := cs) ho1
  generalize (w1.alloc (.cells (ZU 32) 47)).setRow w1.heap.size cs = w2 at *
  have hi2 := hi.only ho2 (by simp)
  have hi47 : (Tryd.prog.info? 47).map (·.size) = some cs.size := by rw [hsz]; exact info47
  have hl2 := hi2.lt
  have hgk := hk2.lt
  generalize w1.heap.size = gk at *
  clear hkeys hz47
  obtain ⟨cl, rfl⟩ : ∃ cl : List Value, cs = cl.toArray := ⟨cs.toList, by simp⟩
  have hu47 : Tryd.prog.underlying 47 = some (.array 32 46) := Tryd.underlying47
  have hi47l : (Tryd.prog.info? 47).map (·.size) = some cl.length := by rw [hi47]; simp
  go_loopw [9, 8] (fun i v wr => ∃ j p : Nat, j ≤ k ∧ Hid (p = 16 * j) ∧ i = .int .i64 p ∧ OwnB wr w2.heap.size v (fst (16 * j) (pick O)) ∧ Below w2.heap.size w2 wr) (fun i _ _ => 16 * k - (intOf i).toNat)
  case atStart => exact ⟨0, 0, by omega, Lib.hid rfl, rfl, OwnB.nil _ _, Below.refl _ _⟩
  case round =>
    obtain ⟨j, p, hj, HP, rfl, hown, hb⟩ := hrel
    by_cases hlt : j < k
    · obtain ⟨e1, e2, b1, b2, b3, e3, e4, e5, e6, e7, l1, l2⟩ := place2 j k c1 p HP hlt hk4 hc1
      have hkr := hk2.below hb hgk
      have hir := hi2.below hb hl2
      have hbs := hb.size
      have hq : DE b rk (blk d j) = O j := by rw [HO.out, mO_1]
      go_wp2_with fail
      have hsrc : Src wr.drew ⟨g, p, none⟩ 16 (blk d j) := hir.srcb HP hlt
      have hownq : OwnB wr.drew w2.heap.size _ (fst (16 * j) (pick O)) := hown
      have hgl : g < wr.drew.heap.size := by show g < wr.heap.size; omega
      have hbq : w2.heap.size ≤ wr.drew.heap.size := hbs
      have hbelq : Below w2.heap.size w2 wr.drew := below_drewN hb 1
      have hra : wr.drew.rangeAt gk 0 cl := Blk.range (w := wr) hkr
      clear hir hkr hown hb
      go_region_held3 (fun W => W.rangeAt gk 0 cl) (first | exact hra | exact hra3 | exact hra4)
        (first
          | (refine step_app2 w3 rfl (.tmp 18) (.tmp 26) rfl w2.heap.size _ (fst (16 * j) (pick O)) rfl (hownq.below ho3.to_below' (Nat.le_refl _)) w3.heap.size (some ⟨g3, 0, none⟩) 16 c3 (fst 16 (O j)) rfl h3.reads (by rw [fst_length]; omega) (by have := ho3.size; omega) ?_; intro v4 w4 hown4 hb4 hfar4 hv4; have hbel4 := hbel3.trans hb4; have hra4 : w4.rangeAt gk 0 cl := Blk.range (hk2.below hbel4 hgk))
          | (go_at_call 25; refine (crypt_any b cl.toArray rk ⟨g, p, none⟩ 16 (c1 - p) (blk d j) wr.drew hsz hcell (by omega) l2 hsrc (blk_bf hdf j) hgl).mono ?_; rintro e w3 ⟨g3, c3, rfl, h1, h2, h3, ho3⟩; rw [hq] at h3; have hbel3 := hbelq.trans (ho3.to_below hbq (by simp)); have hra3 : w3.rangeAt gk 0 cl := Blk.range (hk2.below hbel3 hgk)))
      go_wp2_with fail
      go_roundw
      case rel =>
        refine ⟨j + 1, p + 16, by omega, Lib.hid (by rw [HP.out]; omega), by go_num, ?_, hbel4⟩
        rw [fst_pick]
        exact hown4
      case measure => simp [intOf]; have := HP.out; omega
    · obtain rfl : j = k := by omega
      have hnl : ¬ (p : Int) < 16 * (j : Int) := by have := HP.out; omega
      go_wp2_with fail
      go_ret
      exact ⟨_, rfl, hown.lift ho2.size, ho2.to_below'.trans (hb.mono ho2.size)⟩
end Go.Proofs.YtkfagcpboehjjaaDoor
