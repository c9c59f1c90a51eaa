/- The reference's CBC, back, exactly. No condition but where things lie. -/
import Derived.Test.YtkfagcpboehjjaaDoorSmw
namespace Go.Proofs.YtkfagcpboehjjaaDoor
set_option maxRecDepth 100000
open Go.RowKit

set_option maxHeartbeats 8000000 in
theorem scbb_any (V : Addr) (cv : Nat) (iv : Nat → Int) (K : Addr) (ck : Nat) (kf d : Nat → Int) (g k c1 : Nat) (w : World) (hV : Src w V 16 iv) (_hVf : Bf iv) (hVl : V.block < w.heap.size) (hVc : 16 ≤ cv) (hK : Src w K 16 kf) (hKf : Bf kf) (hck : 16 ≤ ck) (hKl : K.block < w.heap.size)
    (hc1 : 16 * k ≤ c1) (hk4 : k ≤ 63) (hi : ArrB w g (16 * k) d) (hdf : Bf d) :
    Calls Tryd.prog 28 #[.slice (some K) 16 ck, .slice (some V) 16 cv, .slice (some ⟨g, 0, none⟩) (16 * k) c1, .bool true] w (RetBytes w (fst (16 * k) (pick (mO 2 (keyF kf) iv d true)))) := by
  have hz47 := zero47
  obtain ⟨rk, hrk⟩ : ∃ rk, rk = keyF kf := ⟨_, rfl⟩
  obtain ⟨O, HO⟩ : ∃ O, Hid (O = mO 2 (rk) iv d true) := ⟨_, Lib.hid rfl⟩
  rw [← hrk, ← HO.out]
  have hkeys := rounds_any K 16 ck kf w (by omega) hck hK hKf hKl
  rw [← hrk] at hkeys
  go_enter Tryd.func28, Tryd.ntmps28
  go_wp2_with (first
    | (go_at_call 26; refine hkeys.mono ?_; rintro e w1 ⟨cs, rfl, hsz, hcell, ho1⟩)
    | (refine wpList_store_row rfl 47 _ _ rfl w1.heap.size cs rfl rfl 47 (ZU 32) (heap_alloc_new w1 _) (by rw [hsz]; exact info47) (by rw [hsz, ZU_size]) (cells_one hsz hcell) ?_))
  obtain ⟨ho2, hk2, hs2⟩ := keys_laid (cs := cs) ho1
  generalize (w1.alloc (.cells (ZU 32) 47)).setRow w1.heap.size cs = w2 at *
  have hi2 := hi.only ho2 (by simp)
  have hi47 : (Tryd.prog.info? 47).map (·.size) = some cs.size := by rw [hsz]; exact info47
  have hl2 := hi2.lt
  have hgk := hk2.lt
  generalize w1.heap.size = gk at *
  clear hkeys hz47
  obtain ⟨cl, rfl⟩ : ∃ cl : List Value, cs = cl.toArray := ⟨cs.toList, by simp⟩
  have hu47 : Tryd.prog.underlying 47 = some (.array 32 46) := Tryd.underlying47
  have hi47l : (Tryd.prog.info? 47).map (·.size) = some cl.length := by rw [hi47]; simp
  go_loopw [12, 10, 11] (fun i v la wr => ∃ (j p : Nat) (L : Addr) (cL : Nat), j ≤ k ∧ Hid (p = 16 * j) ∧ i = .int .i64 p ∧ OwnB wr w2.heap.size v (fst (16 * j) (pick O)) ∧ Below w2.heap.size w2 wr ∧ la = .slice (some L) 16 cL ∧ 16 ≤ cL ∧ Src wr L 16 (prv iv d j) ∧ L.block < wr.heap.size ∧ v.ownBlock ≠ some L.block) (fun i _ _ _ => 16 * k - (intOf i).toNat)
  case atStart => exact ⟨0, 0, V, cv, by omega, Lib.hid rfl, rfl, OwnB.nil _ _, Below.refl _ _, rfl, hVc, hV.only ho2 hVl (by simp), Nat.lt_of_lt_of_le hVl ho2.size, by simp [Value.ownBlock]⟩
  case round =>
    obtain ⟨j, p, L, cL, hj, HP, rfl, hown, hb, rfl, hLc, hLs, hLb, hLn⟩ := hrel
    have hnb := fun k (e : _ = some k) => hown.block_lt e
    by_cases hlt : j < k
    · obtain ⟨e1, e2, b1, b2, b3, e3, e4, e5, e6, e7, l1, l2⟩ := place2 j k c1 p HP hlt hk4 hc1
      have hkr := hk2.below hb hgk
      have hir := hi2.below hb hl2
      have hbs := hb.size
      have hq : xb (D rk (blk d j)) (prv iv d j) = O j := by rw [HO.out]; rfl
      have hsrc := hir.srcb HP hlt
      have hgl : g < wr.heap.size := by omega
      go_wp2_with (first
        | (refine wpList_load_row rfl 47 _ rfl gk rfl 47 cl.toArray (0, 0) _ hkr Tryd.underlying47 rfl hi47 ?_)
        | (go_at_call 25; refine (crypt_any true cl.toArray rk ⟨g, p, none⟩ 16 (c1 - p) (blk d j) wr hsz hcell (by omega) l2 hsrc (blk_bf hdf j) hgl).mono ?_; rintro e w3 ⟨g3, c3, rfl, h1, h2, h3, ho3⟩; have h34 := ho3.size)
        | (go_at_call 35; refine (sxor_any ⟨g3, 0, none⟩ L c3 16 cL (D rk (blk d j)) (prv iv d j) w3 (by omega) (h3.src0 (by omega)) (hLs.only ho3 hLb (by simp)) h3.lt (by omega)).mono ?_; rintro e w4 ⟨g4, c4, rfl, k1, k2, k3, ho4⟩; have h45 := ho4.size; have hbel4 := (hb.trans (ho3.to_below hbs (by simp))).trans (ho4.to_below (by omega) (by simp)); have hown4 := (hown.below ho3.to_below' (Nat.le_refl _)).below ho4.to_below' (Nat.le_refl _))
        | (at_builtin; refine app_bytes2 w4 rfl (.tmp 29) (.tmp 34) rfl w2.heap.size _ (fst (16 * j) (pick O)) rfl (hown4) w4.heap.size (some ⟨g4, 0, none⟩) 16 c4 (fst 16 (O j)) rfl (by rw [← hq]; exact k3.reads) (by rw [fst_length]; omega) (by omega) ?_; intro v5 w5 hown5 hb5 hfar5 hv5))
      go_roundw
      case rel =>
        have hbel5 := hbel4.trans hb5
        refine ⟨j + 1, p + 16, ⟨g, p, none⟩, c1 - p, by omega, Lib.hid (by rw [HP.out]; omega), by go_num, ?_, hbel5, rfl, l2, (hi2.below hbel5 hl2).srcb HP hlt, Nat.lt_of_lt_of_le hl2 hbel5.size, ?_⟩
        · rw [fst_pick]
          exact hown5
        · intro e
          have := (World.ownsRow.lt hown5 _ e).1
          simp only at this
          omega
      case measure => simp [intOf]; have := HP.out; omega
    · obtain rfl : j = k := by omega
      have hnl : ¬ (p : Int) < 16 * (j : Int) := by have := HP.out; omega
      go_wp2_with fail
      go_ret
      exact ⟨_, rfl, hown.lift ho2.size, ho2.to_below'.trans (hb.mono ho2.size)⟩
end Go.Proofs.YtkfagcpboehjjaaDoor
