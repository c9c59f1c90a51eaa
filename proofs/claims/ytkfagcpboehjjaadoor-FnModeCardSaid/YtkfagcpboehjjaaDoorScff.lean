/- The reference's CFB, forth, exactly. No condition but where things lie. -/
import Derived.Test.YtkfagcpboehjjaaDoorSmw
namespace Go.Proofs.YtkfagcpboehjjaaDoor
set_option maxRecDepth 100000
open Go.RowKit

set_option maxHeartbeats 8000000 in
theorem scff_any (V : Addr) (cv : Nat) (iv : Nat → Int) (K : Addr) (ck : Nat) (kf d : Nat → Int) (g k c1 : Nat) (w : World) (hV : Src w V 16 iv) (hVf : Bf iv) (hVl : V.block < w.heap.size) (hVc : 16 ≤ cv) (hK : Src w K 16 kf) (hKf : Bf kf) (hck : 16 ≤ ck) (hKl : K.block < w.heap.size)
    (hc1 : 16 * k ≤ c1) (hk4 : k ≤ 63) (hi : ArrB w g (16 * k) d) (hdf : Bf d) :
    Calls Tryd.prog 29 #[.slice (some K) 16 ck, .slice (some V) 16 cv, .slice (some ⟨g, 0, none⟩) (16 * k) c1, .bool false] w (RetBytes w (fst (16 * k) (pick (mO 3 (keyF kf) iv d false)))) := by
  have hz47 := zero47
  obtain ⟨rk, hrk⟩ : ∃ rk, rk = keyF kf := ⟨_, rfl⟩
  obtain ⟨O, HO⟩ : ∃ O, Hid (O = mO 3 (rk) iv d false) := ⟨_, Lib.hid rfl⟩
  rw [← hrk, ← HO.out]
  have hkeys := rounds_any K 16 ck kf w (by omega) hck hK hKf hKl
  rw [← hrk] at hkeys
  go_enter Tryd.func29, Tryd.ntmps29
  go_wp2_with (first
    | (go_at_call 26; refine hkeys.mono ?_; rintro e w1 ⟨cs, rfl, hsz, hcell, ho1⟩)
    | (refine wpList_store_row rfl 47 _ _ rfl w1.heap.size cs rfl rfl 47 (ZU 32) (heap_alloc_new w1 _) (by rw [hsz]; exact info47) (by rw [hsz, ZU_size]) (cells_one hsz hcell) ?_))
  obtain ⟨ho2, hk2, hs2⟩ := keys_laid (cs := cs) ho1
  generalize (w1.alloc (.cells (ZU 32) 47)).setRow w1.heap.size cs = w2 at *
  have hi2 := hi.only ho2 (by simp)
  have hi47 : (Tryd.prog.info? 47).map (·.size) = some cs.size := by rw [hsz]; exact info47
  have hl2 := hi2.lt
  have hgk := hk2.lt
  generalize w1.heap.size = gk at *
  clear hkeys hz47
  obtain ⟨cl, rfl⟩ : ∃ cl : List Value, cs = cl.toArray := ⟨cs.toList, by simp⟩
  have hu47 : Tryd.prog.underlying 47 = some (.array 32 46) := Tryd.underlying47
  have hi47l : (Tryd.prog.info? 47).map (·.size) = some cl.length := by rw [hi47]; simp
  go_loopw [12, 10, 11] (fun i v la wr => ∃ (j p : Nat) (L : Addr) (cL : Nat), j ≤ k ∧ Hid (p = 16 * j) ∧ i = .int .i64 p ∧ OwnB wr w2.heap.size v (fst (16 * j) (pick O)) ∧ Below w2.heap.size w2 wr ∧ la = .slice (some L) 16 cL ∧ 16 ≤ cL ∧ Src wr L 16 (cfbS rk iv d j) ∧ L.block < wr.heap.size ∧ v.ownBlock ≠ some L.block) (fun i _ _ _ => 16 * k - (intOf i).toNat)
  case atStart => exact ⟨0, 0, V, cv, by omega, Lib.hid rfl, rfl, OwnB.nil _ _, Below.refl _ _, rfl, hVc, hV.only ho2 hVl (by simp), Nat.lt_of_lt_of_le hVl ho2.size, by simp [Value.ownBlock]⟩
  case round =>
    obtain ⟨j, p, L, cL, hj, HP, rfl, hown, hb, rfl, hLc, hLs, hLb, hLn⟩ := hrel
    have hnb := fun k (e : _ = some k) => hown.block_lt e
    by_cases hlt : j < k
    · obtain ⟨e1, e2, b1, b2, b3, e3, e4, e5, e6, e7, l1, l2⟩ := place2 j k c1 p HP hlt hk4 hc1
      have hkr := hk2.below hb hgk
      have hir := hi2.below hb hl2
      have hbs := hb.size
      have hq : xb (blk d j) (E rk (cfbS rk iv d j)) = O j := by rw [HO.out, xb_comm (blk_bf hdf j) (E_bf _ _)]; rfl
      have hsrc := hir.srcb HP hlt
      have hgl : g < wr.heap.size := by omega
      go_wp2_with (first
        | (refine wpList_load_row rfl 47 _ rfl gk rfl 47 cl.toArray (0, 0) _ hkr Tryd.underlying47 rfl hi47 ?_)
        | (go_at_call 25; refine (crypt_any false cl.toArray rk L 16 cL (cfbS rk iv d j) wr hsz hcell (by omega) hLc hLs (cfbS_bf hVf j) hLb).mono ?_; rintro e w3 ⟨g3, c3, rfl, h1, h2, h3, ho3⟩; have h34 := ho3.size)
        | (go_at_call 35; refine (sxor_any ⟨g, p, none⟩ ⟨g3, 0, none⟩ (c1 - p) 16 c3 (blk d j) (E rk (cfbS rk iv d j)) w3 (by omega) (hsrc.only ho3 hgl (by simp)) (h3.src0 (by omega)) (by show g < w3.heap.size; omega) h3.lt).mono ?_; rintro e w4 ⟨g4, c4, rfl, k1, k2, k3', ho4⟩; have k3 := k3'; rw [hq] at k3; have h45 := ho4.size; have hbel4 := (hb.trans (ho3.to_below hbs (by simp))).trans (ho4.to_below (by omega) (by simp)); have hown4 := (hown.below ho3.to_below' (Nat.le_refl _)).below ho4.to_below' (Nat.le_refl _))
        | (at_builtin; refine app_bytes2 w4 rfl (.tmp 34) (.tmp 35) rfl w2.heap.size _ (fst (16 * j) (pick O)) rfl (hown4) w4.heap.size (some ⟨g4, 0, none⟩) 16 c4 (fst 16 (O j)) rfl (k3.reads) (by rw [fst_length]; omega) (by omega) ?_; intro v5 w5 hown5 hb5 hfar5 hv5))
      have hs1 : O j = cfbS rk iv d (j + 1) := by rw [HO.out]; rfl
      go_roundw
      case rel =>
        have hne : ∀ k, k = g4 → _ ≠ some k := fun k hk e => by have := hnb k e; omega
        refine ⟨j + 1, p + 16, ⟨g4, 0, none⟩, c4, by omega, Lib.hid (by rw [HP.out]; omega), by go_num, ?_, hbel4.trans hb5, rfl, k1, (Src.block ((hs1 ▸ k3).src0 (by omega)) (hfar5 g4 k3.lt (hne g4 rfl))), Nat.lt_of_lt_of_le k3.lt hb5.size, ?_⟩
        · rw [fst_pick]
          exact hown5
        · intro e
          rcases hv5 with h | h
          · rw [h] at e; exact hne g4 rfl e
          · rw [h] at e; injection e with e; have := k3.lt; simp only at e; omega
      case measure => simp [intOf]; have := HP.out; omega
    · obtain rfl : j = k := by omega
      have hnl : ¬ (p : Int) < 16 * (j : Int) := by have := HP.out; omega
      go_wp2_with fail
      go_ret
      exact ⟨_, rfl, hown.lift ho2.size, ho2.to_below'.trans (hb.mono ho2.size)⟩
end Go.Proofs.YtkfagcpboehjjaaDoor
