/- The law's own steps: FnHashed's first loop. No condition. -/
import Derived.Test.YtmhjbkkbbhioeaaHimpl
import Derived.BigQuiet
import Derived.WalkSpells
namespace Go.Proofs.Ytmhjbkkbbhioeaa
open Go.RowKit

/-- A round's end: what the step says is laid behind the others. -/
theorem law_step {w1 W w6 : World} {B k : Nat} {v3 v4 v6 x : Value} {xs : List Value} {O : Nat → Int} {lr : Nat → List Int} {l : List Int} (V3 : OwnB W B v3 l) (V4 : OwnL W B v4 xs) (hxl : xs.length = k) (T : Told W B xs O lr v3.ownBlock)
    (HX : (O k = 1 ∨ O k = 3) → OwnB W B x (says O lr k) ∧ x.ownBlock ≠ v3.ownBlock) (BW : Below B w1 W) (hBW : B ≤ W.heap.size)
    (hv6 : OwnL w6 B v6 (xs ++ [x])) (hB6 : Below B (W.alloc (.cells #[x] 24)) w6) (hg6 : (W.alloc (.cells #[x] 24)).grownBy w6 v4.ownBlock) :
    OwnB w6 B v3 l ∧ OwnL w6 B v6 (xs ++ [x]) ∧ (xs ++ [x]).length = k + 1 ∧ Told w6 B (xs ++ [x]) O lr v3.ownBlock ∧ Below B w1 w6 := by
  have V4a := V4.alloc (.cells #[x] 24)
  have V3a := V3.alloc (.cells #[x] 24)
  subst hxl
  exact ⟨World.ownsRow.kept V3a hg6 (own_apart V3a V4a (by decide)), hv6, by simp, (T.alloc _).push V4a hg6 (fun ho => ⟨(HX ho).1.alloc _, (HX ho).2⟩), (BW.alloc hBW _).trans hB6⟩

theorem OwnL.at_ {w : World} {base n c k : Nat} {A : Option Addr} {xs : List Value} (h : OwnL w base (.slice A n c) xs) (hk : k < xs.length) : ∃ g, A = some ⟨g, 0, none⟩ ∧ w.cell? ⟨g, k, none⟩ = some xs[k] := by
  have h0 : w.ownsRow base 24 1 (.slice A n c) xs.length xs := h
  rcases h.2 with ⟨_, hz⟩ | ⟨g, cap, cur, e, _⟩
  · omega
  · injection e with e e2 _
    subst e e2
    refine ⟨g, rfl, ?_⟩
    have := World.ownsRow.cellAt h0 k (by omega)
    rw [this, List.getElem?_eq_getElem hk]

/-- What two lists told of the same steps hold at a step that says something: slices of the same bytes. -/
theorem told_two {w : World} {b1 b2 : Nat} {xs ys : List Value} {O : Nat → Int} {lr : Nat → List Int} {q1 q2 : Option Nat} (h1 : Told w b1 xs O lr q1) (h2 : Told w b2 ys O lr q2) {m : Nat} (hm1 : m < xs.length) (hm2 : m < ys.length) (ho : O m = 1 ∨ O m = 3) :
    ∃ A1 n1 c1 A2 n2 c2, xs[m] = .slice A1 n1 c1 ∧ ys[m] = .slice A2 n2 c2 ∧ ∀ q, Calls Try.prog 8 #[.slice A1 n1 c1, .slice A2 n2 c2] (w.drewN q) (fun e w' => e = .returned (.bool true) ∧ w.drewN q = w') := by
  obtain ⟨a1, _⟩ := h1 m xs[m] (List.getElem?_eq_getElem hm1) ho
  obtain ⟨a2, _⟩ := h2 m ys[m] (List.getElem?_eq_getElem hm2) ho
  obtain ⟨A1, c1, e1⟩ := a1.shaped
  obtain ⟨A2, c2, e2⟩ := a2.shaped
  rw [e1] at a1 ⊢
  rw [e2] at a2 ⊢
  exact ⟨A1, _, c1, A2, _, c2, rfl, rfl, fun q => same_any _ _ _ _ _ _ (says O lr m) (w.drewN q) (a1.reads.2.drewN q) (a2.reads.2.drewN q)⟩

set_option maxHeartbeats 4000000 in
theorem fnhashed_any (ad : Option Addr) (n c : Nat) (O : Nat → Int) (A : Nat → Option Addr) (L C : Nat → Nat) (lr : Nat → List Int) (w : World) (hp0 : Steps w ad n O A L C lr) :
    Calls Try.prog 6 #[.slice ad n c] w fun e w' => e = .returned (.bool true) ∧ Below w.heap.size w w' := by
  go_enter Try.func6, Try.ntmps6
  go_wp2_with fail
  refine (fits1_any ad n c O A L C lr w hp0).mono ?_
  rintro e w1 ⟨t, rfl, hB1⟩
  have hp := hp0.below hB1
  have hs1 := hB1.size
  cases t with
  | false =>
    go_wp2_with fail
    go_ret
    exact ⟨rfl, hB1⟩
  | true =>
    by_cases h50 : (50 : Int) < (n : Int)
    · go_wp2_with fail
      go_ret
      exact ⟨rfl, hB1⟩
    by_cases h0 : n = 0
    · subst h0
      go_wp2_with fail
      go_ret
      exact ⟨rfl, hB1⟩
    have h0' : ((n : Int) == 0) = false := by simp; omega
    have N0 := Lib.hid h0
    clear h0
    go_wp2_with fail
    go_loopw [3, 4, 24] (fun v3 v4 i wr => ∃ (k : Nat) (xs : List Value), k ≤ n ∧ i = .int .i64 k ∧ Hid (∀ j, j < k → Fine O L j) ∧ OwnB wr w1.heap.size v3 (wrt O lr k) ∧ OwnL wr w1.heap.size v4 xs ∧ Hid (xs.length = k) ∧
      Told wr w1.heap.size xs O lr v3.ownBlock ∧ Below w1.heap.size w1 wr) (fun _ _ i _ => n - (intOf i).toNat)
    case atStart => exact ⟨0, [], Nat.zero_le _, rfl, fun j hj => absurd hj (by omega), World.ownsRow_nil _ _ 5 1, OwnL.nil _ _, rfl, Told.nil _ _ _ _ _, Below.refl _ _⟩
    case round =>
      obtain ⟨k, xs, hk, rfl, hfine, hv3, hv4, hxl, htold, hB⟩ := hrel
      by_cases hlt : k < n
      · obtain ⟨a, rfl, hab, c2, c3⟩ := (hp.below hB).cell k hlt
        rw [add_odd] at c3
        have l1 : (k : Int) < (n : Int) := by omega
        have hBa : Below w1.heap.size w1 (wr.alloc (.cells #[.int .i64 (O k), .slice (A k) (L k) (C k)] 35)) := hB.alloc hB.size _
        by_cases q1 : (500 : Int) < (L k : Int)
        · go_wp2_with fail
          go_ret
          exact ⟨rfl, hB1.trans (hBa.mono hs1)⟩
        by_cases q2 : O k < 0
        · go_wp2_with fail
          go_ret
          exact ⟨rfl, hB1.trans (hBa.mono hs1)⟩
        by_cases q3 : (4 : Int) ≤ O k
        · go_wp2_with fail
          go_ret
          exact ⟨rfl, hB1.trans (hBa.mono hs1)⟩
        have hfine' : (O k = 1 → L k = 0) → Hid (∀ j, j < k + 1 → Fine O L j) := fun h1 j hj => by
          by_cases hjk : j < k
          · exact hfine.out j hjk
          · obtain rfl : j = k := by omega
            exact ⟨by omega, by omega, by omega, h1⟩
        have hwl := wrt_length (O := O) (L := L) (lr := lr) k fun j hj => ⟨hfine.out j hj, hp.lens (by omega)⟩
        have hcase : O k = 0 ∨ O k = 1 ∨ O k = 2 ∨ O k = 3 := by omega
        have hw3 := hv3.alloc (.cells #[.int .i64 (O k), .slice (A k) (L k) (C k)] 35)
        have hw4 := hv4.alloc (.cells #[.int .i64 (O k), .slice (A k) (L k) (C k)] 35)
        have ht1 := htold.alloc (.cells #[.int .i64 (O k), .slice (A k) (L k) (C k)] 35)
        have hrd := ((hp.below hBa).reads k hlt)
        obtain ⟨A3, d3, ev3⟩ := hv3.shaped
        obtain ⟨A4, d4, ev4⟩ := hv4.shaped
        subst ev3 ev4
        rcases hcase with e | e | e | e
        · rw [e] at hw3 hw4 ht1 hBa hrd
          have T5 : ∀ (v5 : Value) (w5 : World), (wr.alloc (.cells #[.int .i64 0, .slice (A k) (L k) (C k)] 35)).grownBy w5 (Value.slice A3 (wrt O lr k).length d3).ownBlock → (v5.ownBlock = (Value.slice A3 (wrt O lr k).length d3).ownBlock ∨ v5.ownBlock = some (wr.alloc (.cells #[.int .i64 0, .slice (A k) (L k) (C k)] 35)).heap.size) → Told w5 w1.heap.size xs O lr v5.ownBlock := fun v5 w5 hg5 ho5 j x hx ho =>
            ⟨((ht1.grown hg5) j x hx ho).1, ((ht1.other (q' := v5.ownBlock) (fun g hg => ho5.imp id fun h => by rw [h] at hg; injection hg with hg; omega) says_pos) j x hx ho).2⟩
          go_wp2_with (first
            | (at_builtin; refine app_bytes_g _ rfl (.tmp 46) (.tmp 48) rfl w1.heap.size _ (wrt O lr k) rfl hw3 _ (A k) (L k) (C k) (lr k) rfl hrd (by omega) hBa.size ?_; intro v5 w5 hv5 hB5 hg5 ho5)
            | (at_builtin; refine app_rows _ rfl (.tmp 63) (.tmp 65) rfl w1.heap.size _ xs rfl (OwnL.alloc (World.ownsRow.kept hw4 hg5 (own_apart hw4 hw3 (by decide))) _) _ _ 1 1 [.slice none 0 0] rfl (Reads.lit w5 24 #[.slice none 0 0] (Nat.le_refl _)) (by simp; rfl) (by have := hxl.out; simp; omega) (by have := hBa.size; have := hB5.size; simp; omega) ?_; intro v6 w6 hv6 hB6 hg6 ho6))
          have hst := law_step (w1 := w1) (k := k) (x := .slice none 0 0) hv5 (World.ownsRow.kept hw4 hg5 (own_apart hw4 hw3 (by decide))) hxl.out (T5 v5 w5 hg5 ho5) (fun ho => by omega) (hBa.trans hB5) (Nat.le_trans hBa.size hB5.size) hv6 hB6 hg6
          rw [show wrt O lr k ++ lr k = wrt O lr (k + 1) by simp [wrt, e]] at hst
          go_roundw
          case rel => exact ⟨k + 1, xs ++ [.slice none 0 0], hlt, by go_num, hfine' (fun h => by omega), hst.1, hst.2.1, Lib.hid hst.2.2.1, hst.2.2.2.1, hst.2.2.2.2⟩
          case measure => simp [intOf]; omega
        · rw [e] at hw3 hw4 ht1 hBa hrd
          by_cases q5 : (0 : Int) < (L k : Int)
          · go_wp2_with fail
            go_ret
            exact ⟨rfl, hB1.trans (hBa.mono hs1)⟩
          have hby := wrt_byte (O := O) (lr := lr) k fun j hj => hp.byte j (by omega)
          go_wp2_with fail
          refine (sm3_any A3 _ d3 (wrt O lr k) _ hw3.reads.2 hby (by omega)).mono ?_
          rintro e' w5 ⟨v5, rfl, hv5, hB5⟩
          have hl5 : 0 < (sm3 (wrt O lr k)).length := by unfold sm3; exact Nat.zero_lt_succ _
          obtain ⟨g5, c5, rfl, hg5, hl5', -⟩ := hv5.form hl5
          have hq : (Value.slice (some ⟨g5, 0, none⟩) (sm3 (wrt O lr k)).length c5).ownBlock ≠ (Value.slice A3 (wrt O lr k).length d3).ownBlock := fun h => by
            have := World.ownsRow.lt hw3 g5 (by rw [← h]; rfl)
            omega
          have hx := OwnB.lift hv5 hBa.size
          have hw3' := OwnB.below hw3 hB5 (Nat.le_refl _)
          have hw4' := OwnL.below hw4 hB5 (Nat.le_refl _)
          have hBc := hBa.trans (hB5.mono hBa.size)
          have ht5 := ht1.below hB5
          go_wp2_with (at_builtin; go_must (refine app_rows _ rfl (.tmp 63) (.tmp 65) rfl w1.heap.size _ xs rfl (OwnL.alloc hw4' _) _ _ 1 1 [.slice (some ⟨g5, 0, none⟩) (sm3 (wrt O lr k)).length c5] rfl (Reads.lit w5 24 #[.slice (some ⟨g5, 0, none⟩) (sm3 (wrt O lr k)).length c5] (Nat.le_refl _)) (by simp; rfl) (by have := hxl.out; simp; omega) (by have := hBc.size; simp; omega) ?_; intro v6 w6 hv6 hB6 hg6 ho6))
          have hst := law_step (w1 := w1) (k := k) (l := wrt O lr (k + 1)) (v3 := Value.slice A3 (wrt O lr k).length d3) (by rw [show wrt O lr (k + 1) = wrt O lr k by simp [wrt, e]]; exact hw3') hw4' hxl.out ht5 (fun ho => ⟨by rw [show says O lr k = sm3 (wrt O lr k) by simp [says, e]]; exact hx, hq⟩) hBc hBc.size hv6 hB6 hg6
          go_roundw
          case rel => exact ⟨k + 1, xs ++ [.slice (some ⟨g5, 0, none⟩) (sm3 (wrt O lr k)).length c5], hlt, by go_num, hfine' (fun h => by omega), hst.1, hst.2.1, Lib.hid hst.2.2.1, hst.2.2.2.1, hst.2.2.2.2⟩
          case measure => simp [intOf]; omega
        · rw [e] at hw3 hw4 ht1 hBa hrd
          have T5 : Told (wr.alloc (.cells #[.int .i64 2, .slice (A k) (L k) (C k)] 35)) w1.heap.size xs O lr (Value.slice none 0 0).ownBlock := ht1.other (fun g hg => by cases hg) says_pos
          go_wp2_with (at_builtin; refine app_rows _ rfl (.tmp 63) (.tmp 65) rfl w1.heap.size _ xs rfl (OwnL.alloc hw4 _) (wr.heap.size + 1 + 1) (some ⟨wr.heap.size + 1, 0, none⟩) 1 1 [.slice none 0 0] rfl (by have h := Reads.lit (wr.alloc (.cells #[.int .i64 2, .slice (A k) (L k) (C k)] 35)) 24 #[.slice none 0 0] (Nat.le_refl _); rw [World.size_alloc] at h; exact h) (by simp; rfl) (by have := hxl.out; simp; omega) (by have := hB.size; simp; omega) ?_; intro v6 w6 hv6 hB6 hg6 ho6)
          have hst := law_step (w1 := w1) (k := k) (x := .slice none 0 0) (l := wrt O lr (k + 1)) (v3 := .slice none 0 0) (by rw [show wrt O lr (k + 1) = [] by simp [wrt, e]]; exact World.ownsRow_nil _ _ 5 1) hw4 hxl.out T5 (fun ho => by omega) hBa hBa.size hv6 hB6 hg6
          go_roundw
          case rel => exact ⟨k + 1, xs ++ [.slice none 0 0], hlt, by go_num, hfine' (fun h => by omega), hst.1, hst.2.1, Lib.hid hst.2.2.1, hst.2.2.2.1, hst.2.2.2.2⟩
          case measure => simp [intOf]; omega
        · rw [e] at hw3 hw4 ht1 hBa hrd
          have hx : OwnB ((wr.alloc (.cells #[.int .i64 3, .slice (A k) (L k) (C k)] 35)).alloc (.cells #[.int .u8 32, .int .u8 64] 5)) w1.heap.size (.slice (some ⟨wr.heap.size + 1, 0, none⟩) 2 2) [32, 64] := by
            have h := World.ownsRow_lit (base := w1.heap.size) (e := 5) (size := 1) (wr.alloc (.cells #[.int .i64 3, .slice (A k) (L k) (C k)] 35)) #[.int .u8 32, .int .u8 64] 2 hBa.size (by unfold maxLen; omega) rfl
            rw [World.size_alloc] at h
            exact h
          have hq : (Value.slice (some ⟨wr.heap.size + 1, 0, none⟩) 2 2).ownBlock ≠ (Value.slice A3 (wrt O lr k).length d3).ownBlock := fun h => by
            have := World.ownsRow.lt hw3 (wr.heap.size + 1) (by rw [← h]; rfl)
            simp at this
          have hw3' := hw3.alloc (.cells #[.int .u8 32, .int .u8 64] 5)
          have hw4' := hw4.alloc (.cells #[.int .u8 32, .int .u8 64] 5)
          have hBc : Below w1.heap.size w1 ((wr.alloc (.cells #[.int .i64 3, .slice (A k) (L k) (C k)] 35)).alloc (.cells #[.int .u8 32, .int .u8 64] 5)) := hBa.alloc hBa.size _
          go_wp2_with (at_builtin; go_must (refine app_rows _ rfl (.tmp 63) (.tmp 65) rfl w1.heap.size _ xs rfl (OwnL.alloc hw4' _) (wr.heap.size + 1 + 1 + 1) (some ⟨wr.heap.size + 1 + 1, 0, none⟩) 1 1 [.slice (some ⟨wr.heap.size + 1, 0, none⟩) 2 2] rfl (by have h := Reads.lit ((wr.alloc (.cells #[.int .i64 3, .slice (A k) (L k) (C k)] 35)).alloc (.cells #[.int .u8 32, .int .u8 64] 5)) 24 #[.slice (some ⟨wr.heap.size + 1, 0, none⟩) 2 2] (Nat.le_refl _); rw [World.size_alloc, World.size_alloc] at h; exact h) (by simp; rfl) (by have := hxl.out; simp; omega) (by have := hB.size; simp; omega) ?_; intro v6 w6 hv6 hB6 hg6 ho6))
          have hst := law_step (w1 := w1) (k := k) (l := wrt O lr (k + 1)) (v3 := Value.slice A3 (wrt O lr k).length d3) (by rw [show wrt O lr (k + 1) = wrt O lr k by simp [wrt, e]]; exact hw3') hw4' hxl.out (ht1.alloc _) (fun ho => ⟨by rw [show says O lr k = [32, 64] by simp [says, e]]; exact hx, hq⟩) hBc hBc.size hv6 hB6 hg6
          go_roundw
          case rel => exact ⟨k + 1, xs ++ [.slice (some ⟨wr.heap.size + 1, 0, none⟩) 2 2], hlt, by go_num, hfine' (fun h => by omega), hst.1, hst.2.1, Lib.hid hst.2.2.1, hst.2.2.2.1, hst.2.2.2.2⟩
          case measure => simp [intOf]; omega
      · obtain rfl : k = n := by omega
        obtain ⟨A3, d3, ev3⟩ := hv3.shaped
        obtain ⟨A4, d4, ev4⟩ := hv4.shaped
        rw [hxl.out] at ev4
        subst ev3 ev4
        clear hv3
        go_wp2_with fail
        refine (hashed_any ad k c O A L C lr _ (hp.below hB) hfine (by omega)).mono ?_
        rintro e w2 ⟨v8, xs8, rfl, hv8, hx8, ht8, hB2⟩
        obtain ⟨A8, d8, ev8⟩ := hv8.shaped
        rw [hx8] at ev8
        subst ev8
        have HX8 := Lib.hid hx8
        clear hx8
        have hv4' := hv4.below hB2 (Nat.le_refl _)
        have htold' := htold.below hB2
        have hBc := hB.trans (hB2.mono hB.size)
        clear hv4 htold
        go_wp2_with fail
        go_loopw [84] (fun i wr2 => ∃ m : Nat, m ≤ k ∧ i = .int .i64 m ∧ ∃ q, wr2 = w2.drewN q) (fun i _ => k - (intOf i).toNat)
        case atStart => exact ⟨0, Nat.zero_le _, rfl, 0, rfl⟩
        case round =>
          obtain ⟨m, hm, rfl, q, rfl⟩ := hrel
          by_cases hlt2 : m < k
          · obtain ⟨a, rfl, hab, c2, c3⟩ := (hp.below hBc).cell m hlt2
            have l1 : (m : Int) < (k : Int) := by omega
            obtain ⟨g4, e4, k4⟩ := hv4'.at_ (k := m) (by have := hxl.out; omega)
            obtain ⟨g8, e8, k8⟩ := hv8.at_ (k := m) (by have := HX8.out; omega)
            subst e4 e8
            have hFm := hfine.out m hlt2
            unfold Fine at hFm
            obtain ⟨f1, f2, f3, _⟩ := hFm
            have hcase : O m = 0 ∨ O m = 2 ∨ (O m = 1 ∨ O m = 3) := by omega
            rcases hcase with e | e | e
            · rw [e] at c2
              go_wp2_with fail
              go_quiet (fail)
              go_wp2_with fail
              go_roundw
              case rel => exact ⟨m + 1, hlt2, by go_num, _, rfl⟩
              case measure => simp [intOf]; omega
            · rw [e] at c2
              go_wp2_with fail
              go_quiet (fail)
              go_wp2_with fail
              go_roundw
              case rel => exact ⟨m + 1, hlt2, by go_num, _, rfl⟩
              case measure => simp [intOf]; omega
            · obtain ⟨Aa, na, ca, Ab, nb, cb, ea, eb, hsq⟩ := told_two ht8 htold' (m := m) (by have := HX8.out; omega) (by have := hxl.out; omega) e
              rw [ea] at k8
              rw [eb] at k4
              clear ea eb
              rcases e with e | e
              all_goals
                rw [e] at c2
                go_wp2_with fail
                go_quiet ((go_at_call 8; exact quiet_add (drew_zero (hsq _))))
                go_wp2_with fail
                go_roundw
                case rel => exact ⟨m + 1, hlt2, by go_num, _, rfl⟩
                case measure => simp [intOf]; omega
          · obtain rfl : m = k := by omega
            go_wp2_with fail
            go_ret
            have hz := hBc.mono hs1
            exact ⟨rfl, hB1.trans ⟨hz.os, hz.tape, hz.output, hz.size, hz.block⟩⟩
end Go.Proofs.Ytmhjbkkbbhioeaa
