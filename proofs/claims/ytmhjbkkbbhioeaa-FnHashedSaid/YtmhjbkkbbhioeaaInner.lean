/- The library's steps: the closure that leads the object through them, and what it hands out. No condition. -/
import Derived.Test.YtmhjbkkbbhioeaaMid
import Derived.Test.YtmhjbkkbbhioeaaCalm
import Derived.WalkKit
import Derived.LoopTactic
import Derived.WalkSpells
import Derived.Deep.RegionLaw
namespace Go.Proofs.Ytmhjbkkbbhioeaa
open Go.RowKit

theorem app_zero {ops : Array Oper} {rest : List Oper} {o : Oper} {a : Act} {Q : Exit → Act → World → Prop} (w : World) (hgd : o.guard = none) (s x : Operand)
    (ho : o.op = .call { callee := .builtin .append, args := #[s, x], argTypes := #[24, 24] }) (g : Nat) (A : Option Addr) (c : Nat) (hs : a.eval s = .slice (some ⟨g, 0, none⟩) 0 0) (hx : a.eval x = .slice A 0 c)
    (h : wpList Try.prog ops Q rest (a.put o.dst (.slice (some ⟨g, 0, none⟩) 0 0)) w) : wpList Try.prog ops Q (o :: rest) a w := by
  obtain ⟨i0, hi, hz0, hz1, hz2⟩ := info_parts info5
  have hrun : (Builtin.append_ #[24, 24] o.type #[.slice (some ⟨g, 0, none⟩) 0 0, .slice A 0 c]).run Try.prog w = .ok (.slice (some ⟨g, 0, none⟩) 0 0) w := by
    cases A <;> simp [Builtin.append_, run_underlying Try.underlying24, sizeOf, typeInfo, hi, Builtin.lenOf, Builtin.firstCells, storeCells, loadCells, loadCellsFrom]
  refine wpList_plain hgd fun K hK => ?_
  unfold Oper.wp execOp
  simp only [ho, resolve, invoke, builtin, Sem.run_bind, Sem.run_pure, Result.andThen_ok, List.map_toArray, List.map_cons, List.map_nil, hs, hx, hrun]
  exact hK _ _ h

theorem own_zero (A : Option Addr) (c : Nat) (w : World) :
    Calls Try.prog 16 #[.slice A 0 c] w fun e w' => e = .returned (.slice (some ⟨w.heap.size, 0, none⟩) 0 0) ∧ Below w.heap.size w w' := by
  go_enter Try.func16, Try.ntmps16
  go_wp2_with (at_builtin; refine app_zero _ rfl (.tmp 3) (.tmp 4) rfl w.heap.size A c rfl rfl ?_)
  go_ret
  exact ⟨rfl, (Below.refl _ _).alloc (Nat.le_refl _) _⟩

/-- append of slices onto a row of the call's own, as a step of a region that draws. -/
theorem step_rows {ops : Array Oper} {o : Oper} {a : Act} {K : Act → World → Prop} {Q : Exit → Act → World → Prop} {E : Prop} (w : World) (hgd : o.guard = none) (s x : Operand)
    (ho : o.op = .call { callee := .builtin .append, args := #[s, x], argTypes := #[22, 22] })
    (base : Nat) (v : Value) (l : List Value) (hs : a.eval s = v) (hown : OwnL w base v l)
    (B : Nat) (A : Option Addr) (m c : Nat) (news : List Value) (hx : a.eval x = .slice A m c) (hr : Reads w B 1 A m news) (h1 : ∀ u ∈ news, u.oneCell' = true)
    (hlen : l.length + m ≤ 1000000) (hbase : base ≤ w.heap.size)
    (h : ∀ v' w', OwnL w' base v' (l ++ news) → Below base w w' → w.grownBy w' v.ownBlock → K (a.put o.dst v') w') :
    if Region.wanted o (yielded ops a.tmps) = true then Oper.wp Try.prog o a w K Q else E := by
  obtain ⟨i0, hi, hz0, hz1, hz2⟩ := info_parts info24
  have hm : news.length = m := by have := hr.1; simpa using this
  refine step_append_any w hgd s x 22 ho base 24 i0 _ 1 24 Try.underlying22 hi hz0 hz1 hz2 rfl (by decide) v l.length _ hs hown B A m c _ hx hr h1 (by unfold maxLen; omega) (by omega) hbase ?_
  intro v1 w1 hown1 hg1 hv1
  refine h v1 w1 ?_ ((Below.refl _ _).grown hg1 hbase (fun k hk => (World.ownsRow.lt hown k hk).1)) hg1
  unfold OwnL
  rw [List.length_append, hm]
  exact hown1

def InnerPost (w : World) (b1 n : Nat) (O : Nat → Int) (lr : Nat → List Int) (e : Ending) (w' : World) : Prop :=
  e = .returned (.tuple #[]) ∧ ∃ v xs, Blk w' b1 22 #[v] ∧ OwnL w' w.heap.size v xs ∧ xs.length = n ∧ Told w' w.heap.size xs O lr none ∧ w.grownBy w' (some b1)
theorem Midd.done {w W : World} {b1 n : Nat} {O : Nat → Int} {lr : Nat → List Int} {t : List Int} (h : Midd w W b1 n O lr t) : InnerPost w b1 n O lr (.returned (.tuple #[])) W := by
  obtain ⟨v, vo, xs, _, _, e3, e4, e5, e6, e7, _⟩ := h
  exact ⟨rfl, vo, xs, e3, e4, e5, e6.other (fun g hg => by cases hg) says_pos, e7⟩
theorem Midd.grown {w W : World} {b1 n : Nat} {O : Nat → Int} {lr : Nat → List Int} {t : List Int} (h : Midd w W b1 n O lr t) : w.grownBy W (some b1) := by
  obtain ⟨v, vo, xs, _, _, _, _, _, _, e7, _⟩ := h; exact e7

theorem sm3_len (l : List Int) : (sm3 l).length = 32 := rfl
set_option maxHeartbeats 4000000 in
theorem inner26_any (W0 : World) (ad : Option Addr) (n c : Nat) (O : Nat → Int) (A : Nat → Option Addr) (L C : Nat → Nat) (lr : Nat → List Int) (hp : Steps W0 ad n O A L C lr) (w : World) (hw0 : Below W0.heap.size W0 w) (b0 b1 : Nat)
    (h0 : Blk w b0 32 #[.slice ad n c]) (h1 : Blk w b1 22 #[.slice none 0 0]) (hb1 : W0.heap.size ≤ b1) (hfine : Hid (∀ j, j < n → Fine O L j)) (hn : n ≤ 50) :
    Calls Try.prog 26 #[.pointer (some ⟨b0, 0, none⟩), .pointer (some ⟨b1, 0, none⟩)] w (InnerPost w b1 n O lr) := by
  have hb1w := h1.lt
  have hb0w := h0.lt
  have hs0 := hw0.size
  go_enter Try.func26, Try.ntmps26
  go_wp2_with fail
  refine (new_f w).mono ?_
  rintro e w1 ⟨rfl, ⟨v0, hO, hV, hbv⟩, hB1⟩
  have c0 := (h0.below hB1 hb0w).cell 0
  simp only [List.getElem?_toArray, List.getElem?_cons_zero] at c0
  have hM0 : Midd w w1 b1 0 O lr [] := Midd.start hO hV h1 hB1
  clear h0 h1 hO hV hbv
  go_wp2_with fail
  go_loopw [9] (fun i wr => ∃ k : Nat, k ≤ n ∧ i = .int .i64 k ∧ Midd w wr b1 k O lr (wrt O lr k)) (fun i _ => n - (intOf i).toNat)
  case atStart => exact ⟨0, Nat.zero_le _, rfl, hM0⟩
  case round =>
    clear hM0 c0 hB1
    obtain ⟨k, hk, rfl, hM⟩ := hrel
    by_cases hlt : k < n
    · have hBw : Below W0.heap.size W0 wr := hw0.trans (below_gb hM.grown hb1 hs0)
      obtain ⟨a, rfl, hab, c2, c3⟩ := (hp.below hBw).cell k hlt
      rw [add_odd] at c3
      have l1 : (k : Int) < (n : Int) := by omega
      have hBa : Below W0.heap.size W0 (wr.alloc (.cells #[.int .i64 (O k), .slice (A k) (L k) (C k)] 35)) := hBw.alloc hBw.size _
      have hM1 := hM.alloc (.cells #[.int .i64 (O k), .slice (A k) (L k) (C k)] 35)
      have hrd := ((hp.below hBa).reads k hlt)
      have hF := hfine.out k hlt
      unfold Fine at hF
      obtain ⟨f1, f2, f3, f4⟩ := hF
      have F4 := Lib.hid f4
      clear f4 hM
      have hwl := wrt_length (O := O) (L := L) (lr := lr) k fun j hj => ⟨hfine.out j (by omega), hp.lens (by omega)⟩
      have hby := wrt_byte (O := O) (lr := lr) k fun j hj => hp.byte j (by omega)
      have hbk := hp.byte k hlt
      have HW := Lib.hid hby
      have HK := Lib.hid hbk
      clear hby hbk
      have hcase : O k = 0 ∨ O k = 1 ∨ O k = 2 ∨ O k = 3 := by omega
      rcases hcase with e | e | e | e
      · rw [e] at hM1 hrd hBa
        go_wp2_with fail
        refine (own_any (A k) (L k) (C k) (lr k) _ hrd (by omega)).mono ?_
        rintro e' w2 ⟨v2, rfl, hv2, hB2⟩
        obtain ⟨A2, d2, e2⟩ := hv2.shaped
        subst e2
        have hl2 : (lr k).length ≤ 500 := by have := hp.lens hlt; omega
        go_wp2_with fail
        refine (write_mid hM1 A2 _ d2 hv2 hB2 HW.out HK.out (by omega) (by omega)).mono ?_
        rintro e' w3 ⟨rfl, hM3⟩
        have hsz3 := hM3.grown.size
        go_wp2_with fail
        obtain ⟨vo, xs, k1, k2, k3, hL, hxl, hcell, hpush⟩ := hM3.push
        have HX := Lib.hid hxl
        have HP := Lib.hid hpush
        have HC := Lib.hid hcell
        clear hxl hpush hcell hM3
        have hsay : Reads w3 w3.heap.size 1 none 0 ((says O lr k).map (Value.int .u8)) := by rw [show says O lr k = [] by simp [says, e]]; exact Reads.none_
        go_region_law (first
          | (refine step_rows _ rfl (.tmp 42) (.tmp 45) rfl w.heap.size vo xs rfl (OwnL.alloc (OwnL.below hL hB5' (Nat.le_refl _)) _) _ _ 1 1 [.slice A5 (says O lr k).length c5] rfl (Reads.lit w5 24 #[.slice A5 (says O lr k).length c5] (Nat.le_refl _)) (by simp; rfl) (by have := HX.out; simp; omega) (by have := hB5'.size; simp; omega) ?_; intro v6 w6 hv6 hB6 hg6; obtain ⟨A6, c6, e7⟩ := hv6.shaped; subst e7; obtain ⟨k6, z6⟩ := HC.out w5 w6 _ hB5' hg6; have HG := Lib.hid (HP.out w5 w6 _ _ hB5' hx5 hv6 hg6); clear hB6 hg6 hv6)
          | (go_simp; go_wp2_with (go_at_call 16; refine (own_any none 0 0 (says O lr k) w3.drew hsay (by omega)).mono ?_; rintro e5 w5 ⟨x5, rfl, hx5, hB5⟩; obtain ⟨A5, c5, e6⟩ := hx5.shaped; subst e6; have hB5' : Below w3.heap.size w3 w5 := ⟨hB5.os, hB5.tape, hB5.output, hB5.size, hB5.block⟩; have k5 : w5.cell? ⟨b1, 0, none⟩ = some vo := (hB5'.cell (p := ⟨b1, 0, none⟩) k3).trans k1; have k5a : (w5.alloc (.cells #[.slice A5 (says O lr k).length c5] 24)).cell? ⟨b1, 0, none⟩ = some vo := ((hB5'.alloc hB5'.size _).cell (p := ⟨b1, 0, none⟩) k3).trans k1)))
        all_goals
          go_wp2_with fail
          go_roundw
          case rel => exact ⟨k + 1, hlt, by go_num, by rw [show wrt O lr (k + 1) = wrt O lr k ++ lr k by simp [wrt, e]]; have h := HG.out; rw [List.length_append] at h; exact h⟩
          case measure => simp [intOf]; omega
      · have hL0 := F4.out e
        rw [e, hL0] at hM1 hrd hBa
        rw [hL0] at c3
        clear hL0
        go_wp2_with fail
        refine (own_zero (A k) (C k) _).mono ?_
        rintro e' w2 ⟨rfl, hB2⟩
        go_wp2_with fail
        refine (sum_mid (hM1.below hB2) _ HW.out (by omega)).mono ?_
        rintro e' w3 ⟨r, rfl, hr3, hM3⟩
        obtain ⟨A3, d3, e3⟩ := hr3.shaped
        subst e3
        have hr32 : (sm3 (wrt O lr k)).length ≤ 1000 := by rw [sm3_len]; omega
        have hr3r := hr3.reads.2
        have hsz3 := hM3.grown.size
        go_wp2_with fail
        obtain ⟨vo, xs, k1, k2, k3, hL, hxl, hcell, hpush⟩ := hM3.push
        have HX := Lib.hid hxl
        have HP := Lib.hid hpush
        have HC := Lib.hid hcell
        clear hxl hpush hcell hM3
        have hsay : Reads w3 w3.heap.size 1 A3 (sm3 (wrt O lr k)).length ((says O lr k).map (Value.int .u8)) := by rw [show says O lr k = sm3 (wrt O lr k) by simp [says, e]]; exact hr3r
        go_region_law (first
          | (refine step_rows _ rfl (.tmp 42) (.tmp 45) rfl w.heap.size vo xs rfl (OwnL.alloc (OwnL.below hL hB5' (Nat.le_refl _)) _) _ _ 1 1 [.slice A5 (says O lr k).length c5] rfl (Reads.lit w5 24 #[.slice A5 (says O lr k).length c5] (Nat.le_refl _)) (by simp; rfl) (by have := HX.out; simp; omega) (by have := hB5'.size; simp; omega) ?_; intro v6 w6 hv6 hB6 hg6; obtain ⟨A6, c6, e7⟩ := hv6.shaped; subst e7; obtain ⟨k6, z6⟩ := HC.out w5 w6 _ hB5' hg6; have HG := Lib.hid (HP.out w5 w6 _ _ hB5' hx5 hv6 hg6); clear hB6 hg6 hv6)
          | (go_simp; go_wp2_with (go_at_call 16; refine (own_any A3 (sm3 (wrt O lr k)).length d3 (says O lr k) w3.drew hsay (by omega)).mono ?_; rintro e5 w5 ⟨x5, rfl, hx5, hB5⟩; obtain ⟨A5, c5, e6⟩ := hx5.shaped; subst e6; have hB5' : Below w3.heap.size w3 w5 := ⟨hB5.os, hB5.tape, hB5.output, hB5.size, hB5.block⟩; have k5 : w5.cell? ⟨b1, 0, none⟩ = some vo := (hB5'.cell (p := ⟨b1, 0, none⟩) k3).trans k1; have k5a : (w5.alloc (.cells #[.slice A5 (says O lr k).length c5] 24)).cell? ⟨b1, 0, none⟩ = some vo := ((hB5'.alloc hB5'.size _).cell (p := ⟨b1, 0, none⟩) k3).trans k1)))
        all_goals
          go_wp2_with fail
          go_roundw
          case rel => exact ⟨k + 1, hlt, by go_num, by rw [show wrt O lr (k + 1) = wrt O lr k by simp [wrt, e]]; have h := HG.out; rw [List.length_append] at h; exact h⟩
          case measure => simp [intOf]; omega
      · rw [e] at hM1 hrd hBa
        go_wp2_with fail
        refine (reset_mid hM1).mono ?_
        rintro e' w3 ⟨rfl, hM3⟩
        have hsz3 := hM3.grown.size
        go_wp2_with fail
        obtain ⟨vo, xs, k1, k2, k3, hL, hxl, hcell, hpush⟩ := hM3.push
        have HX := Lib.hid hxl
        have HP := Lib.hid hpush
        have HC := Lib.hid hcell
        clear hxl hpush hcell hM3
        have hsay : Reads w3 w3.heap.size 1 none 0 ((says O lr k).map (Value.int .u8)) := by rw [show says O lr k = [] by simp [says, e]]; exact Reads.none_
        go_region_law (first
          | (refine step_rows _ rfl (.tmp 42) (.tmp 45) rfl w.heap.size vo xs rfl (OwnL.alloc (OwnL.below hL hB5' (Nat.le_refl _)) _) _ _ 1 1 [.slice A5 (says O lr k).length c5] rfl (Reads.lit w5 24 #[.slice A5 (says O lr k).length c5] (Nat.le_refl _)) (by simp; rfl) (by have := HX.out; simp; omega) (by have := hB5'.size; simp; omega) ?_; intro v6 w6 hv6 hB6 hg6; obtain ⟨A6, c6, e7⟩ := hv6.shaped; subst e7; obtain ⟨k6, z6⟩ := HC.out w5 w6 _ hB5' hg6; have HG := Lib.hid (HP.out w5 w6 _ _ hB5' hx5 hv6 hg6); clear hB6 hg6 hv6)
          | (go_simp; go_wp2_with (go_at_call 16; refine (own_any none 0 0 (says O lr k) w3.drew hsay (by omega)).mono ?_; rintro e5 w5 ⟨x5, rfl, hx5, hB5⟩; obtain ⟨A5, c5, e6⟩ := hx5.shaped; subst e6; have hB5' : Below w3.heap.size w3 w5 := ⟨hB5.os, hB5.tape, hB5.output, hB5.size, hB5.block⟩; have k5 : w5.cell? ⟨b1, 0, none⟩ = some vo := (hB5'.cell (p := ⟨b1, 0, none⟩) k3).trans k1; have k5a : (w5.alloc (.cells #[.slice A5 (says O lr k).length c5] 24)).cell? ⟨b1, 0, none⟩ = some vo := ((hB5'.alloc hB5'.size _).cell (p := ⟨b1, 0, none⟩) k3).trans k1)))
        all_goals
          go_wp2_with fail
          go_roundw
          case rel => exact ⟨k + 1, hlt, by go_num, by rw [show wrt O lr (k + 1) = [] by simp [wrt, e]]; have h := HG.out; rw [List.length_append] at h; exact h⟩
          case measure => simp [intOf]; omega
      · rw [e] at hM1 hrd hBa
        go_wp2_with (first | (go_at_call 31; refine (size_any _ _).mono ?_; rintro e' w' ⟨rfl, rfl⟩) | (go_at_call 32; refine (blockSize_any _ _).mono ?_; rintro e' w' ⟨rfl, rfl⟩))
        have hM3 := hM1.alloc (.cells #[.int .u8 32, .int .u8 64] 5)
        have hs3 : Reads ((wr.alloc (.cells #[.int .i64 3, .slice (A k) (L k) (C k)] 35)).alloc (.cells #[.int .u8 32, .int .u8 64] 5)) ((wr.alloc (.cells #[.int .i64 3, .slice (A k) (L k) (C k)] 35)).alloc (.cells #[.int .u8 32, .int .u8 64] 5)).heap.size 1 (some ⟨wr.heap.size + 1, 0, none⟩) 2 [.int .u8 32, .int .u8 64] := by
          have h := Reads.lit (wr.alloc (.cells #[.int .i64 3, .slice (A k) (L k) (C k)] 35)) 5 #[.int .u8 32, .int .u8 64] (Nat.le_refl _)
          rw [World.size_alloc] at h
          exact h.more (by simp)
        generalize (wr.alloc (.cells #[.int .i64 3, .slice (A k) (L k) (C k)] 35)).alloc (.cells #[.int .u8 32, .int .u8 64] 5) = w3 at *
        have hsz3 := hM3.grown.size
        go_wp2_with fail
        obtain ⟨vo, xs, k1, k2, k3, hL, hxl, hcell, hpush⟩ := hM3.push
        have HX := Lib.hid hxl
        have HP := Lib.hid hpush
        have HC := Lib.hid hcell
        clear hxl hpush hcell hM3
        have hsay : Reads w3 w3.heap.size 1 (some ⟨wr.heap.size + 1, 0, none⟩) 2 ((says O lr k).map (Value.int .u8)) := by rw [show says O lr k = [32, 64] by simp [says, e]]; exact hs3
        go_region_law (first
          | (refine step_rows _ rfl (.tmp 42) (.tmp 45) rfl w.heap.size vo xs rfl (OwnL.alloc (OwnL.below hL hB5' (Nat.le_refl _)) _) _ _ 1 1 [.slice A5 (says O lr k).length c5] rfl (Reads.lit w5 24 #[.slice A5 (says O lr k).length c5] (Nat.le_refl _)) (by simp; rfl) (by have := HX.out; simp; omega) (by have := hB5'.size; simp; omega) ?_; intro v6 w6 hv6 hB6 hg6; obtain ⟨A6, c6, e7⟩ := hv6.shaped; subst e7; obtain ⟨k6, z6⟩ := HC.out w5 w6 _ hB5' hg6; have HG := Lib.hid (HP.out w5 w6 _ _ hB5' hx5 hv6 hg6); clear hB6 hg6 hv6)
          | (go_simp; go_wp2_with (go_at_call 16; refine (own_any (some ⟨wr.heap.size + 1, 0, none⟩) 2 2 (says O lr k) w3.drew hsay (by omega)).mono ?_; rintro e5 w5 ⟨x5, rfl, hx5, hB5⟩; obtain ⟨A5, c5, e6⟩ := hx5.shaped; subst e6; have hB5' : Below w3.heap.size w3 w5 := ⟨hB5.os, hB5.tape, hB5.output, hB5.size, hB5.block⟩; have k5 : w5.cell? ⟨b1, 0, none⟩ = some vo := (hB5'.cell (p := ⟨b1, 0, none⟩) k3).trans k1; have k5a : (w5.alloc (.cells #[.slice A5 (says O lr k).length c5] 24)).cell? ⟨b1, 0, none⟩ = some vo := ((hB5'.alloc hB5'.size _).cell (p := ⟨b1, 0, none⟩) k3).trans k1)))
        all_goals
          go_wp2_with fail
          go_roundw
          case rel => exact ⟨k + 1, hlt, by go_num, by rw [show wrt O lr (k + 1) = wrt O lr k by simp [wrt, e]]; have h := HG.out; rw [List.length_append] at h; exact h⟩
          case measure => simp [intOf]; omega
    · obtain rfl : k = n := by omega
      go_wp2_with fail
      go_end0
      exact hM.done
end Go.Proofs.Ytmhjbkkbbhioeaa
