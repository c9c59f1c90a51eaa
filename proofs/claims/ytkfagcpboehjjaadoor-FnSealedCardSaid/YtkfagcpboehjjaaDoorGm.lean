/- The reference's product in the field of GCM: sixteen bytes come back. No condition but where things lie. -/
import Derived.Test.YtkfagcpboehjjaaDoorGz
import Derived.Test.YtkfagcpboehjjaaDoorGha
import Derived.Test.YtkfagcpboehjjaaDoorModw
import Derived.Outline
import Derived.Deep.DeepCutAuto
namespace Go.Proofs.YtkfagcpboehjjaaDoor
set_option maxRecDepth 100000
open Go.RowKit

/-- Some bytes come back. -/
def SomeS (n : Nat) (w : World) (e : Ending) (w' : World) : Prop := ∃ g c f, e = .returned (.slice (some ⟨g, 0, none⟩) n c) ∧ n ≤ c ∧ w.heap.size ≤ g ∧ ArrB w' g n f ∧ Bf f ∧ Only [] w w'
theorem ArrB.keepB {w w' : World} {g n : Nat} {f : Nat → Int} (h : ArrB w g n f) (hk : w'.heap[g]? = w.heap[g]?) : ArrB w' g n f := let ⟨cs, hb, h1⟩ := h; ⟨cs, hk.trans hb, h1⟩
/-- In the midst. -/
structure PM (w wr : World) (gz gv : Nat) : Prop where
  o : Only [] w wr
  z : ∃ f, ArrB wr gz 16 f ∧ Bf f
  v : ∃ f, ArrB wr gv 16 f ∧ Bf f
  n : gz ≠ gv
  hz : w.heap.size ≤ gz
  hv : w.heap.size ≤ gv

set_option maxHeartbeats 4000000 in
theorem gmul_any (X Y : Addr) (cx cy : Nat) (x y : Nat → Int) (w : World) (hX : Src w X 16 x) (hx : Bf x) (hY : Src w Y 16 y) (hy : Bf y) (la : X.block < w.heap.size) (lb : Y.block < w.heap.size) :
    Calls Tryd.prog 50 #[.slice (some X) 16 cx, .slice (some Y) 16 cy] w (SomeS 16 w) := by
  have m1 := makeB16
  have hYr : Reads w w.heap.size 1 (some Y) 16 ((fst 16 y).map (Value.int .u8)) := ⟨by simp [fst_length], fun _ => ⟨Y, rfl, lb, fun j u hu => by
    have hj : j < 16 := by
      rcases Nat.lt_or_ge j 16 with h1 | h1
      · exact h1
      · rw [List.getElem?_eq_none (by simp [fst_length]; exact h1)] at hu; cases hu
    rw [hY j hj]
    simpa [fst, hj] using hu⟩⟩
  go_enter Tryd.func50, Tryd.ntmps50
  go_wp2_with fail
  have hb0 : Below w.heap.size w w.drew := (Below.refl _ _).drew
  have hY0 : Reads w.drew w.heap.size 1 (some Y) 16 ((fst 16 y).map (Value.int .u8)) := hYr
  have hz0 : ArrB (w.drew.alloc (.cells (ZB 16) 5)) w.heap.size 16 (fun _ => 0) := ArrB.new w.drew 16
  have i1 : OwnB (w.drew.alloc (.cells #[] 5)) w.heap.size (.slice (some ⟨w.heap.size, 0, none⟩) 0 0) [] := OwnB.empty w.drew (Nat.le_refl _)
  have i2 : OwnB ((w.drew.alloc (.cells (ZB 16) 5)).alloc (.cells #[] 5)) w.heap.size (.slice (some ⟨w.heap.size + 1, 0, none⟩) 0 0) [] := by
    have := OwnB.empty (w.drew.alloc (.cells (ZB 16) 5)) (base := w.heap.size) (by simp)
    rwa [World.size_alloc] at this
  have i3 : OwnB ((w.drew.alloc (.cells #[] 5)).alloc (.cells (ZB 16) 5)) w.heap.size (.slice (some ⟨w.heap.size, 0, none⟩) 0 0) [] := i1.alloc _
  have z3 : ArrB ((w.drew.alloc (.cells #[] 5)).alloc (.cells (ZB 16) 5)) (w.heap.size + 1) 16 (fun _ => 0) := by
    have := ArrB.new (w.drew.alloc (.cells #[] 5)) 16
    rwa [World.size_alloc] at this
  go_cut [5, 6] (fun z v w' => ∃ gz gv cz cv, 16 ≤ cz ∧ z = .slice (some ⟨gz, 0, none⟩) 16 cz ∧ v = .slice (some ⟨gv, 0, none⟩) 16 cv ∧ PM w w' gz gv)
  case first =>
    go_region_held3 (fun _ => True) (trivial)
      (first
        | (refine step_app2 _ rfl (.tmp 11) (.tmp 12) rfl w.heap.size (.slice (some ⟨w.heap.size, 0, none⟩) 0 0) [] rfl i1 w.heap.size (some Y) 16 cy (fst 16 y) rfl (hY0.alloc (Nat.le_refl _) _) (by decide) (by simp) ?_; intro v4 w4 hown4 hb4 hfar4 hv4)
        | (refine step_app2 _ rfl (.tmp 11) (.tmp 12) rfl w.heap.size (.slice (some ⟨w.heap.size + 1, 0, none⟩) 0 0) [] rfl i2 w.heap.size (some Y) 16 cy (fst 16 y) rfl ((hY0.alloc (Nat.le_refl _) _).alloc (by simp) _) (by decide) (by simp; omega) ?_; intro v4 w4 hown4 hb4 hfar4 hv4)
        | (refine step_app2 _ rfl (.tmp 11) (.tmp 12) rfl w.heap.size (.slice (some ⟨w.heap.size, 0, none⟩) 0 0) [] rfl i3 w.heap.size (some Y) 16 cy (fst 16 y) rfl ((hY0.alloc (Nat.le_refl _) _).alloc (by simp) _) (by decide) (by simp; omega) ?_; intro v4 w4 hown4 hb4 hfar4 hv4))
    all_goals (go_wp2_with fail)
    all_goals go_meet
    · rw [List.nil_append] at hown4
      obtain ⟨gv, cv, rfl, hcv, hgv, hV⟩ := hown4.arr (by decide)
      have hn : gv = w.heap.size + 1 ∨ gv = w.heap.size + 1 + 1 := by simpa [Value.ownBlock] using hv4
      exact ⟨w.heap.size, gv, 16, cv, Nat.le_refl _, rfl, rfl, ⟨((((Only.refl [] w).drew).alloc _).alloc _).below_ hb4 (Nat.le_refl _), ⟨fun _ => 0, (hz0.alloc (.cells #[] 5)).keepB (hfar4 _ (by simp; omega) (by simp [Value.ownBlock])), fun _ => by show (0 : Int) ≤ 0 ∧ (0 : Int) ≤ 255; omega⟩, ⟨_, hV, hy⟩, by omega, Nat.le_refl _, by omega⟩⟩
    · rw [List.nil_append] at hown4
      obtain ⟨gv, cv, rfl, hcv, hgv, hV⟩ := hown4.arr (by decide)
      have hn : gv = w.heap.size ∨ gv = w.heap.size + 1 + 1 := by simpa [Value.ownBlock] using hv4
      exact ⟨w.heap.size + 1, gv, 16, cv, Nat.le_refl _, rfl, rfl, ⟨((((Only.refl [] w).drew).alloc _).alloc _).below_ hb4 (Nat.le_refl _), ⟨fun _ => 0, z3.keepB (hfar4 _ (by simp) (by simp [Value.ownBlock])), fun _ => by show (0 : Int) ≤ 0 ∧ (0 : Int) ≤ 255; omega⟩, ⟨_, hV, hy⟩, by omega, by omega, by omega⟩⟩
    · rw [List.nil_append] at hown4
      obtain ⟨gv, cv, rfl, hcv, hgv, hV⟩ := hown4.arr (by decide)
      have hl := hV.lt
      have ho4 := ((((Only.refl [] w).drew).alloc (.cells #[] 5))).below_ hb4 (Nat.le_refl _)
      exact ⟨w4.heap.size, gv, 16, cv, Nat.le_refl _, rfl, rfl, ⟨ho4.alloc _, ⟨fun _ => 0, ArrB.new w4 16, fun _ => by show (0 : Int) ≤ 0 ∧ (0 : Int) ≤ 255; omega⟩, ⟨_, hV.alloc _, hy⟩, by omega, ho4.size, by omega⟩⟩
  case rest =>
    obtain ⟨gz, gv, cz, cv, hcz0, rfl, rfl, hp⟩ := hcut
    clear hb0 hY0 hz0 i1 i2 i3 z3 hYr m1
    go_wp2_with fail
    go_loopw [14, 5] (fun i z wr => ∃ k gz cz : Nat, k ≤ 128 ∧ i = .int .i64 k ∧ z = .slice (some ⟨gz, 0, none⟩) 16 cz ∧ 16 ≤ cz ∧ PM w wr gz gv) (fun i _ _ => 128 - (intOf i).toNat)
    case atStart => exact ⟨0, gz, cz, by omega, rfl, rfl, hcz0, hp⟩
    case round =>
      clear hp
      obtain ⟨k, gz, cz, hk, rfl, rfl, hcz, hp⟩ := hrel
      by_cases hlt : k < 128
      · as_aux_lemma =>
        have l1 : (k : Int) < 128 := by omega
        obtain ⟨q, q1, q2, q3⟩ : ∃ q : Nat, (k : Int) / 8 = (q : Int) ∧ (q : Int) < 16 ∧ q < 16 := ⟨k / 8, by omega, by omega, by omega⟩
        obtain ⟨r3, r4, r5⟩ : ∃ r3 : Nat, IntKind.i64.wrap (7 - (k : Int) % 8) = (r3 : Int) ∧ r3 ≤ 7 := ⟨7 - k % 8, by rw [IntWalk.i64_in _ (by omega)]; omega, by omega⟩
        obtain ⟨b, hb, hbb⟩ : ∃ b, wr.cell? (X.add q) = some (.int .u8 b) ∧ (0 ≤ b ∧ b ≤ 255) := ⟨_, (hX.only hp.o la (by simp)) q q3, hx q⟩
        have t1 : (0 : Int) ≤ (r3 : Int) := by omega
        by_cases hbit : bits .and .u8 (b / 2 ^ r3) 1 = 1
        · have hbt : (bits .and .u8 (b / 2 ^ r3) 1 == 1) = true := by simpa using hbit
          obtain ⟨vf, hvf, hvb⟩ := hp.v
          obtain ⟨zf, hzf, hzb⟩ := hp.z
          go_wp2_with fail
          refine (sxor_any ⟨gz, 0, none⟩ ⟨gv, 0, none⟩ cz 16 cv zf vf wr (Nat.le_refl _) (hzf.src0 (Nat.le_refl _)) (hvf.src0 (Nat.le_refl _)) hzf.lt hvf.lt).mono ?_
          rintro e w5 ⟨g5, c5, rfl, hc5, hg5, hx5, ho5⟩
          have lv := hvf.lt
          have sw := hp.o.size
          have hp5 : PM w w5 g5 gv := ⟨hp.o.trans ho5, ⟨_, hx5, xb_bf _ _⟩, ⟨vf, hvf.only ho5 (by simp), hvb⟩, by omega, by omega, hp.hv⟩
          clear hvf hvb hzf hzb hx5 ho5 hp
          clear vf zf
          obtain ⟨vf, hvf, hvb⟩ := hp5.v
          have h15 := hvf.cell (j := 15) (by omega)
          go_wp2_with fail
          go_loopw [9] (fun i wr2 => ∃ j : Nat, j ≤ 15 ∧ i = .int .i64 j ∧ ∃ f, ArrB wr2 gv 16 f ∧ Bf f ∧ Only [gv] w5 wr2) (fun i _ => (intOf i).toNat)
          case atStart => exact ⟨15, by omega, rfl, vf, hvf, hvb, Only.refl _ _⟩
          case round =>
            obtain ⟨j, hj, rfl, f, hf, hfb, hof⟩ := hrel
            by_cases hj0 : 0 < j
            · as_aux_lemma =>
              have l2 : (0 : Int) < (j : Int) := by omega
              have l3 : (j : Int) < 16 := by omega
              obtain ⟨p, p1, p2, p3, HP⟩ : ∃ p : Nat, IntKind.i64.wrap ((j : Int) - 1) = (p : Int) ∧ (p : Int) < 16 ∧ p < 16 ∧ Hid (p + 1 = j) := ⟨j - 1, by rw [IntWalk.i64_in _ (by omega)]; omega, by omega, by omega, Lib.hid (by omega)⟩
              obtain ⟨b1, hb1⟩ : ∃ b1, wr.cell? ⟨gv, j, none⟩ = some (.int .u8 b1) := ⟨_, hf.cell (by omega)⟩
              obtain ⟨b2, hb2⟩ : ∃ b2, wr.cell? ⟨gv, p, none⟩ = some (.int .u8 b2) := ⟨_, hf.cell p3⟩
              have fz := hf.frozen j
              clear h15
              go_wp2_with fail
              refine region_quiet_tail 15 (by kernel_rfl) (by kernel_rfl) ?_
              simp only [List.take_succ_cons, List.take_zero, List.drop_succ_cons, List.drop_zero]
              repeat (quiet_step (fail))
              refine wpQuiet_nil ?_
              intro _ hw'
              obtain ⟨nq, rfl⟩ := hw'
              go_wp2_with fail
              go_roundw
              case rel =>
                refine ⟨p, by have := HP.out; omega, by go_num, fun x => if x = j then _ else f x, (hf.drewN nq).set_ j _ (fun x _ => rfl), fun x => ?_, (hof.drewN nq).set1 (g := gv) (by simp) j _⟩
                show 0 ≤ (if x = j then _ else f x) ∧ (if x = j then _ else f x) ≤ 255
                split
                · exact u8_bits _ _ _
                · exact hfb x
              case measure => have := HP.out; simp [intOf]; omega
            · as_aux_lemma =>
              obtain rfl : j = 0 := by omega
              have c0 := hf.cell (j := 0) (by omega)
              have fz := hf.frozen 0
              have e0 := hfb 0
              have hf2 := hf.set_ (f' := fun x => if x = 0 then f 0 / 2 else f x) 0 (f 0 / 2) (fun x _ => rfl)
              have c1 := hf2.cell (j := 0) (by omega)
              simp only [if_true] at c1
              have fz1 := hf2.frozen 0
              have hb2f : Bf (fun x => if x = 0 then f 0 / 2 else f x) := fun x => by
                have := hfb x
                show 0 ≤ (if x = 0 then f 0 / 2 else f x) ∧ (if x = 0 then f 0 / 2 else f x) ≤ 255
                split <;> omega
              have hov : Only [gv] w5 (wr.setCell ⟨gv, 0, none⟩ (.int .u8 (f 0 / 2))) := hof.set1 (g := gv) (by simp) 0 (.int .u8 (f 0 / 2))
              obtain ⟨zf, hz, hzb⟩ := hp5.z
              have hvn := hp5.hv
              have hnn := hp5.n
              by_cases hl : bits .and .u8 (vf 15) 1 = 1
              · go_wp2_with fail
                go_roundw
                case rel =>
                  have ho9 := hov.set1 (g := gv) (by simp) 0 (.int .u8 (bits .xor .u8 (f 0 / 2) 225))
                  refine ⟨k + 1, g5, c5, by omega, by go_num, rfl, by assumption, ⟨hp5.o.then_ ho9 (by intro x hx hl; simp at hx; omega), ⟨zf, hz.only ho9 (by simp; exact hnn), hzb⟩, ⟨_, hf2.set_ (f' := fun x => if x = 0 then bits .xor .u8 (f 0 / 2) 225 else (if x = 0 then f 0 / 2 else f x)) 0 _ (fun x _ => rfl), fun x => ?_⟩, hnn, hp5.hz, hvn⟩⟩
                  show 0 ≤ (if x = 0 then _ else _) ∧ (if x = 0 then _ else _) ≤ 255
                  split
                  · exact u8_bits _ _ _
                  · exact hfb x
                case measure => simp [intOf]; omega
              · go_wp2_with fail
                go_roundw
                case rel => exact ⟨k + 1, g5, c5, by omega, by go_num, rfl, by assumption, ⟨hp5.o.then_ hov (by intro x hx hl; simp at hx; omega), ⟨zf, hz.only hov (by simp; exact hnn), hzb⟩, ⟨_, hf2, hb2f⟩, hnn, hp5.hz, hvn⟩⟩
                case measure => simp [intOf]; omega
        · have hbit0 : bits .and .u8 (b / 2 ^ r3) 1 = 0 := by
            have h1 : 0 ≤ b / 2 ^ r3 := Int.ediv_nonneg hbb.1 (Int.le_of_lt (Int.pow_pos (by decide)))
            have h2 : b / 2 ^ r3 ≤ b := Int.ediv_le_self _ hbb.1
            rw [and_one h1 (by omega)] at hbit ⊢
            omega
          clear hbit
          obtain ⟨w5, hw5⟩ : ∃ w5, w5 = wr := ⟨wr, rfl⟩
          subst hw5
          obtain ⟨vf, hvf, hvb⟩ := hp.v
          have h15 := hvf.cell (j := 15) (by omega)
          go_wp2_with fail
          go_loopw [9] (fun i wr2 => ∃ j : Nat, j ≤ 15 ∧ i = .int .i64 j ∧ ∃ f, ArrB wr2 gv 16 f ∧ Bf f ∧ Only [gv] w5 wr2) (fun i _ => (intOf i).toNat)
          case atStart => exact ⟨15, by omega, rfl, vf, hvf, hvb, Only.refl _ _⟩
          case round =>
            obtain ⟨j, hj, rfl, f, hf, hfb, hof⟩ := hrel
            by_cases hj0 : 0 < j
            · as_aux_lemma =>
              have l2 : (0 : Int) < (j : Int) := by omega
              have l3 : (j : Int) < 16 := by omega
              obtain ⟨p, p1, p2, p3, HP⟩ : ∃ p : Nat, IntKind.i64.wrap ((j : Int) - 1) = (p : Int) ∧ (p : Int) < 16 ∧ p < 16 ∧ Hid (p + 1 = j) := ⟨j - 1, by rw [IntWalk.i64_in _ (by omega)]; omega, by omega, by omega, Lib.hid (by omega)⟩
              obtain ⟨b1, hb1⟩ : ∃ b1, wr.cell? ⟨gv, j, none⟩ = some (.int .u8 b1) := ⟨_, hf.cell (by omega)⟩
              obtain ⟨b2, hb2⟩ : ∃ b2, wr.cell? ⟨gv, p, none⟩ = some (.int .u8 b2) := ⟨_, hf.cell p3⟩
              have fz := hf.frozen j
              clear h15
              go_wp2_with fail
              refine region_quiet_tail 15 (by kernel_rfl) (by kernel_rfl) ?_
              simp only [List.take_succ_cons, List.take_zero, List.drop_succ_cons, List.drop_zero]
              repeat (quiet_step (fail))
              refine wpQuiet_nil ?_
              intro _ hw'
              obtain ⟨nq, rfl⟩ := hw'
              go_wp2_with fail
              go_roundw
              case rel =>
                refine ⟨p, by have := HP.out; omega, by go_num, fun x => if x = j then _ else f x, (hf.drewN nq).set_ j _ (fun x _ => rfl), fun x => ?_, (hof.drewN nq).set1 (g := gv) (by simp) j _⟩
                show 0 ≤ (if x = j then _ else f x) ∧ (if x = j then _ else f x) ≤ 255
                split
                · exact u8_bits _ _ _
                · exact hfb x
              case measure => have := HP.out; simp [intOf]; omega
            · as_aux_lemma =>
              obtain rfl : j = 0 := by omega
              have c0 := hf.cell (j := 0) (by omega)
              have fz := hf.frozen 0
              have e0 := hfb 0
              have hf2 := hf.set_ (f' := fun x => if x = 0 then f 0 / 2 else f x) 0 (f 0 / 2) (fun x _ => rfl)
              have c1 := hf2.cell (j := 0) (by omega)
              simp only [if_true] at c1
              have fz1 := hf2.frozen 0
              have hb2f : Bf (fun x => if x = 0 then f 0 / 2 else f x) := fun x => by
                have := hfb x
                show 0 ≤ (if x = 0 then f 0 / 2 else f x) ∧ (if x = 0 then f 0 / 2 else f x) ≤ 255
                split <;> omega
              have hov : Only [gv] w5 (wr.setCell ⟨gv, 0, none⟩ (.int .u8 (f 0 / 2))) := hof.set1 (g := gv) (by simp) 0 (.int .u8 (f 0 / 2))
              obtain ⟨zf, hz, hzb⟩ := hp.z
              have hvn := hp.hv
              have hnn := hp.n
              by_cases hl : bits .and .u8 (vf 15) 1 = 1
              · go_wp2_with fail
                go_roundw
                case rel =>
                  have ho9 := hov.set1 (g := gv) (by simp) 0 (.int .u8 (bits .xor .u8 (f 0 / 2) 225))
                  refine ⟨k + 1, gz, cz, by omega, by go_num, rfl, by assumption, ⟨hp.o.then_ ho9 (by intro x hx hl; simp at hx; omega), ⟨zf, hz.only ho9 (by simp; exact hnn), hzb⟩, ⟨_, hf2.set_ (f' := fun x => if x = 0 then bits .xor .u8 (f 0 / 2) 225 else (if x = 0 then f 0 / 2 else f x)) 0 _ (fun x _ => rfl), fun x => ?_⟩, hnn, hp.hz, hvn⟩⟩
                  show 0 ≤ (if x = 0 then _ else _) ∧ (if x = 0 then _ else _) ≤ 255
                  split
                  · exact u8_bits _ _ _
                  · exact hfb x
                case measure => simp [intOf]; omega
              · go_wp2_with fail
                go_roundw
                case rel => exact ⟨k + 1, gz, cz, by omega, by go_num, rfl, by assumption, ⟨hp.o.then_ hov (by intro x hx hl; simp at hx; omega), ⟨zf, hz.only hov (by simp; exact hnn), hzb⟩, ⟨_, hf2, hb2f⟩, hnn, hp.hz, hvn⟩⟩
                case measure => simp [intOf]; omega
      · as_aux_lemma =>
        have l1 : ¬ (k : Int) < 128 := by omega
        go_wp2_with fail
        go_ret
        obtain ⟨zf, hz, hzb⟩ := hp.z
        exact ⟨gz, cz, zf, rfl, hcz, hp.hz, hz, hzb, hp.o⟩
end Go.Proofs.YtkfagcpboehjjaaDoor
