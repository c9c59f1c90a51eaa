/-
  The curve, and what it hands out. No condition.
-/
import Derived.Test.YtiegapnfbeemcaaGreatDoorA50
import Derived.Deep.MidRow
import Derived.Test.YtiegapnfbeemcaaGreatDoorA63
import Derived.Test.YtiegapnfbeemcaaGreatDoorA05
import Derived.Lib.Hide
import Derived.LoopTactic
namespace Go.Proofs.YtiegapnfbeemcaaGreatDoor.X
set_option maxRecDepth 1000000
open Go.RowKit

def isSeq : Nat → Code → Bool
  | 0, _ => true
  | n + 1, .seq _ b => isSeq n b
  | _, _ => false
section
variable {call : CallX} {N : Nat}
theorem head_sound (hc : CallOk call) : ∀ (n fuel : Nat) (c : Code) (s s' : St), isSeq n c = true → codeX call N fuel (headC n c) s = some (.nor, s') → ∀ (φ : Env) (a : Act) (w : World) (Q : Exit → Act → World → Prop), SR N φ s.T s.H s.D a w →
    (∀ ψ a' w', EX φ ψ w → FR φ w w' → SR N ψ s'.T s'.H s'.D a' w' → (tailC n c).wp Tryz.prog Q a' w') → c.wp Tryz.prog Q a w
  | 0, fuel, c, s, s', _, h, φ, a, w, Q, hS, hQ => by
    cases fuel with
    | zero => cases h
    | succ m =>
      have h : some (Ex.nor, s) = some (Ex.nor, s') := h
      injection h with h
      injection h with _ h
      subst h
      exact hQ φ a w (EX.refl _ _) (FR.refl _ _) hS
  | n + 1, fuel, c, s, s', hs, h, φ, a, w, Q, hS, hQ => by
    cases c with
    | seq x y =>
      cases fuel with
      | zero => cases h
      | succ m =>
        have h : (match codeX call N m x s with
          | some (.nor, s) => codeX call N m (headC n y) s
          | r => r) = some (.nor, s') := h
        split at h
        · rename_i s1 h1
          refine wp_seq (code_sound hc m x s .nor s1 h1 φ a w _ hS fun ψ a1 w1 hX hF hS1 => ?_)
          exact head_sound hc n m y s1 s' hs h ψ a1 w1 Q hS1 fun χ a2 w2 hX2 hF2 hS2 => hQ χ a2 w2 (hX.trans hX2 hF.size) (hF.trans hX hF2) hS2
        · rename_i hr
          exact absurd h (hr s')
    | _ => cases hs
end
theorem body77_is : Tryz.f77.body = some body77 := by kernel_rfl
theorem seq77 : isSeq 15 body77 = true := by kernel_rfl
def tail77 : Code := .seq (.region 15 #[{ dst := some 91, op := .load 122 (.tmp 1), type := 122, pos := "p256.go:78", after := #[], guard := none }, { dst := none, op := .store 122 (.tmp 0) (.tmp 91), type := 0, pos := "p256.go:78", after := #[{ on := 0, ground := .data }, { on := 0, ground := .phase }], guard := none }] false) .ret
theorem tail77_is : tailC 15 body77 = tail77 := by kernel_rfl
theorem ntm77 : Tryz.f77.ntmps = 92 := by kernel_rfl
theorem und122 : ∃ d, Tryz.prog.underlying 122 = some d ∧ d.isRow = true := by
  cases h : Tryz.prog.underlying 122 with
  | some d => exact ⟨d, rfl, by have : (Tryz.prog.underlying 122).map (·.isRow) = some true := by kernel_rfl
                                rw [h] at this; exact Option.some.inj this⟩
  | none => exact absurd (show (Tryz.prog.underlying 122).isSome = true by kernel_rfl) (by rw [h]; simp)
theorem size122 : (Tryz.prog.info? 122).map (·.size) = some 38 := by kernel_rfl
/-- A block's cells as the executor has them. -/
theorem WR.cells {φ : Env} {H : Heap} {w : World} (h : WR φ H w) {i : Nat} {B : X.Blk} (hB : H[i]? = some B) (hl : B.live = true) : ∃ p us, φ[i]? = some p ∧ us.length = B.cells.length ∧ w.rangeAt p.1 0 us ∧ w.there p.1 0 us.length ∧ ∀ v ∈ us, v.oneCell' = true := by
  obtain ⟨p, cs, hp, hb, _, hc⟩ := h.blk i B hB hl
  have hat : ∀ j, j < B.cells.length → ∃ y, cs[j]? = some y ∧ y.oneCell' = true := fun j hj => by
    obtain ⟨ho, y, hy, hm⟩ := hc j _ (List.getElem?_eq_getElem hj)
    exact ⟨y, hy, (one_cell ho hm).2⟩
  refine ⟨p, (List.range B.cells.length).map fun j => (cs[j]?).getD undef, hp, by simp, fun j v hv => ?_, fun j hj => ?_, fun v hv => ?_⟩
  · have hj : j < B.cells.length := by
      have := (List.getElem?_eq_some_iff.1 hv).1
      simpa using this
    obtain ⟨y, hy, _⟩ := hat j hj
    simp [hj, hy] at hv
    rw [Nat.zero_add, hb.cell, hy, hv]
  · have hj : j < B.cells.length := by simpa using hj
    obtain ⟨y, hy, _⟩ := hat j hj
    rw [Nat.zero_add, hb.cell, hy]
    exact ⟨rfl, hb.frozen _⟩
  · obtain ⟨j, hj, rfl⟩ := List.mem_map.1 hv
    obtain ⟨y, hy, h1⟩ := hat j (List.mem_range.1 hj)
    rw [hy]; exact h1
theorem ptr_of {φ : Env} {b : Nat} {u : Value} (h : mv φ (.pointer (some ⟨b, 0, none⟩)) = some u) {p : Nat × Nat} (hp : φ[b]? = some p) : u = .pointer (some ⟨p.1, 0, none⟩) := by
  obtain ⟨q, hq, e⟩ := mv_ptr h
  rw [hp] at hq; injection hq with hq
  rw [e, hq]
theorem curve_any (eb : Nat) (w : World) (hW : WR (E0 eb) H0 w) : Calls Tryz.prog 77 #[] w fun e w' => ∃ cs : Array Value, e = .returned (.agg cs) ∧ Below w.heap.size w w' := by
  refine calls_of_wp Tryz.func77 body77_is ?_
  rw [ntm77]
  have hrun := K77_run
  have hok : CallOk (callK (knownX knowns77) (findX tabX) 40) := callK_ok (known_ok knowns77_ok) find_ok 40
  split at hrun
  case h_2 => cases hrun
  rename_i s hs
  unfold last77 at hrun
  split at hrun
  case h_2 => cases hrun
  rename_i h0 h1 hD
  injection hrun with hrun
  injection hrun with _ hH
  refine head_sound hok 15 FUEL body77 ⟨.nil, H0, []⟩ s seq77 hs (E0 eb) _ w _ ⟨by simp, by omega, fun t u hu => ?_, hW, trivial⟩ fun ψ a w1 hX hF hS => ?_
  · rw [get_nil] at hu; cases hu
  rw [tail77_is]
  have hmem := hS.mem
  rw [hH] at hmem
  have q0 := hS.tmps 0 _ h0
  have q1 := hS.tmps 1 _ h1
  have hdd : a.defers = [] := by
    have := hS.dfr
    rw [hD] at this
    cases hq : a.defers with
    | nil => rfl
    | cons d ds => rw [hq] at this; exact this.elim
  obtain ⟨B4, hB4, hl4, hc4⟩ : ∃ B, K77r[4]? = some B ∧ B.live = true ∧ B.cells.length = 38 := ⟨_, rfl, rfl, rfl⟩
  obtain ⟨B5, hB5, hl5, hc5⟩ : ∃ B, K77r[5]? = some B ∧ B.live = true ∧ B.cells.length = 38 := ⟨_, rfl, rfl, rfl⟩
  obtain ⟨p4, us4, hp4, hn4, _, ht4, _⟩ := hmem.cells hB4 hl4
  obtain ⟨p5, us5, hp5, hn5, hr5, _, ho5⟩ := hmem.cells hB5 hl5
  have e0 := ptr_of q0 hp4
  have e1 := ptr_of q1 hp5
  rw [hc4] at hn4
  rw [hc5] at hn5
  rw [hn4] at ht4
  obtain ⟨d, hu, hd⟩ := und122
  have h4 : K77r.take 4 = H0 := by kernel_rfl
  have hB1 : Below w.heap.size w w1 := OutX.below hW hX hmem hF (fun i q hq => by
    obtain ⟨i', q', b, _, h0, e, hb, hl, hc⟩ := at0 hq
    exact .inr ⟨i', q', b, h0, e, hb, keep0 h4 hb, hl, hc⟩) (Nat.le_refl _)
  have hnew : w.heap.size ≤ p4.1 := by
    rcases hX.2 4 p4 hp4 with ⟨j, hj⟩ | h
    · obtain ⟨i', q', b, hj4, h0, e, hb, hl, _⟩ := at0 hj
      have := hmem.inj i' 4 b B4 q' p4 (keep0 h4 hb) hB4 hl hl4 (at_mono hX.1 h0) hp4 e
      omega
    · exact h
  have hsz := hS.size
  have k0 : ∀ v, (a.put (some 91) v).eval (.tmp 0) = .pointer (some ⟨p4.1, 0, none⟩) := fun v => by
    rw [← e0]
    show (a.tmps.setIfInBounds 91 v).getD 0 undef = a.tmps.getD 0 undef
    rw [Array.getD_eq_getD_getElem?, Array.getElem?_setIfInBounds, if_neg (by decide), ← Array.getD_eq_getD_getElem?]
  have k91 : ∀ v, (a.put (some 91) v).eval (.tmp 91) = v := fun v => by
    show (a.tmps.setIfInBounds 91 v).getD 91 undef = v
    rw [Array.getD_eq_getD_getElem?, Array.getElem?_setIfInBounds, if_pos rfl, if_pos (by omega)]; rfl
  refine wp_seq (wp_region_lit ?_)
  refine wpList_load_mid rfl 122 (.tmp 1) rfl p5.1 0 e1 us5 d hr5 hu hd (size122.trans (by rw [hn5])) ?_
  refine wpList_store_mid rfl 122 (.tmp 0) (.tmp 91) rfl p4.1 0 us5.toArray (k0 _) (k91 _) (by simpa [hn5] using ht4) (size122.trans (by simp [hn5])) (all_oneCell_toArray ho5) ?_
  show (Code.ret).wp Tryz.prog _ _ _
  refine wp_ret ?_
  have hres : (results Tryz.f77 (a.put (some 91) (.agg us5.toArray)).tmps).run Tryz.prog (w1.setCells p4.1 0 us5.toArray.toList) = .ok (.agg us5.toArray) (w1.setCells p4.1 0 us5.toArray.toList) := by
    have hp' : ((a.put (some 91) (.agg us5.toArray)).tmps[0]?).getD undef = .pointer (some ⟨p4.1, 0, none⟩) := by
      rw [← Array.getD_eq_getD_getElem?]; exact k0 _
    have hr := World.rangeAt_setCells_same w1 p4.1 0 us5 (by rw [hn5]; exact ht4)
    simp [results, hp', asAddr, run_loadVar_mid (w1.setCells p4.1 0 us5) p4.1 0 122 us5 d hr hu hd (size122.trans (by rw [hn5]))]
  refine bodyPost_ret hres hdd ⟨us5.toArray, rfl, hB1.trans ?_⟩
  exact setCells_below_ hnew us5.toArray.toList 0 w1 w1 (Below.refl _ _)
end Go.Proofs.YtiegapnfbeemcaaGreatDoor.X

namespace Go.Proofs.YtiegapnfbeemcaaGreatDoor
set_option maxRecDepth 100000
open Go.RowKit

theorem or_nat32 (a b : Nat) (ha : a < 2 ^ 32) (hb : b < 2 ^ 32) : bits .or .u32 (a : Int) (b : Int) = ((a ||| b : Nat) : Int) := by
  show IntKind.u32.wrap ((BitVec.ofInt 32 a ||| BitVec.ofInt 32 b).toNat : Int) = _
  have h : a ||| b < 2 ^ 32 := Nat.or_lt_two_pow ha hb
  rw [IntKind.wrap_u32', BitVec.toNat_or, BitVec.ofInt_natCast, BitVec.ofInt_natCast, BitVec.toNat_ofNat, BitVec.toNat_ofNat, Nat.mod_eq_of_lt ha, Nat.mod_eq_of_lt hb]
  omega
theorem or_nat64 (a b : Nat) (ha : a < 2 ^ 64) (hb : b < 2 ^ 64) : bits .or .u64 (a : Int) (b : Int) = ((a ||| b : Nat) : Int) := by
  show IntKind.u64.wrap ((BitVec.ofInt 64 a ||| BitVec.ofInt 64 b).toNat : Int) = _
  have h : a ||| b < 2 ^ 64 := Nat.or_lt_two_pow ha hb
  have e : (BitVec.ofInt 64 (a : Int) ||| BitVec.ofInt 64 (b : Int)).toNat = a ||| b := by
    rw [BitVec.toNat_or, BitVec.ofInt_natCast, BitVec.ofInt_natCast, BitVec.toNat_ofNat, BitVec.toNat_ofNat, Nat.mod_eq_of_lt ha, Nat.mod_eq_of_lt hb]
  rw [e]
  simp [IntKind.wrap, IntKind.bits, IntKind.signed]
  omega
theorem or_add32 {x y : Int} (i : Nat) (hx : ∃ a : Int, 0 ≤ a ∧ x = 2 ^ i * a) (h1 : x < 4294967296) (h2 : 0 ≤ y ∧ y < 2 ^ i) (h3 : y < 4294967296) : bits .or .u32 x y = x + y := by
  obtain ⟨a, ha, rfl⟩ := hx
  obtain ⟨n, rfl⟩ := Int.eq_ofNat_of_zero_le ha
  obtain ⟨m, rfl⟩ := Int.eq_ofNat_of_zero_le h2.1
  have e : (2 : Int) ^ i * (n : Int) = ((2 ^ i * n : Nat) : Int) := by simp
  have h4 : m < 2 ^ i := by have := h2.2; exact_mod_cast this
  rw [e] at h1 ⊢
  rw [or_nat32 _ _ (by omega) (by omega), ← Nat.two_pow_add_eq_or_of_lt h4]
  simp
theorem or_add64 {x y : Int} (i : Nat) (hx : ∃ a : Int, 0 ≤ a ∧ x = 2 ^ i * a) (h1 : x < 18446744073709551616) (h2 : 0 ≤ y ∧ y < 2 ^ i) (h3 : y < 18446744073709551616) : bits .or .u64 x y = x + y := by
  obtain ⟨a, ha, rfl⟩ := hx
  obtain ⟨n, rfl⟩ := Int.eq_ofNat_of_zero_le ha
  obtain ⟨m, rfl⟩ := Int.eq_ofNat_of_zero_le h2.1
  have e : (2 : Int) ^ i * (n : Int) = ((2 ^ i * n : Nat) : Int) := by simp
  have h4 : m < 2 ^ i := by have := h2.2; exact_mod_cast this
  rw [e] at h1 ⊢
  rw [or_nat64 _ _ (by omega) (by omega), ← Nat.two_pow_add_eq_or_of_lt h4]
  simp
theorem wd_val {b0 b1 b2 b3 : Int} (h0 : 0 ≤ b0 ∧ b0 ≤ 255) (h1 : 0 ≤ b1 ∧ b1 ≤ 255) (h2 : 0 ≤ b2 ∧ b2 ≤ 255) (h3 : 0 ≤ b3 ∧ b3 ≤ 255) : wd b0 b1 b2 b3 = b0 * 16777216 + b1 * 65536 + b2 * 256 + b3 := by
  unfold wd
  rw [or_add32 (x := b0 * 16777216) (y := b1 * 65536) 24 ⟨b0, h0.1, by omega⟩ (by omega) (by omega) (by omega)]
  rw [or_add32 (y := b2 * 256) 16 ⟨b0 * 256 + b1, by omega, by omega⟩ (by omega) (by omega) (by omega)]
  rw [or_add32 (y := b3) 8 ⟨b0 * 65536 + b1 * 256 + b2, by omega, by omega⟩ (by omega) (by omega) (by omega)]

/-- The number of four bytes, the highest first. -/
def be4 (b : Nat → Int) : Int := b 0 * 16777216 + b 1 * 65536 + b 2 * 256 + b 3
def be8 (b : Nat → Int) : Int := be4 b * 4294967296 + be4 (fun j => b (4 + j))

theorem be32_any (g o n c : Nat) (b : Nat → Int) (w : World) (hn : 4 ≤ n) (hb : ∀ j, j < 4 → 0 ≤ b j ∧ b j ≤ 255) (hc : ∀ j, j < 4 → w.cell? ⟨g, o + j, none⟩ = some (.int .u8 (b j))) :
    Calls Tryz.prog 142 #[.slice (some ⟨g, o, none⟩) n c] w fun e w' => e = .returned (.int .u32 (be4 b)) ∧ ∃ m, w' = w.drewN m := by
  have i0 : (0 : Int) < (n : Int) := by omega
  have i1 : (1 : Int) < (n : Int) := by omega
  have i2 : (2 : Int) < (n : Int) := by omega
  have i3 : (3 : Int) < (n : Int) := by omega
  have h0 := hc 0 (by omega)
  have h1 := hc 1 (by omega)
  have h2 := hc 2 (by omega)
  have h3 := hc 3 (by omega)
  have hb0 := hb 0 (by omega)
  have hb1 := hb 1 (by omega)
  have hb2 := hb 2 (by omega)
  have hb3 := hb 3 (by omega)
  have hv : be4 b = bits .or .u32 (bits .or .u32 (bits .or .u32 (b 3) (b 2 * 256)) (b 1 * 65536)) (b 0 * 16777216) := by
    rw [wd_low, wd_val hb0 hb1 hb2 hb3]; rfl
  rw [Nat.add_zero] at h0
  rw [hv]
  clear hv
  go_enter Tryz.func142, Tryz.ntmps142
  go_wp2
  go_quiet (fail)
  go_wp2
  go_ret
  exact ⟨rfl, _, rfl⟩
end Go.Proofs.YtiegapnfbeemcaaGreatDoor

namespace Go.Proofs.YtiegapnfbeemcaaGreatDoor
set_option maxRecDepth 100000
open Go.RowKit

theorem be4_range {b : Nat → Int} (hb : ∀ j, j < 4 → 0 ≤ b j ∧ b j ≤ 255) : 0 ≤ be4 b ∧ be4 b ≤ 4294967295 := by
  have := hb 0 (by omega); have := hb 1 (by omega); have := hb 2 (by omega); have := hb 3 (by omega)
  unfold be4; omega
theorem be64_any (g o n c : Nat) (b : Nat → Int) (w : World) (hg : g < w.heap.size) (hn : 8 ≤ n) (hnc : n ≤ c) (hcm : c ≤ maxLen) (hb : ∀ j, j < 8 → 0 ≤ b j ∧ b j ≤ 255) (hc : ∀ j, j < 8 → w.cell? ⟨g, o + j, none⟩ = some (.int .u8 (b j))) :
    Calls Tryz.prog 141 #[.slice (some ⟨g, o, none⟩) n c] w fun e w' => e = .returned (.int .u64 (be8 b)) ∧ Below w.heap.size w w' := by
  have i7 : (7 : Int) < (n : Int) := by omega
  have h7 := hc 7 (by omega)
  have r1 := be4_range (b := b) fun j hj => hb j (by omega)
  have r2 := be4_range (b := fun j => b (4 + j)) fun j hj => hb (4 + j) (by omega)
  have k1 : ∀ x : Bel w, Calls Tryz.prog 142 #[.slice (some ⟨g, o, none⟩) n c] x.w fun e w' => e = .returned (.int .u32 (be4 b)) ∧ ∃ m, w' = x.w.drewN m :=
    fun x => be32_any g o n c b x.w (by omega) (fun j hj => hb j (by omega)) fun j hj => (x.cell hg).trans (hc j (by omega))
  have k2 : ∀ x : Bel w, Calls Tryz.prog 142 #[.slice (some ⟨g, o + 4, none⟩) (n - 4) (c - 4)] x.w fun e w' => e = .returned (.int .u32 (be4 fun j => b (4 + j))) ∧ ∃ m, w' = x.w.drewN m :=
    fun x => be32_any g (o + 4) (n - 4) (c - 4) (fun j => b (4 + j)) x.w (by omega) (fun j hj => hb (4 + j) (by omega)) fun j hj => (x.cell hg).trans (by have := hc (4 + j) (by omega); rwa [← Nat.add_assoc] at this)
  have hm : n ≤ 9223372036854775807 := by unfold maxLen at hcm; omega
  have e5 : ¬ c = 4 := by omega
  have e6 : (4 : Int) ≤ (n : Int) := by omega
  have e7 : (n : Int) ≤ (c : Int) := by omega
  have ht : ∀ x : Int, 0 ≤ x ∧ x ≤ 4294967295 → IntKind.u64.wrap x = x := fun x hx => by simp [IntKind.wrap, IntKind.bits, IntKind.signed]; omega
  have t1 := ht _ r1
  have t2 := ht _ r2
  have t3 : IntKind.u64.wrap (be4 b * 4294967296) = be4 b * 4294967296 := by simp [IntKind.wrap, IntKind.bits, IntKind.signed]; omega
  have hv2 : bits .or .u64 (be4 b * 4294967296) (be4 fun j => b (4 + j)) = be8 b := by rw [or_add64 32 ⟨be4 b, r1.1, by omega⟩ (by omega) (by omega) (by omega)]; rfl
  have HV := Lib.hid hv2
  clear hv2 hc ht
  go_enter Tryz.func141, Tryz.ntmps141
  go_wp2_with fail
  refine region_bel (by kernel_rfl) (by kernel_rfl) ?_
  quiet_step ((exact rfl))
  quiet_step ((go_at_call 142; exact bel_call_drew (k1 _)))
  quiet_step ((exact rfl))
  quiet_step ((exact rfl))
  quiet_step ((exact rfl))
  quiet_step ((exact rfl))
  quiet_step ((go_at_call 142; exact bel_call_drew (k2 _)))
  quiet_step ((exact rfl))
  quiet_step ((exact rfl))
  quiet_step ((exact rfl))
  refine wpQuiet_nil ?_
  intro _ hw'
  obtain ⟨y, rfl⟩ := hw'
  go_wp2_with fail
  go_ret
  exact ⟨by rw [HV.out]; rfl, y.h⟩
theorem bew_any (g o n c : Nat) (b : Nat → Int) (w : World) (hg : g < w.heap.size) (hn : 8 ≤ n) (hnc : n ≤ c) (hcm : c ≤ maxLen) (hb : ∀ j, j < 8 → 0 ≤ b j ∧ b j ≤ 255) (hc : ∀ j, j < 8 → w.cell? ⟨g, o + j, none⟩ = some (.int .u8 (b j))) :
    Calls Tryz.prog 117 #[.slice (some ⟨g, o, none⟩) n c] w fun e w' => e = .returned (.int .u64 (be8 b)) ∧ Below w.heap.size w w' := by
  go_enter Tryz.func117, Tryz.ntmps117
  go_wp2_with (go_at_call 141; refine (be64_any g o n c b _ hg hn hnc hcm hb hc).mono ?_; rintro e w' ⟨rfl, hB⟩)
  go_ret
  exact ⟨rfl, hB⟩
end Go.Proofs.YtiegapnfbeemcaaGreatDoor

namespace Go.Proofs.YtiegapnfbeemcaaGreatDoor
set_option maxRecDepth 100000
open Go.RowKit

/-- Block g begins with n words of 64 bits, word j being f j. -/
def ArrW (w : World) (g n : Nat) (f : Nat → Int) : Prop :=
  ∃ cs, Blk w g 137 cs ∧ n ≤ cs.size ∧ ∀ j, j < n → cs[j]? = some (.int .u64 (f j))
section
variable {w w' : World} {g n : Nat} {f f' : Nat → Int}
theorem ArrW.lt (h : ArrW w g n f) : g < w.heap.size := let ⟨_, h, _, _⟩ := h; h.lt
theorem ArrW.cell (h : ArrW w g n f) {j : Nat} (hj : j < n) : w.cell? ⟨g, j, none⟩ = some (.int .u64 (f j)) := by
  obtain ⟨cs, hb, _, hc⟩ := h
  rw [hb.cell, hc j hj]
theorem ArrW.frozen (h : ArrW w g n f) (j : Nat) : w.frozen? ⟨g, j, none⟩ = false := let ⟨_, hb, _, _⟩ := h; hb.frozen j
theorem ArrW.drewN (h : ArrW w g n f) (k : Nat) : ArrW (w.drewN k) g n f := h
theorem ArrW.below {B : Nat} (h : ArrW w g n f) (hb : Below B w w') (hg : g < B) : ArrW w' g n f := let ⟨cs, h1, h⟩ := h; ⟨cs, h1.below hb hg, h⟩
theorem ArrW.congr (h : ArrW w g n f) (he : ∀ j, j < n → f j = f' j) : ArrW w g n f' := let ⟨cs, h1, h2, h3⟩ := h; ⟨cs, h1, h2, fun j hj => by rw [h3 j hj, he j hj]⟩
theorem ArrW.set_ (h : ArrW w g n f) (i : Nat) (x : Int) (he : ∀ j, j < n → f' j = if j = i then x else f j) : ArrW (w.setCell ⟨g, i, none⟩ (.int .u64 x)) g n f' := by
  obtain ⟨cs, h1, h2, h3⟩ := h
  refine ⟨_, h1.set_ i _, by simpa using h2, fun j hj => ?_⟩
  rw [he j hj, Array.getElem?_setIfInBounds]
  by_cases hij : i = j
  · subst hij
    have : i < cs.size := by omega
    simp [this]
  · rw [if_neg hij, h3 j hj, if_neg (fun e => hij e.symm)]
end
def Z8w : Array Value := Array.replicate 8 (.int .u64 0)
theorem makeW (w : World) : (Instr.makeSlice 107 (.int .i64 4) (.int .i64 8)).run Tryz.prog w = .ok (.slice (some ⟨w.heap.size, 0, none⟩) 4 8) (w.alloc (.cells Z8w 137)) := by kernel_rfl

theorem make_any (w : World) :
    Calls Tryz.prog 102 #[.slice none 0 0, .int .i64 4] w fun e w' => e = .returned (.slice (some ⟨w.heap.size, 0, none⟩) 4 8) ∧ w.alloc (.cells Z8w 137) = w' := by
  have hm := makeW
  go_enter Tryz.func102, Tryz.ntmps102
  go_wp2
  go_ret
  exact ⟨rfl, rfl⟩

theorem norm_any (g n c : Nat) (f : Nat → Int) (w : World) (hA : ArrW w g n f) (hnc : n ≤ c) (hc : c ≤ maxLen) :
    Calls Tryz.prog 106 #[.slice (some ⟨g, 0, none⟩) n c] w fun e w' => ∃ k, e = .returned (.slice (some ⟨g, 0, none⟩) k c) ∧ k ≤ n ∧ (∀ j, k ≤ j → j < n → f j = 0) ∧ Below w.heap.size w w' := by
  have hm : c ≤ 9223372036854775807 := by unfold maxLen at hc; omega
  go_enter Tryz.func106, Tryz.ntmps106
  go_wp2_with fail
  go_loopw [3] (fun i wr => ∃ k : Nat, k ≤ n ∧ i = .int .i64 k ∧ Hid (∀ j, k ≤ j → j < n → f j = 0) ∧ Below w.heap.size w wr) (fun i _ => (intOf i).toNat)
  case atStart => exact ⟨n, by omega, rfl, fun j h1 h2 => by omega, Below.refl _ _⟩
  case round =>
    obtain ⟨k, hk, rfl, hz, hB⟩ := hrel
    by_cases hlt : 0 < k
    · obtain ⟨q, rfl⟩ : ∃ q, k = q + 1 := ⟨k - 1, by omega⟩
      have e1 : IntKind.i64.wrap (((q + 1 : Nat) : Int) - 1) = (q : Int) := by rw [IntWalk.i64_in _ (by omega)]; omega
      have l0 : (0 : Int) < ((q + 1 : Nat) : Int) := by omega
      have l1 : (q : Int) < (n : Int) := by omega
      have l2 : (0 : Int) ≤ (q : Int) := by omega
      have a1 := (hA.below hB hA.lt).cell (j := q) (by omega)
      by_cases hf : f q = 0
      · rw [hf] at a1
        have hz' : Hid (∀ j, q ≤ j → j < n → f j = 0) := fun j h1 h2 => by
          rcases Nat.eq_or_lt_of_le h1 with h3 | h3
          · subst h3; exact hf
          · exact hz.out j (by omega) h2
        clear hf hz
        go_wp2_with fail
        go_roundw
        case rel => exact ⟨q, by omega, by go_num, hz', hB⟩
        case measure => simp [intOf]
      · have hd : (f q == 0) = false := by simpa using hf
        have e5 : ((q + 1 : Nat) : Int) ≤ (c : Int) := by omega
        go_wp2_with fail
        go_ret
        exact ⟨q + 1, by rfl, hk, hz.out, hB⟩
    · obtain rfl : k = 0 := by omega
      go_wp2_with fail
      go_ret
      exact ⟨0, by rfl, hk, hz.out, hB⟩
end Go.Proofs.YtiegapnfbeemcaaGreatDoor

namespace Go.Proofs.YtiegapnfbeemcaaGreatDoor
set_option maxRecDepth 100000
open Go.RowKit

/-- Word j of 32 bytes. -/
def bw (b : Nat → Int) (j : Nat) : Int := be8 fun i => b (32 - 8 * (j + 1) + i)

set_option maxHeartbeats 1000000 in
theorem setb_any (g o c : Nat) (b : Nat → Int) (w : World) (hg : g < w.heap.size) (hnc : 32 ≤ c) (hcm : c ≤ maxLen) (hb : ∀ j, j < 32 → 0 ≤ b j ∧ b j ≤ 255) (hc : ∀ j, j < 32 → w.cell? ⟨g, o + j, none⟩ = some (.int .u8 (b j))) :
    Calls Tryz.prog 100 #[.slice none 0 0, .slice (some ⟨g, o, none⟩) 32 c] w fun e w' => ∃ k, e = .returned (.slice (some ⟨w.heap.size, 0, none⟩) k 8) ∧ k ≤ 4 ∧ (∀ j, k ≤ j → j < 4 → bw b j = 0) ∧ ArrW w' w.heap.size 4 (bw b) ∧ Below w.heap.size w w' := by
  have hm : c ≤ 9223372036854775807 := by unfold maxLen at hcm; omega
  go_enter Tryz.func100, Tryz.ntmps100
  go_wp2_with (go_at_call 102; refine (make_any _).mono ?_; rintro e w' ⟨rfl, rfl⟩)
  go_loopw [5, 6] (fun i kk wr => ∃ k m : Nat, k + m = 4 ∧ i = .int .i64 ((8 * m : Nat) : Int) ∧ kk = .int .i64 (k : Int) ∧ ArrW wr w.heap.size 4 (fun j => if j < k then bw b j else 0) ∧ Below w.heap.size w wr) (fun i _ _ => (intOf i).toNat)
  case atStart =>
    refine ⟨0, 4, rfl, rfl, rfl, ⟨Z8w, Blk.new w 137 _, by show 4 ≤ 8; omega, fun j hj => ?_⟩, (Below.refl _ _).alloc (Nat.le_refl _) _⟩
    have h : j = 0 ∨ j = 1 ∨ j = 2 ∨ j = 3 := by omega
    rcases h with rfl | rfl | rfl | rfl <;> rfl
  case round =>
    obtain ⟨k, m, hkm, rfl, rfl, hA, hB⟩ := hrel
    by_cases hlt : 0 < m
    · obtain ⟨q, rfl⟩ : ∃ q, m = q + 1 := ⟨m - 1, by omega⟩
      obtain ⟨p, hp⟩ : ∃ p, p = 8 * (q + 1) := ⟨_, rfl⟩
      obtain ⟨p', hp'⟩ : ∃ p', p' = 8 * q := ⟨_, rfl⟩
      rw [← hp]
      have e1 : IntKind.i64.wrap ((p : Int) - 8) = (p' : Int) := by rw [IntWalk.i64_in _ (by omega)]; omega
      have l0 : (8 : Int) ≤ (p : Int) := by omega
      have l1 : (p' : Int) ≤ (p : Int) := by omega
      have l2 : (p : Int) ≤ (c : Int) := by omega
      have l3 : (0 : Int) ≤ (p' : Int) := by omega
      have l4 : ¬ c = p' := by omega
      have l5 : (k : Int) < 4 := by omega
      have l6 : (k : Int) < (4 : Nat) := by omega
      have hfz := hA.frozen k
      have hsz := hB.size
      have hcell := hA.cell (j := k) (by omega)
      have HP := Lib.hid (And.intro hp hp')
      clear hp hp'
      go_wp2_with (go_at_call 117; refine (bew_any g (o + p') (p - p') (c - p') (fun j => b (p' + j)) _ (by omega) (by have := HP.out; omega) (by omega) (by omega) (fun j hj => hb _ (by have := HP.out; omega)) (fun j hj => by have := HP.out; rw [Nat.add_assoc]; exact (hB.cell (p := ⟨g, o + (p' + j), none⟩) hg).trans (hc _ (by omega)))).mono ?_; rintro e w' ⟨rfl, hB2⟩; have hfz2 := (hA.below hB2 hA.lt).frozen k; have hcell2 := (hA.below hB2 hA.lt).cell (j := k) (by omega))
      go_roundw
      case rel =>
        have hpp := HP.out
        refine ⟨k + 1, q, by omega, by rw [hpp.2], by go_num, ?_, ((hB.trans (hB2.mono hsz)).setCell (Nat.le_refl _) _)⟩
        refine (hA.below hB2 hA.lt).set_ k _ fun j hj => ?_
        by_cases hjk : j = k
        · subst hjk
          rw [if_pos (by omega), if_pos rfl]
          unfold bw
          rw [show 32 - 8 * (j + 1) = p' by omega]
        · rw [if_neg hjk]
          by_cases h1 : j < k
          · rw [if_pos h1, if_pos (by omega)]
          · rw [if_neg h1, if_neg (by omega)]
      case measure => have := HP.out; simp [intOf]; omega
    · obtain rfl : m = 0 := by omega
      obtain rfl : k = 4 := by omega
      have hA' : ArrW wr w.heap.size 4 (bw b) := hA.congr fun j hj => by simp [hj]
      have hsz := hB.size
      go_wp2_with (go_at_call 106; refine (norm_any w.heap.size 4 8 (bw b) _ hA' (by omega) (by unfold maxLen; omega)).mono ?_; rintro e w' ⟨k', rfl, hk', hz, hB2⟩)
      go_ret
      exact ⟨k', rfl, hk', hz, hA'.below hB2 hA'.lt, hB.trans (hB2.mono hsz)⟩
end Go.Proofs.YtiegapnfbeemcaaGreatDoor

namespace Go.Proofs.YtiegapnfbeemcaaGreatDoor
set_option maxRecDepth 100000
open Go.RowKit

/-- An object of a big number whose 32 bytes are b; it lies, whole, at or above base. -/
def IntO (w : World) (base g : Nat) (b : Nat → Int) : Prop :=
  ∃ h k, base ≤ g ∧ base ≤ h ∧ Blk w g 109 #[.bool false, .slice (some ⟨h, 0, none⟩) k 8] ∧ k ≤ 4 ∧ (∀ j, k ≤ j → j < 4 → bw b j = 0) ∧ ArrW w h 4 (bw b)
theorem IntO.lt {w : World} {base g : Nat} {b : Nat → Int} (h : IntO w base g b) : g < w.heap.size := let ⟨_, _, _, _, hb, _⟩ := h; hb.lt
theorem IntO.below {w w' : World} {base g : Nat} {b : Nat → Int} (h : IntO w base g b) (hB : Below w.heap.size w w') : IntO w' base g b :=
  let ⟨h, k, h1, h2, h3, h4, h5, h6⟩ := h; ⟨h, k, h1, h2, h3.below hB h3.lt, h4, h5, h6.below hB h6.lt⟩
theorem IntO.lift {w : World} {base base' g : Nat} {b : Nat → Int} (h : IntO w base g b) (hb : base' ≤ base) : IntO w base' g b :=
  let ⟨h, k, h1, h2, h3⟩ := h; ⟨h, k, Nat.le_trans hb h1, Nat.le_trans hb h2, h3⟩

theorem setBytes_any (G g o c : Nat) (b : Nat → Int) (w : World) (hG : Blk w G 109 #[.bool false, .slice none 0 0]) (hg : g < w.heap.size) (hnc : 32 ≤ c) (hcm : c ≤ maxLen) (hb : ∀ j, j < 32 → 0 ≤ b j ∧ b j ≤ 255)
    (hc : ∀ j, j < 32 → w.cell? ⟨g, o + j, none⟩ = some (.int .u8 (b j))) :
    Calls Tryz.prog 78 #[.pointer (some ⟨G, 0, none⟩), .slice (some ⟨g, o, none⟩) 32 c] w fun e w' => e = .returned (.pointer (some ⟨G, 0, none⟩)) ∧ IntO w' G G b ∧ Below G w w' := by
  have c1 := hG.cell 1
  simp at c1
  go_enter Tryz.func78, Tryz.ntmps78
  go_wp2_with (go_at_call 100; refine (setb_any g o c b _ hg hnc hcm hb hc).mono ?_; rintro e w' ⟨k, rfl, hk, hz, hA, hB⟩; have hG' := hG.below hB hG.lt; have z0 := hG'.frozen 0; have z1 := hG'.frozen 1; have d0 := hG'.cell 0; have d1 := hG'.cell 1; simp at d0 d1)
  go_ret
  have hlt := hG.lt
  have hB' : Below G w w' := hB.mono (Nat.le_of_lt hlt)
  refine ⟨rfl, ⟨w.heap.size, k, Nat.le_refl _, by omega, ?_, hk, hz, ?_⟩, (hB'.setCell (p := ⟨G, 1, none⟩) (Nat.le_refl _) _).setCell (p := ⟨G, 0, none⟩) (Nat.le_refl _) _⟩
  · have := (hG'.set_ 1 (.slice (some ⟨w.heap.size, 0, none⟩) k 8)).set_ 0 (.bool false)
    simpa using this
  · obtain ⟨cs, h1, h2, h3⟩ := hA
    exact ⟨cs, (h1.far (p := ⟨G, 1, none⟩) (by show w.heap.size ≠ G; omega) _).far (p := ⟨G, 0, none⟩) (by show w.heap.size ≠ G; omega) _, h2, h3⟩
theorem num_any (g o c : Nat) (b : Nat → Int) (w : World) (hg : g < w.heap.size) (hnc : 32 ≤ c) (hcm : c ≤ maxLen) (hb : ∀ j, j < 32 → 0 ≤ b j ∧ b j ≤ 255)
    (hc : ∀ j, j < 32 → w.cell? ⟨g, o + j, none⟩ = some (.int .u8 (b j))) :
    Calls Tryz.prog 49 #[.slice (some ⟨g, o, none⟩) 32 c] w fun e w' => e = .returned (.pointer (some ⟨w.heap.size, 0, none⟩)) ∧ IntO w' w.heap.size w.heap.size b ∧ Below w.heap.size w w' := by
  have hG := Blk.new w 109 #[.bool false, .slice none 0 0]
  have hk := setBytes_any w.heap.size g o c b _ hG (by simp; omega) hnc hcm hb (fun j hj => (World.cell?_alloc_lt w _ ⟨g, o + j, none⟩ hg).trans (hc j hj))
  clear hc
  go_enter Tryz.func49, Tryz.ntmps49
  go_wp2_with (go_at_call 78; refine hk.mono ?_; rintro e w' ⟨rfl, hI, hB⟩)
  go_ret
  exact ⟨rfl, hI, ((Below.refl _ _).alloc (Nat.le_refl _) _).trans hB⟩
end Go.Proofs.YtiegapnfbeemcaaGreatDoor

namespace Go.Proofs.YtiegapnfbeemcaaGreatDoor
set_option maxRecDepth 100000
open Go.RowKit

/-- Byte m of words of 64 bits, the lowest first. -/
def wb (f : Nat → Int) (m : Nat) : Int := f (m / 8) / 256 ^ (m % 8) % 256
theorem wb_range (f : Nat → Int) (m : Nat) : 0 ≤ wb f m ∧ wb f m ≤ 255 := by unfold wb; omega
theorem be8_byte (b : Nat → Int) (hb : ∀ j, j < 8 → 0 ≤ b j ∧ b j ≤ 255) (r : Nat) (hr : r < 8) : be8 b / 256 ^ r % 256 = b (7 - r) := by
  have := hb 0 (by omega); have := hb 1 (by omega); have := hb 2 (by omega); have := hb 3 (by omega)
  have := hb 4 (by omega); have := hb 5 (by omega); have := hb 6 (by omega); have := hb 7 (by omega)
  have h : r = 0 ∨ r = 1 ∨ r = 2 ∨ r = 3 ∨ r = 4 ∨ r = 5 ∨ r = 6 ∨ r = 7 := by omega
  unfold be8 be4
  rcases h with rfl | rfl | rfl | rfl | rfl | rfl | rfl | rfl <;> simp <;> omega
theorem wb_bw (b : Nat → Int) (hb : ∀ j, j < 32 → 0 ≤ b j ∧ b j ≤ 255) (m : Nat) (hm : m < 32) : wb (bw b) m = b (31 - m) := by
  unfold wb bw
  rw [be8_byte _ (fun j hj => hb _ (by omega)) _ (by omega)]
  congr 1
  omega
theorem div_step (x : Int) (j : Nat) : x / 256 ^ j / 256 = x / 256 ^ (j + 1) := by
  rw [Int.ediv_ediv_of_nonneg (Int.pow_nonneg (by decide)), ← Int.pow_succ]

set_option maxHeartbeats 1000000 in
theorem nbytes_any (h B k : Nat) (f : Nat → Int) (w : World) (hf : ∀ j, j < k → 0 ≤ f j ∧ f j ≤ 18446744073709551615) (hk : k ≤ 4) (hA : ArrW w h k f) (hB : ArrB w B (8 * k) (fun _ => 0)) (hne : h < B) :
    Calls Tryz.prog 71 #[.slice (some ⟨h, 0, none⟩) k 8, .slice (some ⟨B, 0, none⟩) (8 * k) (8 * k)] w fun e w' => ∃ i0 : Nat, e = .returned (.int .i64 (i0 : Int)) ∧ i0 ≤ 8 * k ∧ (∀ j, j < i0 → wb f (8 * k - 1 - j) = 0) ∧ (i0 = 8 * k ∨ wb f (8 * k - 1 - i0) ≠ 0) ∧
      ArrB w' B (8 * k) (fun i => wb f (8 * k - 1 - i)) ∧ Below B w w' := by
  obtain ⟨K, hK⟩ : ∃ K, K = 8 * k := ⟨_, rfl⟩
  rw [← hK] at hB ⊢
  have hK32 : K ≤ 32 := by omega
  have HK := Lib.hid hK
  clear hK
  go_enter Tryz.func71, Tryz.ntmps71
  go_wp2_with fail
  go_loopw [4, 12] (fun iv ix wr => ∃ q p : Nat, q ≤ k ∧ p + 8 * q = K ∧ iv = .int .i64 (p : Int) ∧ ix = .int .i64 (q : Int) ∧ ArrB wr B K (fun i => if p ≤ i then wb f (K - 1 - i) else 0) ∧ Below B w wr) (fun _ ix _ => k - (intOf ix).toNat)
  case atStart =>
    exact ⟨0, K, by omega, by have := HK.out; omega, rfl, rfl, hB.congr fun j hj => by rw [if_neg (by omega)], Below.refl _ _⟩
  case round =>
    obtain ⟨q, p, hq, hp, rfl, rfl, hB1, hL⟩ := hrel
    by_cases hlt : q < k
    · have l1 : (q : Int) < (k : Int) := by omega
      have a1 := (hA.below hL hne).cell hlt
      have hfq := hf q hlt
      have hp8 : 8 ≤ p := by have := HK.out; omega
      go_wp2_with fail
      go_loopw [4, 6, 7] (fun iv dv jv wr => ∃ j p' : Nat, j ≤ 8 ∧ p' + j = p ∧ iv = .int .i64 (p' : Int) ∧ dv = .int .u64 (f q / 256 ^ j) ∧ jv = .int .i64 (j : Int) ∧ ArrB wr B K (fun i => if p' ≤ i then wb f (K - 1 - i) else 0) ∧ Below B w wr) (fun _ _ jv _ => 8 - (intOf jv).toNat)
      case atStart => exact ⟨0, p, by omega, by omega, rfl, by simp, rfl, hB1, hL⟩
      case round =>
        clear hB1 hL
        obtain ⟨j, p', hj, hp', rfl, rfl, rfl, hB1, hL⟩ := hrel
        by_cases hlt2 : j < 8
        · obtain ⟨P, rfl⟩ : ∃ P, p' = P + 1 := ⟨p' - 1, by omega⟩
          have e1 : IntKind.i64.wrap (((P + 1 : Nat) : Int) - 1) = (P : Int) := by rw [IntWalk.i64_in _ (by omega)]; omega
          have l2 : (0 : Int) ≤ (P : Int) := by omega
          have l3 : (P : Int) < (K : Int) := by omega
          have l4 : (j : Int) < 8 := by omega
          have d0 : 0 ≤ f q / 256 ^ j := Int.ediv_nonneg hfq.1 (Int.pow_nonneg (by decide))
          obtain ⟨d, hd⟩ : ∃ d, d = f q / 256 ^ j := ⟨_, rfl⟩
          have hds := div_step (f q) j
          rw [← hd] at d0 hds ⊢
          have e2 : IntKind.u8.wrap d = d % 256 := by simp [IntKind.wrap, IntKind.bits, IntKind.signed]
          have hfz := hB1.frozen P
          have hcell := hB1.cell (j := P) (by omega)
          have HD := Lib.hid (And.intro hd hds)
          clear hd hds
          go_wp2_with fail
          go_roundw
          case rel =>
            refine ⟨j + 1, P, by omega, by omega, rfl, by rw [HD.out.2], by go_num, ?_, hL.setCell (p := ⟨B, P, none⟩) (Nat.le_refl _) _⟩
            refine hB1.set_ P _ fun i hi => ?_
            by_cases hiP : i = P
            · subst hiP
              rw [if_pos (Nat.le_refl _), if_pos rfl, HD.out.1]
              unfold wb
              rw [show (K - 1 - i) / 8 = q by omega, show (K - 1 - i) % 8 = j by omega]
            · rw [if_neg hiP]
              by_cases h1 : P + 1 ≤ i
              · rw [if_pos (by omega), if_pos h1]
              · rw [if_neg (by omega), if_neg h1]
          case measure => simp [intOf]; omega
        · obtain rfl : j = 8 := by omega
          go_wp2_with fail
          go_roundw
          case rel => exact ⟨q + 1, p', by omega, by omega, rfl, by go_num, hB1, hL⟩
          case measure => simp [intOf]; omega
    · obtain rfl : q = k := by omega
      obtain rfl : p = 0 := by have := HK.out; omega
      have hB2 : ArrB wr B K (fun i => wb f (K - 1 - i)) := hB1.congr fun j hj => by rw [if_pos (Nat.zero_le _)]
      clear hB1
      go_wp2_with fail
      go_loopw [4] (fun iv wr => ∃ i0 : Nat, i0 ≤ K ∧ iv = .int .i64 (i0 : Int) ∧ Hid (∀ j, j < i0 → wb f (K - 1 - j) = 0) ∧ ArrB wr B K (fun i => wb f (K - 1 - i)) ∧ Below B w wr) (fun iv _ => K - (intOf iv).toNat)
      case atStart => exact ⟨0, by omega, rfl, fun j hj => by omega, hB2, hL⟩
      case round =>
        clear hB2 hL
        obtain ⟨i0, hi0, rfl, hz, hB2, hL⟩ := hrel
        by_cases hlt3 : i0 < K
        · have l5 : (i0 : Int) < (K : Int) := by omega
          have c1 := hB2.cell hlt3
          by_cases hw : wb f (K - 1 - i0) = 0
          · rw [hw] at c1
            have hz' : Hid (∀ j, j < i0 + 1 → wb f (K - 1 - j) = 0) := fun j hj => by
              rcases Nat.lt_or_ge j i0 with h1 | h1
              · exact hz.out j h1
              · obtain rfl : j = i0 := by omega
                exact hw
            clear hw hz
            go_wp2_with fail
            go_roundw
            case rel => exact ⟨i0 + 1, by omega, by go_num, hz', hB2, hL⟩
            case measure => simp [intOf]; omega
          · have hd : (wb f (K - 1 - i0) == 0) = false := by simpa using hw
            go_wp2_with fail
            go_ret
            exact ⟨i0, by rfl, hi0, hz.out, .inr hw, hB2, hL⟩
        · have hd2 : decide ((i0 : Int) < (K : Int)) = false := by simp; omega
          go_wp2_with fail
          go_ret
          exact ⟨i0, by rfl, hi0, hz.out, .inl (by omega), hB2, hL⟩
end Go.Proofs.YtiegapnfbeemcaaGreatDoor

namespace Go.Proofs.YtiegapnfbeemcaaGreatDoor
set_option maxRecDepth 100000
open Go.RowKit

theorem makeB0 (w : World) : (Instr.makeSlice 22 (.int .i64 0) (.int .i64 0)).run Tryz.prog w = .ok (.slice (some ⟨w.heap.size, 0, none⟩) 0 0) (w.alloc (.cells (Array.replicate 0 (.int .u8 0)) 5)) := by kernel_rfl
theorem makeB1 (w : World) : (Instr.makeSlice 22 (.int .i64 8) (.int .i64 8)).run Tryz.prog w = .ok (.slice (some ⟨w.heap.size, 0, none⟩) 8 8) (w.alloc (.cells (Array.replicate 8 (.int .u8 0)) 5)) := by kernel_rfl
theorem makeB2 (w : World) : (Instr.makeSlice 22 (.int .i64 16) (.int .i64 16)).run Tryz.prog w = .ok (.slice (some ⟨w.heap.size, 0, none⟩) 16 16) (w.alloc (.cells (Array.replicate 16 (.int .u8 0)) 5)) := by kernel_rfl
theorem makeB3 (w : World) : (Instr.makeSlice 22 (.int .i64 24) (.int .i64 24)).run Tryz.prog w = .ok (.slice (some ⟨w.heap.size, 0, none⟩) 24 24) (w.alloc (.cells (Array.replicate 24 (.int .u8 0)) 5)) := by kernel_rfl
theorem makeB4 (w : World) : (Instr.makeSlice 22 (.int .i64 32) (.int .i64 32)).run Tryz.prog w = .ok (.slice (some ⟨w.heap.size, 0, none⟩) 32 32) (w.alloc (.cells (Array.replicate 32 (.int .u8 0)) 5)) := by kernel_rfl
theorem makeB (K k : Nat) (hK : K = 8 * k) (hk : k ≤ 4) (w : World) : (Instr.makeSlice 22 (.int .i64 (K : Int)) (.int .i64 (K : Int))).run Tryz.prog w = .ok (.slice (some ⟨w.heap.size, 0, none⟩) K K) (w.alloc (.cells (Array.replicate K (.int .u8 0)) 5)) := by
  subst hK
  have h : k = 0 ∨ k = 1 ∨ k = 2 ∨ k = 3 ∨ k = 4 := by omega
  rcases h with rfl | rfl | rfl | rfl | rfl
  · exact makeB0 w
  · exact makeB1 w
  · exact makeB2 w
  · exact makeB3 w
  · exact makeB4 w
/-- What Bytes hands out: the last L of 32 bytes; those ahead of them are 0. -/
def RetTail (base : Nat) (b : Nat → Int) (w : World) (e : Ending) (w' : World) : Prop :=
  ∃ (A : Option Addr) (L c : Nat), e = .returned (.slice A L c) ∧ L ≤ 32 ∧ (∀ j, j < 32 - L → b j = 0) ∧ L ≤ c ∧ c ≤ maxLen ∧
    Reads w' w'.heap.size 1 A L (((List.range L).map fun i => b (32 - L + i)).map (Value.int .u8)) ∧ (∀ ad, A = some ad → base ≤ ad.block) ∧ Below base w w'

theorem be8_range {b : Nat → Int} (hb : ∀ j, j < 8 → 0 ≤ b j ∧ b j ≤ 255) : 0 ≤ be8 b ∧ be8 b ≤ 18446744073709551615 := by
  have h1 := be4_range (b := b) fun j hj => hb j (by omega)
  have h2 := be4_range (b := fun j => b (4 + j)) fun j hj => hb _ (by omega)
  unfold be8; omega
theorem tail_of (g K k i0 o' : Nat) (b : Nat → Int) (w w' : World) (hb : ∀ j, j < 32 → 0 ≤ b j ∧ b j ≤ 255) (HK : K = 8 * k) (hk : k ≤ 4) (HZ : ∀ j, k ≤ j → j < 4 → bw b j = 0) (hi0 : i0 ≤ K) (hz0 : ∀ j, j < i0 → wb (bw b) (K - 1 - j) = 0)
    (hB1 : ArrB w' g K (fun i => wb (bw b) (K - 1 - i))) (ho : o' = i0 ∨ K = i0) (hg : w.heap.size ≤ g) (hB : Below w.heap.size w w') (n c : Nat) (hn : n = K - i0) (hc : n = c) :
    RetTail w.heap.size b w (.returned (.slice (some ⟨g, o', none⟩) n c)) w' := by
  subst hc
  refine ⟨_, _, _, rfl, by omega, fun j hj => ?_, Nat.le_refl _, by unfold maxLen; omega, ⟨by simp, fun hp => ⟨_, rfl, hB1.lt, fun j u hu => ?_⟩⟩, fun ad had => ?_, hB⟩
  · by_cases h1 : j < 32 - K
    · rw [← (show 31 - (31 - j) = j by omega), ← wb_bw b hb (31 - j) (by omega)]
      unfold wb
      rw [HZ ((31 - j) / 8) (by omega) (by omega)]
      simp
    · have := hz0 (j - (32 - K)) (by omega)
      rw [wb_bw b hb _ (by omega)] at this
      rw [← this]
      congr 1
      omega
  · have hj : j < n := by
      rcases Nat.lt_or_ge j n with h2 | h2
      · exact h2
      · rw [List.getElem?_eq_none (by simpa using h2)] at hu; cases hu
    have hc := hB1.cell (j := i0 + j) (by omega)
    rw [wb_bw b hb _ (by omega)] at hc
    simp [hj] at hu
    rw [← hu]
    obtain rfl : o' = i0 := by omega
    have e2 : (⟨g, o', none⟩ : Addr).add j = ⟨g, o' + j, none⟩ := by
      unfold Addr.add; split <;> simp_all
    rw [e2]
    refine hc.trans ?_
    congr 3
    omega
  · injection had with had; subst had; exact hg
theorem bytes_any (base G : Nat) (b : Nat → Int) (w : World) (hI : IntO w base G b) (hb : ∀ j, j < 32 → 0 ≤ b j ∧ b j ≤ 255) :
    Calls Tryz.prog 42 #[.pointer (some ⟨G, 0, none⟩)] w (RetTail w.heap.size b w) := by
  obtain ⟨h, k, _, _, hG, hk, hz, hA⟩ := hI
  obtain ⟨K, hK⟩ : ∃ K, K = 8 * k := ⟨_, rfl⟩
  have c1 := hG.cell 1
  have hlt := hG.lt
  have hmk := makeB K k hK hk
  have e1 : IntKind.i64.wrap ((k : Int) * 8) = (K : Int) := by rw [IntWalk.i64_in _ (by omega)]; omega
  have hblk := Blk.new w 5 (Array.replicate K (.int .u8 0))
  have hB0 : Below w.heap.size w (w.alloc (.cells (Array.replicate K (.int .u8 0)) 5)) := (Below.refl _ _).alloc (Nat.le_refl _) _
  have c1' := (hG.below hB0 hlt).cell 1
  have hnb := nbytes_any h w.heap.size k (bw b) (w.alloc (.cells (Array.replicate K (.int .u8 0)) 5)) (fun j hj => be8_range fun i hi => hb _ (by omega)) hk
    (let ⟨cs, h1, h2, h3⟩ := hA.below hB0 hA.lt; ⟨cs, h1, by omega, fun j hj => h3 j (by omega)⟩) ⟨_, hblk, by simp; omega, fun j hj => by rw [Array.getElem?_replicate, if_pos (by omega)]⟩ hA.lt
  rw [← hK] at hnb
  simp at c1 c1'
  have hK32 : K ≤ 32 := by omega
  have HK := Lib.hid hK
  have HZ := Lib.hid hz
  clear hK hz
  go_enter Tryz.func42, Tryz.ntmps42
  go_wp2_with (go_at_call 71; refine hnb.mono ?_; rintro e w' ⟨i0, rfl, hi0, hz0, hend, hB1, hL⟩; have l1 : (i0 : Int) ≤ (K : Int) := by omega)
  · go_ret
    exact tail_of w.heap.size K k i0 0 b w w' hb HK.out hk HZ.out hi0 hz0 hB1 (.inr (by omega)) (Nat.le_refl _) (hB0.trans hL) 0 0 (by omega) rfl
  · go_ret
    exact tail_of w.heap.size K k i0 i0 b w w' hb HK.out hk HZ.out hi0 hz0 hB1 (.inl rfl) (Nat.le_refl _) (hB0.trans hL) _ _ rfl rfl
end Go.Proofs.YtiegapnfbeemcaaGreatDoor

namespace Go.Proofs.YtiegapnfbeemcaaGreatDoor
set_option maxRecDepth 100000
open Go.RowKit
open X (WR E0 H0)

theorem p256_any (eb : Nat) (w : World) (hW : WR (E0 eb) H0 w) : Calls Tryz.prog 48 #[] w fun e w' => ∃ cs : Array Value, e = .returned (.iface 122 (.agg cs)) ∧ Below w.heap.size w w' := by
  have hk := X.curve_any eb w hW
  go_enter Tryz.func48, Tryz.ntmps48
  go_wp2_with (go_at_call 77; refine hk.mono ?_; rintro e w' ⟨cs, rfl, hB⟩)
  go_ret
  exact ⟨cs, rfl, hB⟩
theorem public_any (eb gx ox cx gy oy cy : Nat) (bx bY : Nat → Int) (w : World) (hW : WR (E0 eb) H0 w)
    (hgx : gx < w.heap.size) (hnx : 32 ≤ cx) (hcx : cx ≤ maxLen) (hbx : ∀ j, j < 32 → 0 ≤ bx j ∧ bx j ≤ 255) (hx : ∀ j, j < 32 → w.cell? ⟨gx, ox + j, none⟩ = some (.int .u8 (bx j)))
    (hgy : gy < w.heap.size) (hny : 32 ≤ cy) (hcy : cy ≤ maxLen) (hby : ∀ j, j < 32 → 0 ≤ bY j ∧ bY j ≤ 255) (hy : ∀ j, j < 32 → w.cell? ⟨gy, oy + j, none⟩ = some (.int .u8 (bY j))) :
    Calls Tryz.prog 25 #[.slice (some ⟨gx, ox, none⟩) 32 cx, .slice (some ⟨gy, oy, none⟩) 32 cy] w fun e w' => ∃ (P G1 G2 : Nat) (I : Value), e = .returned (.pointer (some ⟨P, 0, none⟩)) ∧
      Blk w' P 81 #[I, .pointer (some ⟨G1, 0, none⟩), .pointer (some ⟨G2, 0, none⟩)] ∧ IntO w' w.heap.size G1 bx ∧ IntO w' w.heap.size G2 bY ∧ Below w.heap.size w w' := by
  have hk := p256_any eb w hW
  go_enter Tryz.func25, Tryz.ntmps25
  go_wp2_with (first
    | (go_at_call 48; refine hk.mono ?_; rintro e w1 ⟨cs, rfl, hB1⟩
       have hs1 := hB1.size
       have hx1 : ∀ j, j < 32 → w1.cell? ⟨gx, ox + j, none⟩ = some (.int .u8 (bx j)) := fun j hj => (hB1.cell (p := ⟨gx, ox + j, none⟩) hgx).trans (hx j hj)
       have hk1 := num_any gx ox cx bx w1 (by omega) hnx hcx hbx hx1)
    | (have h7 := hB2; go_at_call 49; refine hk2.mono ?_; rintro e w3 ⟨rfl, hI3, hB3⟩)
    | (go_at_call 49; refine hk1.mono ?_; rintro e w2 ⟨rfl, hI2, hB2⟩
       have hs2 := hB2.size
       have hy2 : ∀ j, j < 32 → w2.cell? ⟨gy, oy + j, none⟩ = some (.int .u8 (bY j)) := fun j hj => ((hB2.cell (p := ⟨gy, oy + j, none⟩) (by show gy < _; omega)).trans (hB1.cell (p := ⟨gy, oy + j, none⟩) hgy)).trans (hy j hj)
       have hk2 := num_any gy oy cy bY w2 (by omega) hny hcy hby hy2))
  go_ret
  have hs3 := hB3.size
  have hb3 : Below w.heap.size w w3 := (hB1.trans (hB2.mono hs1)).trans (hB3.mono (by omega))
  exact ⟨_, _, _, _, rfl, Blk.new w3 81 _, ((hI2.below hB3).below ((Below.refl _ _).alloc (Nat.le_refl _) _)).lift (by omega), (hI3.below ((Below.refl _ _).alloc (Nat.le_refl _) _)).lift (by omega), hb3.alloc (by omega) _⟩
end Go.Proofs.YtiegapnfbeemcaaGreatDoor
