/-
  The executor is sound: values and places. No condition.
-/
import Derived.Test.YtiegapnfbeemcaaGreatDoorA06
namespace Go.Proofs.YtiegapnfbeemcaaGreatDoor.X
set_option maxRecDepth 100000
open Go.RowKit

/-- The bound of a kind. -/
theorem modX_of {k : IntKind} {M : Nat} (h : modX k = some M) : (k = .u64 ∧ M = 2 ^ 64) ∨ (k = .u32 ∧ M = 2 ^ 32) ∨ (k = .u8 ∧ M = 2 ^ 8) := by
  unfold modX at h
  split at h <;> first | (injection h with h; subst h; simp) | cases h
theorem wrap_modI {k : IntKind} {M : Nat} (h : modX k = some M) (n : Int) : k.wrap n = n % (M : Int) := by
  rcases modX_of h with ⟨rfl, rfl⟩ | ⟨rfl, rfl⟩ | ⟨rfl, rfl⟩ <;> (simp only [IntKind.wrap, IntKind.bits, IntKind.signed, Bool.false_and, Bool.false_eq_true, if_false]; rfl)
theorem wrap_mod {k : IntKind} {M : Nat} (h : modX k = some M) (n : Nat) : k.wrap (n : Int) = ((n % M : Nat) : Int) := by
  rw [wrap_modI h]; rfl
theorem blt_of {a b : Nat} (h : Nat.blt a b = true) : a < b := Nat.le_of_ble_eq_true h
theorem wrap_of {k : IntKind} {n r : Int} (h : wrapX k n = some r) : k.wrap n = r := by
  unfold wrapX at h
  split at h
  · have h := Option.some.inj h; subst h; exact wrap_mod (M := 18446744073709551616) rfl _
  · have h := Option.some.inj h; subst h; exact wrap_mod (M := 4294967296) rfl _
  · have h := Option.some.inj h; subst h; exact wrap_mod (M := 256) rfl _
  · rename_i m
    have h := Option.some.inj h; subst h
    rw [wrap_modI (M := 18446744073709551616) rfl, Int.ofNat_eq_natCast, Int.negSucc_eq]; omega
  · split at h
    · rename_i m hm
      have h := Option.some.inj h; subst h
      have := blt_of hm
      exact IntWalk.i64_in _ (by rw [Int.ofNat_eq_natCast]; omega)
    · cases h
  · split at h
    · rename_i m hm
      have h := Option.some.inj h; subst h
      have := blt_of hm
      exact IntWalk.i64_in _ (by rw [Int.negSucc_eq]; omega)
    · cases h
  · cases h
theorem bits_of {k : IntKind} {M : Nat} (h : modX k = some M) : 2 ^ k.bits = M ∧ k.bits ≤ 64 := by
  rcases modX_of h with ⟨rfl, rfl⟩ | ⟨rfl, rfl⟩ | ⟨rfl, rfl⟩ <;> exact ⟨rfl, by decide⟩
theorem bv_of {n x : Nat} (hx : x < 2 ^ n) : (BitVec.ofInt n (x : Int)).toNat = x := by
  rw [BitVec.toNat_ofInt]
  show ((x % 2 ^ n : Nat) : Int).toNat = x
  rw [Int.toNat_natCast, Nat.mod_eq_of_lt hx]
theorem andNot_eq {n x y : Nat} (hx : x < 2 ^ n) (hy : y < 2 ^ n) : (BitVec.ofInt n (x : Int) &&& ~~~BitVec.ofInt n (y : Int)).toNat = Nat.xor x (Nat.land x y) := by
  apply Nat.eq_of_testBit_eq
  intro i
  rw [BitVec.testBit_toNat, BitVec.getLsbD_and, BitVec.getLsbD_not, ← BitVec.testBit_toNat, ← BitVec.testBit_toNat, bv_of hx, bv_of hy]
  show _ = (x ^^^ (x &&& y)).testBit i
  rw [Nat.testBit_xor, Nat.testBit_and]
  by_cases hi : i < n
  · simp only [hi, decide_true, Bool.true_and]
    cases x.testBit i <;> cases y.testBit i <;> rfl
  · have : x.testBit i = false := Nat.testBit_lt_two_pow (Nat.lt_of_lt_of_le hx (Nat.pow_le_pow_right (by decide) (by omega)))
    rw [this]; simp
theorem bits_nat {k : IntKind} {M : Nat} (hM : modX k = some M) {r : Nat} (hr : r < M) : k.wrap (r : Int) = (r : Int) := by
  rw [wrap_mod hM, Nat.mod_eq_of_lt hr]
theorem run_bits {w : World} {k : IntKind} {M x y : Nat} (hM : modX k = some M) (hx : x < M) (hy : y < M) :
    (Op.intBits .and k (x : Int) y).run Tryz.prog w = .ok (.int k ((Nat.land x y : Nat) : Int)) w ∧ (Op.intBits .or k (x : Int) y).run Tryz.prog w = .ok (.int k ((Nat.lor x y : Nat) : Int)) w ∧
    (Op.intBits .xor k (x : Int) y).run Tryz.prog w = .ok (.int k ((Nat.xor x y : Nat) : Int)) w ∧ (Op.intBits .andNot k (x : Int) y).run Tryz.prog w = .ok (.int k ((Nat.xor x (Nat.land x y) : Nat) : Int)) w := by
  obtain ⟨hb, _⟩ := bits_of hM
  have hx' : x < 2 ^ k.bits := by rw [hb]; exact hx
  have hy' : y < 2 ^ k.bits := by rw [hb]; exact hy
  have l1 : Nat.land x y < M := by rw [← hb]; exact Nat.and_lt_two_pow _ hy'
  have l2 : Nat.lor x y < M := by rw [← hb]; exact Nat.or_lt_two_pow hx' hy'
  have l3 : Nat.xor x y < M := by rw [← hb]; exact Nat.xor_lt_two_pow hx' hy'
  have l4 : Nat.xor x (Nat.land x y) < M := by rw [← hb]; exact Nat.xor_lt_two_pow hx' (Nat.and_lt_two_pow _ hy')
  refine ⟨?_, ?_, ?_, ?_⟩
  · unfold Op.intBits
    simp only [Sem.run_pure, BitVec.toNat_and, bv_of hx', bv_of hy']
    rw [show x &&& y = Nat.land x y from rfl, bits_nat hM l1]
  · unfold Op.intBits
    simp only [Sem.run_pure, BitVec.toNat_or, bv_of hx', bv_of hy']
    rw [show x ||| y = Nat.lor x y from rfl, bits_nat hM l2]
  · unfold Op.intBits
    simp only [Sem.run_pure, BitVec.toNat_xor, bv_of hx', bv_of hy']
    rw [show x ^^^ y = Nat.xor x y from rfl, bits_nat hM l3]
  · unfold Op.intBits
    simp only [Sem.run_pure]
    rw [andNot_eq hx' hy', bits_nat hM l4]

theorem eqI_eq (x y : Int) : eqI x y = (x == y) := by
  cases x <;> cases y
  · rename_i a b; show Nat.beq a b = _; rw [Bool.eq_iff_iff]; simp; omega
  · rfl
  · rfl
  · rename_i a b; show Nat.beq a b = _; rw [Bool.eq_iff_iff]; simp
theorem ltI_eq (x y : Int) : ltI x y = decide (x < y) := by
  have blt : ∀ a b : Nat, Nat.blt a b = decide (a < b) := fun a b => by
    rw [Bool.eq_iff_iff, decide_eq_true_iff]
    exact ⟨blt_of, Nat.ble_eq_true_of_le⟩
  cases x <;> cases y
  · rename_i a b; show Nat.blt a b = _; rw [blt]; congr 1; simp only [Int.ofNat_eq_natCast]; exact propext (by omega)
  · rename_i a b; show false = _; symm; simp only [decide_eq_false_iff_not, Int.ofNat_eq_natCast, Int.negSucc_eq]; omega
  · rename_i a b; show true = _; symm; simp only [decide_eq_true_eq, Int.ofNat_eq_natCast, Int.negSucc_eq]; omega
  · rename_i a b; show Nat.blt b a = _; rw [blt]; congr 1; simp only [Int.negSucc_eq]; exact propext (by omega)
theorem run_cmp {op : BinOp} {x y : Int} {v : Value} (h : cmpX op x y = some v) (w : World) : (Op.intCmp op x y).run Tryz.prog w = .ok v w ∧ flat v = true := by
  unfold cmpX at h
  split at h
  all_goals first | cases h | (have h := Option.some.inj h; subst h)
  all_goals simp only [Op.intCmp, Sem.run_pure, eqI_eq, ltI_eq, flat, and_true]
  all_goals first | rfl | (congr 2; rw [Bool.eq_iff_iff]; simp)
theorem cmp_ops {op : BinOp} {x y : Int} {v : Value} (h : cmpX op x y = some v) : op = .eql ∨ op = .neq ∨ op = .lss ∨ op = .leq ∨ op = .gtr ∨ op = .geq := by
  unfold cmpX at h
  split at h <;> first | simp | cases h
theorem run_i64 {w : World} {x y : Nat} (hx : x < 9223372036854775808) (hy : y < 9223372036854775808) :
    (Op.intBits .and .i64 (x : Int) y).run Tryz.prog w = .ok (.int .i64 ((Nat.land x y : Nat) : Int)) w ∧ (Op.intBits .andNot .i64 (x : Int) y).run Tryz.prog w = .ok (.int .i64 ((Nat.xor x (Nat.land x y) : Nat) : Int)) w := by
  have hx' : x < 2 ^ IntKind.i64.bits := Nat.lt_trans hx (by decide)
  have hy' : y < 2 ^ IntKind.i64.bits := Nat.lt_trans hy (by decide)
  have l1 : Nat.land x y < 2 ^ 63 := Nat.and_lt_two_pow _ hy
  have l4 : Nat.xor x (Nat.land x y) < 2 ^ 63 := Nat.xor_lt_two_pow hx (Nat.and_lt_two_pow _ hy)
  have hw : ∀ r : Nat, r < 2 ^ 63 → IntKind.i64.wrap (r : Int) = (r : Int) := fun r hr => IntWalk.i64_in _ (by omega)
  refine ⟨?_, ?_⟩
  · unfold Op.intBits
    simp only [Sem.run_pure, BitVec.toNat_and, bv_of hx', bv_of hy']
    rw [show x &&& y = Nat.land x y from rfl, hw _ l1]
  · unfold Op.intBits
    simp only [Sem.run_pure]
    rw [andNot_eq hx' hy', hw _ l4]
theorem retI_of {k : IntKind} {n : Int} {v : Value} (h : retI k (wrapX k n) = some v) : v = .int k (k.wrap n) := by
  unfold retI at h
  split at h
  · rename_i m hm
    have h := Option.some.inj h
    rw [← h, wrap_of hm]
  · cases h
end Go.Proofs.YtiegapnfbeemcaaGreatDoor.X

namespace Go.Proofs.YtiegapnfbeemcaaGreatDoor.X
set_option maxRecDepth 100000
open Go.RowKit

theorem bin_add (t : TypeId) (k : IntKind) (a b : Int) : binOp .add t (.int k a) (.int k b) = Op.intArith .add k a b := by simp [binOp]
theorem bin_sub (t : TypeId) (k : IntKind) (a b : Int) : binOp .sub t (.int k a) (.int k b) = Op.intArith .sub k a b := by simp [binOp]
theorem bin_mul (t : TypeId) (k : IntKind) (a b : Int) : binOp .mul t (.int k a) (.int k b) = Op.intArith .mul k a b := by simp [binOp]
theorem bin_quo (t : TypeId) (k : IntKind) (a b : Int) : binOp .quo t (.int k a) (.int k b) = Op.intDiv .quo k a b := by simp [binOp]
theorem bin_rem (t : TypeId) (k : IntKind) (a b : Int) : binOp .rem t (.int k a) (.int k b) = Op.intDiv .rem k a b := by simp [binOp]
theorem bin_and (t : TypeId) (k : IntKind) (a b : Int) : binOp .and t (.int k a) (.int k b) = Op.intBits .and k a b := by simp [binOp]
theorem bin_or (t : TypeId) (k : IntKind) (a b : Int) : binOp .or t (.int k a) (.int k b) = Op.intBits .or k a b := by simp [binOp]
theorem bin_xor (t : TypeId) (k : IntKind) (a b : Int) : binOp .xor t (.int k a) (.int k b) = Op.intBits .xor k a b := by simp [binOp]
theorem bin_andNot (t : TypeId) (k : IntKind) (a b : Int) : binOp .andNot t (.int k a) (.int k b) = Op.intBits .andNot k a b := by simp [binOp]
theorem bin_cmp {op : BinOp} (h : op = .eql ∨ op = .neq ∨ op = .lss ∨ op = .leq ∨ op = .gtr ∨ op = .geq) (t : TypeId) (k : IntKind) (a b : Int) : binOp op t (.int k a) (.int k b) = Op.intCmp op a b := by
  rcases h with rfl | rfl | rfl | rfl | rfl | rfl <;> simp [binOp]
theorem bin_shl (t : TypeId) (k l : IntKind) (a b : Int) : binOp .shl t (.int k a) (.int l b) = Op.shift .shl k a l b := by simp [binOp]
theorem bin_shr (t : TypeId) (k l : IntKind) (a b : Int) : binOp .shr t (.int k a) (.int l b) = Op.shift .shr k a l b := by simp [binOp]
theorem beq0 {y : Nat} (h : ¬ Nat.beq y 0 = true) : ¬ (y : Int) = 0 := fun e => h (by
  have : y = 0 := by omega
  rw [this]; rfl)
theorem run_nat {op : BinOp} {k : IntKind} {M x y : Nat} {v : Value} (hM : modX k = some M) (h : natX op k M x y = some v) (w : World) (t : TypeId) :
    (binOp op t (.int k x) (.int k y)).run Tryz.prog w = .ok v w ∧ flat v = true := by
  unfold natX at h
  split at h
  · have h := Option.some.inj h
    subst h
    refine ⟨?_, rfl⟩
    rw [bin_add]
    simp only [Op.intArith, Sem.run_pure]
    rw [← Int.natCast_add, wrap_mod hM]; rfl
  · split at h
    · rename_i hy
      have hy := Nat.le_of_ble_eq_true hy
      have h := Option.some.inj h
      subst h
      refine ⟨?_, rfl⟩
      rw [bin_sub]
      simp only [Op.intArith, Sem.run_pure]
      rw [wrap_modI hM, Int.ofNat_eq_natCast]
      have : (x : Int) - y = ((x + (M - y) : Nat) : Int) - M := by omega
      rw [this, Int.sub_emod_right]; rfl
    · cases h
  · have h := Option.some.inj h
    subst h
    refine ⟨?_, rfl⟩
    rw [bin_mul]
    simp only [Op.intArith, Sem.run_pure]
    rw [← Int.natCast_mul, wrap_mod hM]; rfl
  · split at h
    · cases h
    · rename_i hy
      split at h
      · rename_i hx
        have hx := blt_of hx
        have h := Option.some.inj h
        subst h
        refine ⟨?_, rfl⟩
        rw [bin_quo]
        have hy' := beq0 hy
        unfold Op.intDiv
        rw [if_neg hy']
        show (pure (Value.int k (k.wrap ((x / y : Nat) : Int))) : Sem Value).run Tryz.prog w = _
        rw [bits_nat hM (Nat.lt_of_le_of_lt (Nat.div_le_self _ _) hx)]; rfl
      · cases h
  · split at h
    · cases h
    · rename_i hy
      have h := Option.some.inj h
      subst h
      refine ⟨?_, rfl⟩
      rw [bin_rem]
      have hy' := beq0 hy
      unfold Op.intDiv
      rw [if_neg hy']; rfl
  all_goals first
    | (split at h
       case isFalse => cases h
       case isTrue hc =>
        rw [Bool.and_eq_true] at hc
        have hb := run_bits (w := w) hM (blt_of hc.1) (blt_of hc.2)
        have h := Option.some.inj h
        subst h
        refine ⟨?_, rfl⟩
        first
          | (rw [bin_and]; exact hb.1)
          | (rw [bin_or]; exact hb.2.1)
          | (rw [bin_xor]; exact hb.2.2.1)
          | (rw [bin_andNot]; exact hb.2.2.2))
    | cases h

theorem run_sig {op : BinOp} {x y : Int} {v : Value} (h : sigX op x y = some v) (w : World) (t : TypeId) :
    (binOp op t (.int .i64 x) (.int .i64 y)).run Tryz.prog w = .ok v w ∧ flat v = true := by
  unfold sigX at h
  split at h
  · have h := retI_of h
    subst h
    exact ⟨by rw [bin_add]; rfl, rfl⟩
  · have h := retI_of h
    subst h
    exact ⟨by rw [bin_sub]; rfl, rfl⟩
  · have h := retI_of h
    subst h
    exact ⟨by rw [bin_mul]; rfl, rfl⟩
  · split at h
    · rename_i a b
      split at h
      · cases h
      · rename_i hy
        have h := retI_of h
        subst h
        have hy' : ¬ (Int.ofNat _) = 0 := beq0 hy
        refine ⟨?_, rfl⟩
        rw [bin_quo]
        unfold Op.intDiv
        rw [if_neg hy']; rfl
    · cases h
  · split at h
    · rename_i a b
      split at h
      · cases h
      · rename_i hy
        have h := Option.some.inj h
        subst h
        have hy' : ¬ (Int.ofNat _) = 0 := beq0 hy
        refine ⟨?_, rfl⟩
        rw [bin_rem]
        unfold Op.intDiv
        rw [if_neg hy']; rfl
    · cases h
  · split at h
    · split at h
      · rename_i hc
        rw [Bool.and_eq_true] at hc
        have h := Option.some.inj h
        subst h
        exact ⟨by rw [bin_and]; exact (run_i64 (blt_of hc.1) (blt_of hc.2)).1, rfl⟩
      · cases h
    · cases h
  · split at h
    · split at h
      · rename_i hc
        rw [Bool.and_eq_true] at hc
        have h := Option.some.inj h
        subst h
        exact ⟨by rw [bin_andNot]; exact (run_i64 (blt_of hc.1) (blt_of hc.2)).2, rfl⟩
      · cases h
    · cases h
  · cases h
theorem run_shl {x : Nat} {y : Int} {v : Value} {l : IntKind} (h : shlX x y = some v) (w : World) (t : TypeId) : (binOp .shl t (.int .u64 x) (.int l y)).run Tryz.prog w = .ok v w ∧ flat v = true := by
  unfold shlX at h
  split at h
  · rename_i n
    have key : ∀ r : Nat, r = (x * 2 ^ min n 64) % 18446744073709551616 → (binOp .shl t (.int .u64 x) (.int l (Int.ofNat n))).run Tryz.prog w = .ok (.int .u64 (r : Int)) w := fun r hr => by
      rw [bin_shl]
      unfold Op.shift
      rw [if_neg (by rw [Int.ofNat_eq_natCast]; omega)]
      show (pure (Value.int .u64 (IntKind.u64.wrap ((x : Int) * (2 : Int) ^ min n 64))) : Sem Value).run Tryz.prog w = _
      rw [show ((2 : Int) ^ min n 64) = ((2 ^ min n 64 : Nat) : Int) by rw [Int.natCast_pow]; rfl, ← Int.natCast_mul, wrap_mod (M := 18446744073709551616) rfl, hr]; rfl
    split at h
    · rename_i hn
      have hn := blt_of hn
      have h := Option.some.inj h
      subst h
      exact ⟨key _ (by rw [Nat.min_eq_left (by omega)]), rfl⟩
    · rename_i hn
      have hn : 64 ≤ n := by
        rcases Nat.lt_or_ge n 64 with h1 | h1
        · exact absurd (Nat.ble_eq_true_of_le h1) hn
        · exact h1
      have h := Option.some.inj h
      subst h
      exact ⟨key 0 (by rw [Nat.min_eq_right hn]; omega), rfl⟩
  · cases h
theorem run_shr {x : Nat} {y : Int} {v : Value} {l : IntKind} (h : shrX x y = some v) (w : World) (t : TypeId) : (binOp .shr t (.int .u64 x) (.int l y)).run Tryz.prog w = .ok v w ∧ flat v = true := by
  unfold shrX at h
  split at h
  · rename_i n
    have key : ∀ r : Nat, r = x / 2 ^ min n 64 → (binOp .shr t (.int .u64 x) (.int l (Int.ofNat n))).run Tryz.prog w = .ok (.int .u64 (r : Int)) w := fun r hr => by
      rw [bin_shr]
      unfold Op.shift
      rw [if_neg (by rw [Int.ofNat_eq_natCast]; omega)]
      show (pure (Value.int .u64 ((x : Int).fdiv ((2 : Int) ^ min n 64))) : Sem Value).run Tryz.prog w = _
      rw [show ((2 : Int) ^ min n 64) = ((2 ^ min n 64 : Nat) : Int) by rw [Int.natCast_pow]; rfl, hr, Int.fdiv_eq_ediv_of_nonneg _ (Int.natCast_nonneg _)]; rfl
    split at h
    · rename_i hx
      have hx := blt_of hx
      split at h
      · rename_i hn
        have hn := blt_of hn
        have h := Option.some.inj h
        subst h
        exact ⟨key _ (by rw [Nat.min_eq_left (by omega)]), rfl⟩
      · rename_i hn
        have hn : 64 ≤ n := by
          rcases Nat.lt_or_ge n 64 with h1 | h1
          · exact absurd (Nat.ble_eq_true_of_le h1) hn
          · exact h1
        have h := Option.some.inj h
        subst h
        exact ⟨key 0 (by rw [Nat.min_eq_right hn]; omega), rfl⟩
    · cases h
  · cases h
theorem run_int {op : BinOp} {k l : IntKind} {x y : Int} {v : Value} (h : intX op k x l y = some v) (w : World) (t : TypeId) :
    (binOp op t (.int k x) (.int l y)).run Tryz.prog w = .ok v w ∧ flat v = true := by
  unfold intX at h
  split at h
  · split at h
    · exact run_shl h w t
    · cases h
  · split at h
    · exact run_shr h w t
    · cases h
  · split at h
    · rename_i hkl
      subst hkl
      split at h
      · rename_i u hu
        have h := Option.some.inj h
        subst h
        rw [bin_cmp (cmp_ops hu)]
        exact run_cmp hu w
      · split at h
        · exact run_sig h w t
        · exact run_nat (by assumption) h w t
        · cases h
    · cases h
theorem xor_ones {n x : Nat} (hx : x < 2 ^ n) : Nat.xor (2 ^ n - 1) x = 2 ^ n - 1 - x := by
  apply Nat.eq_of_testBit_eq
  intro i
  show ((2 ^ n - 1) ^^^ x).testBit i = _
  rw [Nat.testBit_xor, Nat.testBit_two_pow_sub_one, show 2 ^ n - 1 - x = 2 ^ n - (x + 1) by omega, Nat.testBit_two_pow_sub_succ hx]
  by_cases hi : i < n
  · simp only [hi, decide_true, Bool.true_and]
    cases x.testBit i <;> rfl
  · have : x.testBit i = false := Nat.testBit_lt_two_pow (Nat.lt_of_lt_of_le hx (Nat.pow_le_pow_right (by decide) (by omega)))
    rw [this]; simp [hi]
theorem run_un {op : UnOp} {v r : Value} (h : unX op v = some r) (w : World) : (Op.unary op v).run Tryz.prog w = .ok r w ∧ flat r = true := by
  unfold unX at h
  split at h
  · have h := Option.some.inj h; subst h; exact ⟨rfl, rfl⟩
  · have h := retI_of h
    subst h
    rename_i n
    refine ⟨?_, rfl⟩
    show (pure (Value.int .i64 (IntKind.i64.wrap (0 - n))) : Sem Value).run Tryz.prog w = _
    rw [Int.zero_sub]; rfl
  · rename_i n
    split at h
    · rename_i hn
      have hn := blt_of hn
      have h := Option.some.inj h
      subst h
      refine ⟨?_, rfl⟩
      show (Op.intBits .xor .u64 ((18446744073709551615 : Nat) : Int) n).run Tryz.prog w = _
      rw [(run_bits (w := w) (M := 18446744073709551616) rfl (x := 18446744073709551615) (y := n) (by decide) hn).2.2.1, xor_ones (n := 64) hn]; rfl
    · cases h
  · cases h
end Go.Proofs.YtiegapnfbeemcaaGreatDoor.X

namespace Go.Proofs.YtiegapnfbeemcaaGreatDoor.X
set_option maxRecDepth 100000
open Go.RowKit

section
variable {φ : Env} {H : Heap} {w : World}
theorem liveX_at {b : Nat} (h : liveX H b = true) : ∃ B : X.Blk, H[b]? = some B ∧ B.live = true := by
  unfold liveX at h
  rw [getL_eq] at h
  split at h
  · rename_i B hB; exact ⟨B, hB, h⟩
  · cases h
theorem WR.rowAt (hW : WR φ H w) {b : Nat} (h : liveX H b = true) : ∃ p cs t, φ[b]? = some p ∧ Go.Proofs.YtiegapnfbeemcaaGreatDoor.Blk w p.1 t cs ∧ cs.size = p.2 := by
  obtain ⟨B, hB, hl⟩ := liveX_at h
  obtain ⟨p, cs, hp, hb, hs, _⟩ := hW.blk b B hB hl
  exact ⟨p, cs, _, hp, hb, hs⟩
theorem shape_row {g : Nat} {t : TypeId} {cs : Array Value} (h : Go.Proofs.YtiegapnfbeemcaaGreatDoor.Blk w g t cs) : w.shape? g = some (t, cs.size) := by
  unfold Go.Proofs.YtiegapnfbeemcaaGreatDoor.Blk at h
  simp [World.shape?, h]
theorem same_far {g k : Nat} {t u : TypeId} {cs ds : Array Value} (h : Go.Proofs.YtiegapnfbeemcaaGreatDoor.Blk w g t cs) (h' : Go.Proofs.YtiegapnfbeemcaaGreatDoor.Blk w k u ds) (hne : g ≠ k) (i j : Nat) :
    (sameAddr ⟨g, i, none⟩ ⟨k, j, none⟩).run Tryz.prog w = .ok false w := by
  have e1 := h.frozen
  have e2 := h'.frozen
  have s1 := shape_row h
  have s2 := shape_row h'
  have hb : (g == k) = false := by simpa using hne
  simp [sameAddr, hb, noView, viewAt, mayBeOne, stringish, s1, s2, e1, e2]
theorem same_near (g i j : Nat) : (sameAddr ⟨g, i, none⟩ ⟨g, j, none⟩).run Tryz.prog w = .ok (Nat.beq i j) w := by
  have : ((⟨g, i, none⟩ : Addr) == ⟨g, j, none⟩) = Nat.beq i j := by
    rw [Bool.eq_iff_iff]
    simp
  simp [sameAddr, this]
theorem run_sam (hW : WR φ H w) {b o b' o' : Nat} {r : Bool} {p q : Nat × Nat} (h : samX H ⟨b, o, none⟩ ⟨b', o', none⟩ = some r) (hp : φ[b]? = some p) (hq : φ[b']? = some q) :
    (sameAddr ⟨p.1, o, none⟩ ⟨q.1, o', none⟩).run Tryz.prog w = .ok r w := by
  unfold samX at h
  split at h
  · rename_i he
    have he := Nat.eq_of_beq_eq_true he
    simp only at he
    subst he
    rw [hp] at hq
    injection hq with hq
    subst hq
    have h := Option.some.inj h
    rw [same_near, ← h]
  · rename_i he
    split at h
    · rename_i hl
      rw [Bool.and_eq_true] at hl
      obtain ⟨B, hB, hlB⟩ := liveX_at hl.1
      obtain ⟨C, hC, hlC⟩ := liveX_at hl.2
      obtain ⟨p', cs, hp', hb, _⟩ := hW.blk b B hB hlB
      obtain ⟨q', ds, hq', hc, _⟩ := hW.blk b' C hC hlC
      rw [hp] at hp'
      injection hp' with hp'
      subst hp'
      rw [hq] at hq'
      injection hq' with hq'
      subst hq'
      have h := Option.some.inj h
      subst h
      refine same_far hb hc (fun e => ?_) o o'
      have := hW.inj b b' B C p q hB hC hlB hlC hp hq e
      subst this
      simp only at he
      rw [Nat.beq_refl] at he; cases he
    · cases h
theorem ptrT_of {t : Nat} (h : ptrT t = true) : t = 74 ∨ t = 152 ∨ t = 155 ∨ t = 192 := by
  unfold ptrT at h
  rw [List.any_eq_true] at h
  obtain ⟨x, hx, he⟩ := h
  have := Nat.eq_of_beq_eq_true he
  subst this
  simpa using hx
theorem eq_pp {t : Nat} (h : ptrT t = true) (a b : Addr) (w : World) : (Op.equal t (.pointer (some a)) (.pointer (some b))).run Tryz.prog w = (sameAddr a b).run Tryz.prog w := by
  rcases ptrT_of h with rfl | rfl | rfl | rfl <;> kernel_rfl
theorem eq_nn {t : Nat} (h : ptrT t = true) (w : World) : (Op.equal t (.pointer none) (.pointer none)).run Tryz.prog w = .ok true w := by
  rcases ptrT_of h with rfl | rfl | rfl | rfl <;> kernel_rfl
theorem eq_np {t : Nat} (h : ptrT t = true) (a : Addr) (w : World) : (Op.equal t (.pointer none) (.pointer (some a))).run Tryz.prog w = .ok false w := by
  rcases ptrT_of h with rfl | rfl | rfl | rfl <;> kernel_rfl
theorem eq_pn {t : Nat} (h : ptrT t = true) (a : Addr) (w : World) : (Op.equal t (.pointer (some a)) (.pointer none)).run Tryz.prog w = .ok false w := by
  rcases ptrT_of h with rfl | rfl | rfl | rfl <;> kernel_rfl
theorem eq_ii (a b : Addr) (w : World) : (Op.equal 51 (.iface 101 (.pointer (some a))) (.iface 101 (.pointer (some b)))).run Tryz.prog w = (sameAddr a b).run Tryz.prog w := by kernel_rfl
theorem eq_00 (w : World) : (Op.equal 51 .nilIface .nilIface).run Tryz.prog w = .ok true w := by kernel_rfl
theorem eq_0i (t : TypeId) (v : Value) (w : World) : (Op.equal 51 .nilIface (.iface t v)).run Tryz.prog w = .ok false w := by kernel_rfl
theorem eq_i0 (t : TypeId) (v : Value) (w : World) : (Op.equal 51 (.iface t v) .nilIface).run Tryz.prog w = .ok false w := by kernel_rfl
end
end Go.Proofs.YtiegapnfbeemcaaGreatDoor.X

namespace Go.Proofs.YtiegapnfbeemcaaGreatDoor.X
set_option maxRecDepth 100000
open Go.RowKit

section
variable {φ : Env} {H : Heap} {w : World}
theorem mv_p {v' : Value} (h : mv φ (.pointer none) = some v') : v' = .pointer none := (Option.some.inj h).symm
theorem addr_of {a : Addr} {v' : Value} (h : mv φ (.pointer (some a)) = some v') : ∃ b o p, a = ⟨b, o, none⟩ ∧ φ[b]? = some p ∧ v' = .pointer (some ⟨p.1, o, none⟩) := by
  obtain ⟨b, o, s⟩ := a
  cases s with
  | some s => cases h
  | none =>
    obtain ⟨p, hp, e⟩ := mv_ptr h
    exact ⟨b, o, p, rfl, hp, e⟩
theorem eof_of {x v' : Value} (h : mv φ (.iface 101 x) = some v') : ∃ p : Nat × Nat, φ[3]? = some p ∧ v' = eofV p.2 := by
  have h : mv1 φ (.iface 101 x) = some v' := h
  unfold mv1 at h
  simp only [if_true] at h
  split at h
  · split at h
    · rename_i p hp
      exact ⟨p, hp, (Option.some.inj h).symm⟩
    · cases h
  · cases h
theorem iface_of {t : TypeId} {x v' : Value} (h : mv φ (.iface t x) = some v') : ∃ s x', v' = .iface s x' := by
  by_cases h101 : t = 101
  · subst h101
    obtain ⟨p, _, e⟩ := eof_of h
    exact ⟨_, _, e⟩
  · have h : mv1 φ (.iface t x) = some v' := h
    unfold mv1 at h
    simp only [h101, if_false] at h
    split at h
    · exact ⟨_, _, (Option.some.inj h).symm⟩
    · cases h
theorem addr_ofI {t : TypeId} (h101 : t ≠ 101) {a : Addr} {v' : Value} (h : mv φ (.iface t (.pointer (some a))) = some v') : ∃ b o p, a = ⟨b, o, none⟩ ∧ φ[b]? = some p ∧ v' = .iface t (.pointer (some ⟨p.1, o, none⟩)) := by
  have h : mv1 φ (.iface t (.pointer (some a))) = some v' := h
  unfold mv1 at h
  simp only [h101, if_false] at h
  split at h
  · rename_i x hx
    have h := Option.some.inj h
    obtain ⟨b, o, p, rfl, hp, e⟩ := addr_of (φ := φ) (v' := x) hx
    subst e
    exact ⟨b, o, p, rfl, hp, h.symm⟩
  · cases h
theorem run_eqX (hW : WR φ H w) {t : Nat} {v u v' u' : Value} {b : Bool} (h : eqX H t v u = some b) (hv : mv φ v = some v') (hu : mv φ u = some u') : (Op.equal t v' u').run Tryz.prog w = .ok b w ∧
    (∀ op, binOp op t v' u' = match op with | .eql => (do pure (.bool (← Op.equal t v' u'))) | .neq => (do pure (.bool (!(← Op.equal t v' u')))) | op => binOp op t v' u') ∧ (∀ a c, ¬ (v' = .agg a ∧ u' = .agg c)) := by
  unfold eqX at h
  split at h
  · split at h
    · rename_i ht
      have h := Option.some.inj h
      subst h
      rw [mv_p hv, mv_p hu]
      exact ⟨eq_nn ht w, fun op => by cases op <;> rfl, fun a c e => by cases e.1⟩
    · cases h
  · split at h
    · rename_i ht
      have h := Option.some.inj h
      subst h
      obtain ⟨_, _, p, rfl, _, rfl⟩ := addr_of hu
      rw [mv_p hv]
      exact ⟨eq_np ht _ w, fun op => by cases op <;> rfl, fun a c e => by cases e.1⟩
    · cases h
  · split at h
    · rename_i ht
      have h := Option.some.inj h
      subst h
      obtain ⟨_, _, p, rfl, _, rfl⟩ := addr_of hv
      rw [mv_p hu]
      exact ⟨eq_pn ht _ w, fun op => by cases op <;> rfl, fun a c e => by cases e.1⟩
    · cases h
  · split at h
    · rename_i ht
      obtain ⟨_, _, p, rfl, hp, rfl⟩ := addr_of hv
      obtain ⟨_, _, q, rfl, hq, rfl⟩ := addr_of hu
      exact ⟨(eq_pp ht _ _ w).trans (run_sam hW h hp hq), fun op => by cases op <;> rfl, fun a c e => by cases e.1⟩
    · cases h
  · split at h
    · rename_i ht
      have ht := Nat.eq_of_beq_eq_true ht
      have h := Option.some.inj h
      subst h; subst ht
      have e1 := (Option.some.inj hv).symm
      have e2 := (Option.some.inj hu).symm
      subst e1; subst e2
      exact ⟨eq_00 w, fun op => by cases op <;> rfl, fun a c e => by cases e.1⟩
    · cases h
  · split at h
    · rename_i ht
      have ht := Nat.eq_of_beq_eq_true ht
      have h := Option.some.inj h
      subst h; subst ht
      have e1 := (Option.some.inj hv).symm
      obtain ⟨_, x', rfl⟩ := iface_of hu
      subst e1
      exact ⟨eq_0i _ _ w, fun op => by cases op <;> rfl, fun a c e => by cases e.1⟩
    · cases h
  · split at h
    · rename_i ht
      have ht := Nat.eq_of_beq_eq_true ht
      have h := Option.some.inj h
      subst h; subst ht
      have e1 := (Option.some.inj hu).symm
      obtain ⟨_, x', rfl⟩ := iface_of hv
      subst e1
      exact ⟨eq_i0 _ _ w, fun op => by cases op <;> rfl, fun a c e => by cases e.1⟩
    · cases h
  · split at h
    · rename_i ht
      have ht := Nat.eq_of_beq_eq_true ht
      subst ht
      have h := Option.some.inj h
      subst h
      obtain ⟨p, hp, rfl⟩ := eof_of hv
      obtain ⟨q, hq, rfl⟩ := eof_of hu
      rw [hp] at hq
      have hq := Option.some.inj hq
      subst hq
      exact ⟨(eq_ii _ _ w).trans (by simp [sameAddr]), fun op => by cases op <;> rfl, fun a c e => by cases e.1⟩
    · cases h
  · cases h
theorem guard_ok {op : BinOp} {t : TypeId} {x y : Operand} {v u : Value} (h : v = .nilIface → u = .nilIface → (litX x || litX y) = true) (hn : ∀ a c, ¬ (v = .agg a ∧ u = .agg c)) : (eqGuard op t x y v u).run Tryz.prog w = .ok () w := by
  unfold eqGuard
  cases op <;> first | rfl | skip
  all_goals
    simp only [Bool.not_true, Bool.false_eq_true, if_false]
    split
    · have hl : (litX x || litX y) = true := h rfl rfl
      cases x <;> cases y <;> first | rfl | (simp [litX] at hl)
    · rename_i a b; exact absurd ⟨rfl, rfl⟩ (hn a b)
    · rfl
theorem mv_int {k : IntKind} {n : Int} {v' : Value} (h : mv φ (.int k n) = some v') : v' = .int k n := (Option.some.inj h).symm
theorem mv_bool {b : Bool} {v' : Value} (h : mv φ (.bool b) = some v') : v' = .bool b := (Option.some.inj h).symm
theorem eq_b {a b : Bool} (w : World) : (Op.equal 4 (.bool a) (.bool b)).run Tryz.prog w = .ok (a == b) w := by kernel_rfl
theorem nil_of {v v' : Value} (h : mv φ v = some v') (e : v' = .nilIface) : v = .nilIface := by
  subst e
  unfold mv at h
  split at h
  · split at h <;> cases h
  · split at h <;> cases h
  · unfold mv1 at h
    split at h
    · split at h
      · split at h
        · split at h
          · unfold eofV at h; cases h
          · cases h
        · cases h
      · split at h <;> cases h
    · unfold mv0 at h
      split at h
      · split at h <;> cases h
      · split at h
        · split at h
          · cases h
          · split at h <;> cases h
        · cases h
      all_goals first | rfl | cases h
theorem run_bin (hW : WR φ H w) {op : BinOp} {t : Nat} {x y : Operand} {v u v' u' r : Value} (h : binX H op t v u = some r) (hl : nilOk x y v u = true) (hv : mv φ v = some v') (hu : mv φ u = some u') :
    ((do eqGuard op t x y v' u'; binOp op t v' u') : Sem Value).run Tryz.prog w = .ok r w ∧ flat r = true := by
  have hg : ∀ hn : (∀ a c, ¬ (v' = .agg a ∧ u' = .agg c)), (eqGuard op t x y v' u').run Tryz.prog w = .ok () w := fun hn => guard_ok (fun e1 e2 => by
    have := nil_of hv e1
    subst this
    have := nil_of hu e2
    subst this
    exact hl) hn
  suffices hs : (∀ a c, ¬ (v' = .agg a ∧ u' = .agg c)) ∧ (binOp op t v' u').run Tryz.prog w = .ok r w ∧ flat r = true by
    obtain ⟨h1, h2, h3⟩ := hs
    refine ⟨?_, h3⟩
    rw [Sem.run_bind, hg h1]
    exact h2
  unfold binX at h
  split at h
  · have e1 := mv_int hv
    have e2 := mv_int hu
    subst e1; subst e2
    exact ⟨(fun _ _ e => by cases e.1), run_int h w t⟩
  · split at h
    · rename_i ht
      have ht := Nat.eq_of_beq_eq_true ht
      have e1 := mv_bool hv
      have e2 := mv_bool hu
      have h := Option.some.inj h
      subst e1; subst e2; subst ht; subst h
      refine ⟨(fun _ _ e => by cases e.1), ?_, rfl⟩
      show ((do pure (.bool (← Op.equal 4 (.bool _) (.bool _)))) : Sem Value).run Tryz.prog w = _
      rw [Sem.run_bind, eq_b]; rfl
    · cases h
  · split at h
    · rename_i ht
      have ht := Nat.eq_of_beq_eq_true ht
      have e1 := mv_bool hv
      have e2 := mv_bool hu
      have h := Option.some.inj h
      subst e1; subst e2; subst ht; subst h
      refine ⟨(fun _ _ e => by cases e.1), ?_, rfl⟩
      show ((do pure (.bool (!(← Op.equal 4 (.bool _) (.bool _))))) : Sem Value).run Tryz.prog w = _
      rw [Sem.run_bind, eq_b]; rfl
    · cases h
  · split at h
    · rename_i b hb
      have h := Option.some.inj h
      subst h
      obtain ⟨h1, h2, h3⟩ := run_eqX hW hb hv hu
      refine ⟨h3, ?_, rfl⟩
      rw [h2 .eql]
      show ((do pure (.bool (← Op.equal t v' u'))) : Sem Value).run Tryz.prog w = _
      rw [Sem.run_bind, h1]; rfl
    · cases h
  · split at h
    · rename_i b hb
      have h := Option.some.inj h
      subst h
      obtain ⟨h1, h2, h3⟩ := run_eqX hW hb hv hu
      refine ⟨h3, ?_, rfl⟩
      rw [h2 .neq]
      show ((do pure (.bool (!(← Op.equal t v' u')))) : Sem Value).run Tryz.prog w = _
      rw [Sem.run_bind, h1]; rfl
    · cases h
  · cases h
end
end Go.Proofs.YtiegapnfbeemcaaGreatDoor.X

namespace Go.Proofs.YtiegapnfbeemcaaGreatDoor.X
set_option maxRecDepth 100000
open Go.RowKit

section
variable {w : World}
theorem elemX_of {t e : Nat} {z : Value} (h : elemX t = some (e, z)) : (t = 106 ∧ e = 137 ∧ z = .int .u64 0) ∨ (t = 107 ∧ e = 137 ∧ z = .int .u64 0) ∨ (t = 22 ∧ e = 5 ∧ z = .int .u8 0) := by
  unfold elemX at h
  split at h <;> first | (have h := Option.some.inj h; injection h with h1 h2; subst h1; subst h2; simp) | cases h
theorem und_of {t e : Nat} {z : Value} (h : elemX t = some (e, z)) : Tryz.prog.underlying t = some (.slice e) ∧ (∀ w : World, (sizeOf e).run Tryz.prog w = .ok 1 w) ∧ (∀ w : World, (zeroValue e).run Tryz.prog w = .ok z w) ∧ flat z = true ∧ z.cells = #[z] := by
  rcases elemX_of h with ⟨rfl, rfl, rfl⟩ | ⟨rfl, rfl, rfl⟩ | ⟨rfl, rfl, rfl⟩ <;> exact ⟨by kernel_rfl, fun w => by kernel_rfl, fun w => by kernel_rfl, rfl, rfl⟩
theorem run_und {t : TypeId} {d : TypeDesc} (h : Tryz.prog.underlying t = some d) (w : World) : (underlying t).run Tryz.prog w = .ok d w := by
  simp [underlying, h]
theorem fa109_0 (g o : Nat) (w : World) : (Instr.fieldAt 109 (.pointer (some ⟨g, o, none⟩)) 0).run Tryz.prog w = .ok (.pointer (some ⟨g, o + 0, none⟩)) w := by kernel_rfl
theorem fa109_1 (g o : Nat) (w : World) : (Instr.fieldAt 109 (.pointer (some ⟨g, o, none⟩)) 1).run Tryz.prog w = .ok (.pointer (some ⟨g, o + 1, none⟩)) w := by kernel_rfl
theorem fa165_0 (g o : Nat) (w : World) : (Instr.fieldAt 165 (.pointer (some ⟨g, o, none⟩)) 0).run Tryz.prog w = .ok (.pointer (some ⟨g, o + 0, none⟩)) w := by kernel_rfl
theorem fa165_1 (g o : Nat) (w : World) : (Instr.fieldAt 165 (.pointer (some ⟨g, o, none⟩)) 1).run Tryz.prog w = .ok (.pointer (some ⟨g, o + 1, none⟩)) w := by kernel_rfl
theorem fa165_2 (g o : Nat) (w : World) : (Instr.fieldAt 165 (.pointer (some ⟨g, o, none⟩)) 2).run Tryz.prog w = .ok (.pointer (some ⟨g, o + 2, none⟩)) w := by kernel_rfl
theorem fa194_0 (g o : Nat) (w : World) : (Instr.fieldAt 194 (.pointer (some ⟨g, o, none⟩)) 0).run Tryz.prog w = .ok (.pointer (some ⟨g, o + 0, none⟩)) w := by kernel_rfl
theorem fa198_0 (g o : Nat) (w : World) : (Instr.fieldAt 198 (.pointer (some ⟨g, o, none⟩)) 0).run Tryz.prog w = .ok (.pointer (some ⟨g, o + 0, none⟩)) w := by kernel_rfl
theorem fa142_0 (g o : Nat) (w : World) : (Instr.fieldAt 142 (.pointer (some ⟨g, o, none⟩)) 0).run Tryz.prog w = .ok (.pointer (some ⟨g, o + 0, none⟩)) w := by kernel_rfl
theorem fa142_1 (g o : Nat) (w : World) : (Instr.fieldAt 142 (.pointer (some ⟨g, o, none⟩)) 1).run Tryz.prog w = .ok (.pointer (some ⟨g, o + 1, none⟩)) w := by kernel_rfl
theorem fa142_2 (g o : Nat) (w : World) : (Instr.fieldAt 142 (.pointer (some ⟨g, o, none⟩)) 2).run Tryz.prog w = .ok (.pointer (some ⟨g, o + 2, none⟩)) w := by kernel_rfl
theorem fa142_3 (g o : Nat) (w : World) : (Instr.fieldAt 142 (.pointer (some ⟨g, o, none⟩)) 3).run Tryz.prog w = .ok (.pointer (some ⟨g, o + 3, none⟩)) w := by kernel_rfl
theorem fa142_4 (g o : Nat) (w : World) : (Instr.fieldAt 142 (.pointer (some ⟨g, o, none⟩)) 4).run Tryz.prog w = .ok (.pointer (some ⟨g, o + 4, none⟩)) w := by kernel_rfl
theorem fa142_5 (g o : Nat) (w : World) : (Instr.fieldAt 142 (.pointer (some ⟨g, o, none⟩)) 5).run Tryz.prog w = .ok (.pointer (some ⟨g, o + 5, none⟩)) w := by kernel_rfl
theorem fa142_6 (g o : Nat) (w : World) : (Instr.fieldAt 142 (.pointer (some ⟨g, o, none⟩)) 6).run Tryz.prog w = .ok (.pointer (some ⟨g, o + 6, none⟩)) w := by kernel_rfl
theorem fa122_0 (g o : Nat) (w : World) : (Instr.fieldAt 122 (.pointer (some ⟨g, o, none⟩)) 0).run Tryz.prog w = .ok (.pointer (some ⟨g, o + 0, none⟩)) w := by kernel_rfl
theorem fa122_1 (g o : Nat) (w : World) : (Instr.fieldAt 122 (.pointer (some ⟨g, o, none⟩)) 1).run Tryz.prog w = .ok (.pointer (some ⟨g, o + 1, none⟩)) w := by kernel_rfl
theorem fa122_2 (g o : Nat) (w : World) : (Instr.fieldAt 122 (.pointer (some ⟨g, o, none⟩)) 2).run Tryz.prog w = .ok (.pointer (some ⟨g, o + 2, none⟩)) w := by kernel_rfl
theorem fa122_3 (g o : Nat) (w : World) : (Instr.fieldAt 122 (.pointer (some ⟨g, o, none⟩)) 3).run Tryz.prog w = .ok (.pointer (some ⟨g, o + 11, none⟩)) w := by kernel_rfl
theorem fa122_4 (g o : Nat) (w : World) : (Instr.fieldAt 122 (.pointer (some ⟨g, o, none⟩)) 4).run Tryz.prog w = .ok (.pointer (some ⟨g, o + 20, none⟩)) w := by kernel_rfl
theorem fa122_5 (g o : Nat) (w : World) : (Instr.fieldAt 122 (.pointer (some ⟨g, o, none⟩)) 5).run Tryz.prog w = .ok (.pointer (some ⟨g, o + 29, none⟩)) w := by kernel_rfl
theorem run_fa {t i j g o : Nat} (h : fieldX t i = some j) : (Instr.fieldAt t (.pointer (some ⟨g, o, none⟩)) i).run Tryz.prog w = .ok (.pointer (some ⟨g, o + j, none⟩)) w := by
  unfold fieldX at h
  split at h
  · split at h
    · rename_i hi
      have h := Option.some.inj h
      subst h
      have : i = 0 ∨ i = 1 := by omega
      rcases this with rfl | rfl
      · exact fa109_0 g o w
      · exact fa109_1 g o w
    · cases h
  · split at h
    · rename_i hi
      have h := Option.some.inj h
      subst h
      have : i = 0 ∨ i = 1 ∨ i = 2 := by omega
      rcases this with rfl | rfl | rfl
      · exact fa165_0 g o w
      · exact fa165_1 g o w
      · exact fa165_2 g o w
    · cases h
  · split at h
    · rename_i hi
      have h := Option.some.inj h
      subst h
      have : i = 0 := by omega
      subst this
      exact fa194_0 g o w
    · cases h
  · split at h
    · rename_i hi
      have h := Option.some.inj h
      subst h
      have : i = 0 := by omega
      subst this
      exact fa198_0 g o w
    · cases h
  · split at h
    · rename_i hi
      have h := Option.some.inj h
      subst h
      have : i = 0 ∨ i = 1 ∨ i = 2 ∨ i = 3 ∨ i = 4 ∨ i = 5 ∨ i = 6 := by omega
      rcases this with rfl | rfl | rfl | rfl | rfl | rfl | rfl
      · exact fa142_0 g o w
      · exact fa142_1 g o w
      · exact fa142_2 g o w
      · exact fa142_3 g o w
      · exact fa142_4 g o w
      · exact fa142_5 g o w
      · exact fa142_6 g o w
    · cases h
  · rw [getL_eq] at h
    have hi : i < 6 := (List.getElem?_eq_some_iff.1 h).1
    have : i = 0 ∨ i = 1 ∨ i = 2 ∨ i = 3 ∨ i = 4 ∨ i = 5 := by omega
    rcases this with rfl | rfl | rfl | rfl | rfl | rfl
    · have h := Option.some.inj h; subst h; exact fa122_0 g o w
    · have h := Option.some.inj h; subst h; exact fa122_1 g o w
    · have h := Option.some.inj h; subst h; exact fa122_2 g o w
    · have h := Option.some.inj h; subst h; exact fa122_3 g o w
    · have h := Option.some.inj h; subst h; exact fa122_4 g o w
    · have h := Option.some.inj h; subst h; exact fa122_5 g o w
  · cases h
theorem run_ix {t e : Nat} {z : Value} (h : elemX t = some (e, z)) {g o n c j : Nat} {k : IntKind} (hj : j < n) : (Instr.indexAt t (.slice (some ⟨g, o, none⟩) n c) (.int k (Int.ofNat j))).run Tryz.prog w = .ok (.pointer (some ⟨g, o + j, none⟩)) w := by
  obtain ⟨hu, hs, _⟩ := und_of h
  have hadd : (⟨g, o, none⟩ : Addr).add j = ⟨g, o + j, none⟩ := by unfold Addr.add; split <;> simp_all
  simp [Instr.indexAt, asIntOf, run_und hu, hs, hj, hadd]
theorem run_ix72 {g o j : Nat} {k : IntKind} (hj : j < 9) : (Instr.indexAt 72 (.pointer (some ⟨g, o, none⟩)) (.int k (Int.ofNat j))).run Tryz.prog w = .ok (.pointer (some ⟨g, o + j, none⟩)) w := by
  have hu : Tryz.prog.underlying 72 = some (.array 9 24) := by kernel_rfl
  have hs : ∀ w : World, (sizeOf 24).run Tryz.prog w = .ok 1 w := fun w => by kernel_rfl
  have hadd : (⟨g, o, none⟩ : Addr).add j = ⟨g, o + j, none⟩ := by unfold Addr.add; split <;> simp_all
  simp [Instr.indexAt, Instr.sureAddr, asIntOf, run_und hu, hs, hadd]
  intro h; omega
theorem run_at {s : ByteArray} {n : Int} {v : Value} {k : IntKind} (h : atX s n = some v) : (Instr.index 9 (.string s) (.int k n)).run Tryz.prog w = .ok v w ∧ flat v = true := by
  unfold atX at h
  split at h
  · rename_i j
    rw [getL_eq] at h
    split at h
    · rename_i b hb
      have h := Option.some.inj h
      subst h
      refine ⟨?_, rfl⟩
      have hu : Tryz.prog.underlying 9 = some .string := by kernel_rfl
      have hlt : j < s.size := (List.getElem?_eq_some_iff.1 hb).1
      have hs : s[j]? = some b := by
        rw [getElem?_pos s j hlt]
        congr 1
        have := (List.getElem?_eq_some_iff.1 hb).2
        rw [← this]; rfl
      unfold Instr.index
      simp only [asIntOf, Sem.run_bind, Sem.run_pure, Result.andThen_ok, run_und hu]
      rw [if_pos (by rw [Int.ofNat_eq_natCast]; omega)]
      show (match s[j]? with | some b => pure (.int .u8 b.toNat) | none => boundsPanic k (Int.ofNat j) s.size .index : Sem Value).run Tryz.prog w = _
      rw [hs]; rfl
    · cases h
  · cases h
theorem info137 : (Tryz.prog.info? 137).bind (·.zero) = some (.int .u64 0) ∧ ((Tryz.prog.info? 137).map fun i => decide (i.bytes ≤ 8) && decide (i.size = 1)) = some true := ⟨by kernel_rfl, by kernel_rfl⟩
theorem info5 : (Tryz.prog.info? 5).bind (·.zero) = some (.int .u8 0) ∧ ((Tryz.prog.info? 5).map fun i => decide (i.bytes ≤ 8) && decide (i.size = 1)) = some true := ⟨by kernel_rfl, by kernel_rfl⟩
/-- New rows. -/
theorem run_mk {t e : Nat} {z : Value} (h : elemX t = some (e, z)) {l c : Nat} (hl : l ≤ c) (hc : c ≤ 100000) :
    (Instr.makeSlice t (.int .i64 (Int.ofNat l)) (.int .i64 (Int.ofNat c))).run Tryz.prog w = .ok (.slice (some ⟨w.heap.size, 0, none⟩) l c) (w.alloc (.cells ⟨List.replicate c z⟩ e)) := by
  have hm : ∀ (c : Nat) (z : Value), madeCells #[z] c = ⟨List.replicate c z⟩ := fun c z => by
    unfold madeCells
    apply Array.ext'
    simp only [Array.toList_map, Array.toList_range]
    refine List.ext_getElem (by simp) fun i h1 h2 => ?_
    simp [Nat.mod_one]
  have hi : (Tryz.prog.info? e).bind (·.zero) = some z ∧ ((Tryz.prog.info? e).map fun i => decide (i.bytes ≤ 8) && decide (i.size = 1)) = some true := by
    rcases elemX_of h with ⟨rfl, rfl, rfl⟩ | ⟨rfl, rfl, rfl⟩ | ⟨rfl, rfl, rfl⟩
    · exact info137
    · exact info137
    · exact info5
  obtain ⟨h1, h2⟩ := hi
  cases hq : Tryz.prog.info? e with
  | none => rw [hq] at h1; cases h1
  | some i =>
    rw [hq] at h1 h2
    have h2 := Option.some.inj h2
    rw [Bool.and_eq_true, decide_eq_true_iff, decide_eq_true_iff] at h2
    have hx := run_make (P := Tryz.prog) w t e i z (und_of h).1 hq h1 .i64 .i64 (Int.ofNat l) (Int.ofNat c) (by rw [Int.ofNat_eq_natCast]; omega) (by rw [Int.ofNat_eq_natCast, Int.ofNat_eq_natCast]; omega)
      (by rw [Int.ofNat_eq_natCast]
          have : ((i.bytes * c : Nat) : Int) ≤ 281474976710656 := by
            have := Nat.mul_le_mul h2.1 hc
            omega
          rw [Int.natCast_mul] at this; exact this) (by rw [Int.ofNat_eq_natCast]; omega)
    rw [hx, (und_of h).2.2.2.2, h2.2]
    have : (Int.ofNat c).toNat * 1 = c := by rw [Int.ofNat_eq_natCast, Int.toNat_natCast, Nat.mul_one]
    rw [this, hm]; rfl
end
end Go.Proofs.YtiegapnfbeemcaaGreatDoor.X
