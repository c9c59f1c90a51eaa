/- A block there and back; SM4's modes over whole blocks, back and forth. No program in sight; no condition. -/
import Derived.Test.YtkfagcpboehjjaaDoorOnly
namespace Go.Proofs.YtkfagcpboehjjaaDoor
open Go.RowKit

theorem or_nat (x y : Nat) (hx : x < 4294967296) (hy : y < 4294967296) : bits .or .u32 (x : Int) (y : Int) = ((x ||| y : Nat) : Int) := by
  have e : bits .or .u32 (x : Int) (y : Int) = IntKind.u32.wrap ((BitVec.ofInt 32 (x : Int) ||| BitVec.ofInt 32 (y : Int)).toNat : Int) := rfl
  have h1 : (BitVec.ofInt 32 (x : Int) ||| BitVec.ofInt 32 (y : Int)).toNat = x ||| y := by
    rw [BitVec.toNat_or, show BitVec.ofInt 32 (x : Int) = BitVec.ofNat 32 x by simp, show BitVec.ofInt 32 (y : Int) = BitVec.ofNat 32 y by simp, BitVec.toNat_ofNat, BitVec.toNat_ofNat, Nat.mod_eq_of_lt hx, Nat.mod_eq_of_lt hy]
  have h2 : x ||| y < 2 ^ 32 := Nat.or_lt_two_pow (by omega) (by omega)
  rw [e, h1, IntKind.wrap_u32']
  omega
theorem xor_nat8 (x y : Nat) (hx : x < 256) (hy : y < 256) : bits .xor .u8 (x : Int) (y : Int) = ((x ^^^ y : Nat) : Int) := by
  have e : bits .xor .u8 (x : Int) (y : Int) = IntKind.u8.wrap ((BitVec.ofInt 8 (x : Int) ^^^ BitVec.ofInt 8 (y : Int)).toNat : Int) := rfl
  have h1 : (BitVec.ofInt 8 (x : Int) ^^^ BitVec.ofInt 8 (y : Int)).toNat = x ^^^ y := by
    rw [BitVec.toNat_xor, show BitVec.ofInt 8 (x : Int) = BitVec.ofNat 8 x by simp, show BitVec.ofInt 8 (y : Int) = BitVec.ofNat 8 y by simp, BitVec.toNat_ofNat, BitVec.toNat_ofNat, Nat.mod_eq_of_lt hx, Nat.mod_eq_of_lt hy]
  have h2 : x ^^^ y < 2 ^ 8 := Nat.xor_lt_two_pow (by omega) (by omega)
  rw [e, h1]
  simp [IntKind.wrap, IntKind.bits, IntKind.signed]
  omega
theorem or_low (a b k : Nat) (h : b < 2 ^ k) : a * 2 ^ k ||| b = a * 2 ^ k + b := by
  rw [← Nat.shiftLeft_eq, Nat.shiftLeft_add_eq_or_of_lt h]
/-- A word of four bytes, as a number. -/
theorem wd_eq {b0 b1 b2 b3 : Int} (h0 : 0 ≤ b0 ∧ b0 ≤ 255) (h1 : 0 ≤ b1 ∧ b1 ≤ 255) (h2 : 0 ≤ b2 ∧ b2 ≤ 255) (h3 : 0 ≤ b3 ∧ b3 ≤ 255) :
    wd b0 b1 b2 b3 = b0 * 16777216 + b1 * 65536 + b2 * 256 + b3 := by
  obtain ⟨a0, rfl⟩ : ∃ m : Nat, b0 = m := ⟨b0.toNat, by omega⟩
  obtain ⟨a1, rfl⟩ : ∃ m : Nat, b1 = m := ⟨b1.toNat, by omega⟩
  obtain ⟨a2, rfl⟩ : ∃ m : Nat, b2 = m := ⟨b2.toNat, by omega⟩
  obtain ⟨a3, rfl⟩ : ∃ m : Nat, b3 = m := ⟨b3.toNat, by omega⟩
  unfold wd
  have e0 : (a0 : Int) * 16777216 = ((a0 * 2 ^ 24 : Nat) : Int) := by simp
  have e1 : (a1 : Int) * 65536 = ((a1 * 2 ^ 16 : Nat) : Int) := by simp
  have e2 : (a2 : Int) * 256 = ((a2 * 2 ^ 8 : Nat) : Int) := by simp
  rw [e0, e1, e2, or_nat _ _ (by omega) (by omega)]
  have s1 : a0 * 2 ^ 24 ||| a1 * 2 ^ 16 = (a0 * 256 + a1) * 2 ^ 16 := by
    rw [or_low _ _ _ (by omega)]; omega
  rw [s1, or_nat _ _ (by omega) (by omega)]
  have s2 : (a0 * 256 + a1) * 2 ^ 16 ||| a2 * 2 ^ 8 = ((a0 * 256 + a1) * 256 + a2) * 2 ^ 8 := by
    rw [or_low _ _ _ (by omega)]; omega
  rw [s2, or_nat _ _ (by omega) (by omega), or_low _ _ _ (by omega)]
  omega
theorem byF_wdF {f : Nat → Int} (h : Bf f) (m : Nat) : byF (wdF f) m = f m := by
  have e : wdF f (m / 4) = f (4 * (m / 4)) * 16777216 + f (4 * (m / 4) + 1) * 65536 + f (4 * (m / 4) + 2) * 256 + f (4 * (m / 4) + 3) := wd_eq (h _) (h _) (h _) (h _)
  have h0 := h (4 * (m / 4))
  have h1 := h (4 * (m / 4) + 1)
  have h2 := h (4 * (m / 4) + 2)
  have h3 := h (4 * (m / 4) + 3)
  unfold byF
  rw [e]
  split
  · have hm : f m = f (4 * (m / 4)) := by congr 1; omega
    omega
  · split
    · have hm : f m = f (4 * (m / 4) + 1) := by congr 1; omega
      omega
    · split
      · have hm : f m = f (4 * (m / 4) + 2) := by congr 1; omega
        omega
      · have hm : f m = f (4 * (m / 4) + 3) := by congr 1; omega
        omega
theorem wdF_byF {x : Nat → Int} (h : Wf x) (j : Nat) : wdF (byF x) j = x j := by
  have hb := byF_bf h
  have hx := h j
  unfold U32 at hx
  show wd (byF x (4 * j)) (byF x (4 * j + 1)) (byF x (4 * j + 2)) (byF x (4 * j + 3)) = x j
  rw [wd_eq (hb _) (hb _) (hb _) (hb _)]
  have q0 : byF x (4 * j) = x j / 16777216 := by unfold byF; rw [if_pos (by omega), show 4 * j / 4 = j by omega]
  have q1 : byF x (4 * j + 1) = x j / 65536 % 256 := by unfold byF; rw [if_neg (by omega), if_pos (by omega), show (4 * j + 1) / 4 = j by omega]
  have q2 : byF x (4 * j + 2) = x j / 256 % 256 := by unfold byF; rw [if_neg (by omega), if_neg (by omega), if_pos (by omega), show (4 * j + 2) / 4 = j by omega]
  have q3 : byF x (4 * j + 3) = x j % 256 := by unfold byF; rw [if_neg (by omega), if_neg (by omega), if_neg (by omega), show (4 * j + 3) / 4 = j by omega]
  rw [q0, q1, q2, q3]
  omega

theorem fei_congr {st st' : Int → Int → Int} {x x' rk : Nat → Int} (hs : ∀ a b c d e, st a (xr (xr (xr b c) d) e) = st' a (xr (xr (xr b c) d) e)) (hx : ∀ j, j < 4 → x j = x' j) (j : Nat) : fei st x rk j = fei st' x' rk j := by
  induction j using Nat.strongRecOn with
  | _ j ih =>
    by_cases h4 : j < 4
    · rw [fei_low _ _ _ _ h4, fei_low _ _ _ _ h4, hx j h4]
    · obtain ⟨i, rfl⟩ : ∃ i, j = i + 4 := ⟨j - 4, by omega⟩
      rw [fei_next, fei_next, ih i (by omega), ih (i + 1) (by omega), ih (i + 2) (by omega), ih (i + 3) (by omega), hs]
/-- A block is encrypted, with the keys of the rounds; and decrypted. -/
def E (rk x : Nat → Int) : Nat → Int := byF fun j => fei stepS (wdF x) rk (35 - j)
def rev (rk : Nat → Int) (i : Nat) : Int := rk (31 - i)
def D (rk x : Nat → Int) : Nat → Int := E (rev rk) x
theorem E_wf (rk x : Nat → Int) : Wf fun j => fei stepS (wdF x) rk (35 - j) := fun _ => fei_u32 u32_stepS (fun j _ => wdF_u32 x j) _
theorem E_bf (rk x : Nat → Int) : Bf (E rk x) := byF_bf (E_wf rk x)
theorem D_bf (rk x : Nat → Int) : Bf (D rk x) := E_bf _ _
theorem E_impl (rk x : Nat → Int) : (byF fun j => fei stepI (wdF x) rk (35 - j)) = E rk x := by
  unfold E
  congr 1
  funext j
  exact fei_congr (fun a b c d e => step_eq a _ (u32_xr _ _)) (fun _ _ => rfl) _
/-- Two blocks that are alike. -/
def Eq16 (x y : Nat → Int) : Prop := ∀ j, j < 16 → x j = y j
theorem wdF_congr {x y : Nat → Int} (h : Eq16 x y) (j : Nat) (hj : j < 4) : wdF x j = wdF y j := by
  unfold wdF
  rw [h _ (by omega), h _ (by omega), h _ (by omega), h _ (by omega)]
theorem E_congr {rk x y : Nat → Int} (h : Eq16 x y) : E rk x = E rk y := by
  unfold E
  congr 1
  funext j
  exact fei_congr (fun _ _ _ _ _ => rfl) (wdF_congr h) _
theorem D_congr {rk x y : Nat → Int} (h : Eq16 x y) : D rk x = D rk y := E_congr h
theorem byF_congr {x y : Nat → Int} (h : ∀ j, j < 4 → x j = y j) : Eq16 (byF x) (byF y) := fun j hj => by
  unfold byF
  rw [h (j / 4) (by omega)]
theorem D_E {rk x : Nat → Int} (h : Bf x) : Eq16 (D rk (E rk x)) x := fun j hj => by
  have e1 : Eq16 (D rk (E rk x)) (byF (wdF x)) := byF_congr (x := fun j => fei stepS (wdF (E rk x)) (rev rk) (35 - j)) fun i hi => by
    have := fei_back (rk := rk) (x := wdF x) (y := wdF (E rk x)) (fun j _ => wdF_u32 x j) (fun j _ => wdF_byF (E_wf rk x) j) (35 - i) (by omega)
    rw [show 35 - (35 - i) = i by omega, fei_low _ _ _ _ hi] at this
    exact this
  rw [e1 j hj, byF_wdF h]
theorem rev_rev {rk : Nat → Int} {i : Nat} (h : i < 32) : rev (rev rk) i = rk i := by unfold rev; congr 1; omega

/-- Two blocks, bit by bit. -/
def xb (x y : Nat → Int) (j : Nat) : Int := bits .xor .u8 (x j) (y j)
theorem u8b (op : BinOp) (x y : Int) : 0 ≤ bits op .u8 x y ∧ bits op .u8 x y ≤ 255 := u8_bits op x y
theorem xb_bf (x y : Nat → Int) : Bf (xb x y) := fun _ => u8_bits _ _ _
theorem xb_comm {x y : Nat → Int} (hx : Bf x) (hy : Bf y) : xb x y = xb y x := by
  funext j
  have h1 := hx j
  have h2 := hy j
  obtain ⟨a, ha⟩ : ∃ m : Nat, x j = m := ⟨(x j).toNat, by omega⟩
  obtain ⟨b, hb⟩ : ∃ m : Nat, y j = m := ⟨(y j).toNat, by omega⟩
  unfold xb
  rw [ha, hb, xor_nat8 _ _ (by omega) (by omega), xor_nat8 _ _ (by omega) (by omega), Nat.xor_comm]
theorem xb_back {x y : Nat → Int} (hx : Bf x) (hy : Bf y) : xb (xb x y) y = x := by
  funext j
  have h1 := hx j
  have h2 := hy j
  obtain ⟨a, ha⟩ : ∃ m : Nat, x j = m := ⟨(x j).toNat, by omega⟩
  obtain ⟨b, hb⟩ : ∃ m : Nat, y j = m := ⟨(y j).toNat, by omega⟩
  have h3 : a ^^^ b < 2 ^ 8 := Nat.xor_lt_two_pow (by omega) (by omega)
  show bits .xor .u8 (bits .xor .u8 (x j) (y j)) (y j) = x j
  rw [ha, hb, xor_nat8 _ _ (by omega) (by omega), xor_nat8 _ _ (by omega) (by omega), Nat.xor_assoc, Nat.xor_self, Nat.xor_zero]
theorem xb_back' {x y : Nat → Int} (hx : Bf x) (hy : Bf y) : xb y (xb y x) = x := by
  rw [xb_comm hy hx, xb_comm hy (xb_bf _ _), xb_back hx hy]
theorem xb_congr {x y x' y' : Nat → Int} (h : Eq16 x x') (h' : Eq16 y y') : Eq16 (xb x y) (xb x' y') := fun j hj => by unfold xb; rw [h j hj, h' j hj]

/-- Block k of some bytes; bytes out of blocks. -/
def blk (d : Nat → Int) (k j : Nat) : Int := d (16 * k + j)
def pick (o : Nat → Nat → Int) (p : Nat) : Int := o (p / 16) (p % 16)
theorem blk_pick (o : Nat → Nat → Int) (k : Nat) : Eq16 (blk (pick o) k) (o k) := fun j hj => by
  unfold blk pick
  rw [show (16 * k + j) / 16 = k by omega, show (16 * k + j) % 16 = j by omega]
theorem blk_bf {d : Nat → Int} (h : Bf d) (k : Nat) : Bf (blk d k) := fun _ => h _
theorem pick_bf {o : Nat → Nat → Int} (h : ∀ k, Bf (o k)) : Bf (pick o) := fun _ => h _ _
theorem pick_congr {o : Nat → Nat → Int} {d : Nat → Int} {m : Nat} (h : ∀ k, k < m → Eq16 (o k) (blk d k)) (p : Nat) (hp : p < 16 * m) : pick o p = d p := by
  unfold pick
  rw [h (p / 16) (by omega) (p % 16) (by omega)]
  unfold blk
  congr 1
  omega

section
variable (rk iv d : Nat → Int)
/-- The block before block k: the first one, or the bytes' own. -/
def prv : Nat → Nat → Int
  | 0 => iv
  | k + 1 => blk d k
def cbcS : Nat → Nat → Int
  | 0 => iv
  | k + 1 => E rk (xb (blk d k) (cbcS k))
def cfbS : Nat → Nat → Int
  | 0 => iv
  | k + 1 => xb (E rk (cfbS k)) (blk d k)
def ofbS : Nat → Nat → Int
  | 0 => iv
  | k + 1 => E rk (ofbS k)
end
/-- Block k of what a mode makes of some bytes: 1 ECB, 2 CBC, 3 CFB, 4 OFB. -/
def mO (mode : Nat) (rk iv d : Nat → Int) (back : Bool) (k : Nat) : Nat → Int :=
  match mode, back with
  | 1, false => E rk (blk d k)
  | 1, true => D rk (blk d k)
  | 2, false => cbcS rk iv d (k + 1)
  | 2, true => xb (D rk (blk d k)) (prv iv d k)
  | 3, false => cfbS rk iv d (k + 1)
  | 3, true => xb (E rk (prv iv d k)) (blk d k)
  | _, _ => xb (ofbS rk iv (k + 1)) (blk d k)
section
variable {rk iv d d' : Nat → Int}
theorem cbcS_bf (hi : Bf iv) : ∀ k, Bf (cbcS rk iv d k)
  | 0 => hi
  | _ + 1 => E_bf _ _
theorem cfbS_bf (hi : Bf iv) : ∀ k, Bf (cfbS rk iv d k)
  | 0 => hi
  | _ + 1 => xb_bf _ _
theorem ofbS_bf (hi : Bf iv) : ∀ k, Bf (ofbS rk iv k)
  | 0 => hi
  | _ + 1 => E_bf _ _
theorem prv_bf (hi : Bf iv) (hd : Bf d) : ∀ k, Bf (prv iv d k)
  | 0 => hi
  | _ + 1 => blk_bf hd _
theorem mO_bf (mode : Nat) (hi : Bf iv) (back : Bool) (k : Nat) : Bf (mO mode rk iv d back k) := by
  unfold mO
  split
  · exact E_bf _ _
  · exact D_bf _ _
  · exact cbcS_bf hi _
  · exact xb_bf _ _
  · exact cfbS_bf hi _
  · exact xb_bf _ _
  · exact xb_bf _ _
theorem prv_pick {o : Nat → Nat → Int} {s : Nat → Nat → Int} (h0 : s 0 = iv) (h : ∀ k, o k = s (k + 1)) : ∀ k, Eq16 (prv iv (pick o) k) (s k)
  | 0 => fun j _ => by rw [h0]; rfl
  | k + 1 => fun j hj => by
    show blk (pick o) k j = _
    rw [blk_pick o k j hj, h k]
/-- What a mode made is made back. -/
theorem mO_back (mode : Nat) (hi : Bf iv) (hd : Bf d) (k : Nat) : Eq16 (mO mode rk iv (pick (mO mode rk iv d false)) true k) (blk d k) := by
  intro j hj
  have hb := blk_bf hd k
  by_cases h1 : mode = 1
  · subst h1
    show D rk (blk (pick fun k => E rk (blk d k)) k) j = _
    rw [D_congr (blk_pick (fun k => E rk (blk d k)) k), D_E hb j hj]
  by_cases h2 : mode = 2
  · subst h2
    show xb (D rk (blk (pick fun k => cbcS rk iv d (k + 1)) k)) (prv iv (pick fun k => cbcS rk iv d (k + 1)) k) j = _
    have e1 := D_congr (rk := rk) (blk_pick (fun k => cbcS rk iv d (k + 1)) k)
    rw [e1]
    have e2 : Eq16 (D rk (cbcS rk iv d (k + 1))) (xb (blk d k) (cbcS rk iv d k)) := D_E (xb_bf _ _)
    have e3 : Eq16 (prv iv (pick fun k => cbcS rk iv d (k + 1)) k) (cbcS rk iv d k) := prv_pick (s := cbcS rk iv d) rfl (fun _ => rfl) k
    rw [xb_congr e2 e3 j hj, xb_back hb (cbcS_bf hi k)]
  by_cases h3 : mode = 3
  · subst h3
    show xb (E rk (prv iv (pick fun k => cfbS rk iv d (k + 1)) k)) (blk (pick fun k => cfbS rk iv d (k + 1)) k) j = _
    have e3 : Eq16 (prv iv (pick fun k => cfbS rk iv d (k + 1)) k) (cfbS rk iv d k) := prv_pick (s := cfbS rk iv d) rfl (fun _ => rfl) k
    rw [E_congr e3, xb_congr (fun _ _ => rfl) (blk_pick (fun k => cfbS rk iv d (k + 1)) k) j hj]
    show xb (E rk (cfbS rk iv d k)) (xb (E rk (cfbS rk iv d k)) (blk d k)) j = _
    rw [xb_back' hb (E_bf _ _)]
  · have e : ∀ (d : Nat → Int) b, mO mode rk iv d b = fun k => xb (ofbS rk iv (k + 1)) (blk d k) := by
      intro d b
      funext k
      unfold mO
      split <;> first | rfl | omega
    rw [e, e]
    show xb (ofbS rk iv (k + 1)) (blk (pick fun k => xb (ofbS rk iv (k + 1)) (blk d k)) k) j = _
    rw [xb_congr (fun _ _ => rfl) (blk_pick (fun k => xb (ofbS rk iv (k + 1)) (blk d k)) k) j hj, xb_back' hb (ofbS_bf hi _)]
end
end Go.Proofs.YtkfagcpboehjjaaDoor
