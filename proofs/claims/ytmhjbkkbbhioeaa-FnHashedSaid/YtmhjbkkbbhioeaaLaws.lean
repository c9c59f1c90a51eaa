/- The SM3 hash in plain numbers, second part: padding, blocks one behind the other. No program in sight; no condition. -/
import Derived.Test.YtmhjbkkbbhioeaaLaw
namespace Go.Proofs.Ytmhjbkkbbhioeaa

def bo (x : Int) : List Int := [x / 16777216, x / 65536 % 256, x / 256 % 256, x % 256]
theorem bo_length (x : Int) : (bo x).length = 4 := rfl
theorem bo_byte {x : Int} (h : 0 ≤ x ∧ x ≤ 4294967295) : ∀ y ∈ bo x, 0 ≤ y ∧ y ≤ 255 := by
  intro y hy
  simp only [bo, List.mem_cons, List.not_mem_nil, or_false] at hy
  omega
/-- How many zeros go in. -/
def zn (n : Nat) : Nat := (119 - n % 64) % 64
def pad (l : List Int) : List Int := l ++ [128] ++ List.replicate (zn l.length) 0 ++ bo ((l.length : Int) * 8 / 4294967296) ++ bo ((l.length : Int) * 8)
theorem pad_length (l : List Int) : (pad l).length = l.length + 1 + zn l.length + 8 := by simp only [pad, List.length_append, bo_length, List.length_replicate, List.length_singleton]
theorem pad_mod (l : List Int) : (pad l).length % 64 = 0 := by rw [pad_length]; unfold zn; omega
theorem pad_byte {l : List Int} (h : ∀ x ∈ l, 0 ≤ x ∧ x ≤ 255) (hn : l.length ≤ 1000000) : ∀ x ∈ pad l, 0 ≤ x ∧ x ≤ 255 := by
  intro x hx
  simp only [pad, List.mem_append, List.mem_singleton, List.mem_replicate] at hx
  rcases hx with (((hx | rfl) | ⟨_, rfl⟩) | hx) | hx
  · exact h x hx
  · omega
  · omega
  · exact bo_byte (by omega) x hx
  · exact bo_byte (by omega) x hx

theorem wexp_congr {b b' : Nat → Int} (h : ∀ j, j < 16 → b j = b' j) (j : Nat) : wexp b j = wexp b' j := by
  induction j using Nat.strongRecOn with
  | _ j ih =>
    by_cases hj : j < 16
    · rw [wexp_low _ _ hj, wexp_low _ _ hj, h j hj]
    · rw [wexp_high b _ (by omega), wexp_high b' _ (by omega), ih (j - 16) (by omega), ih (j - 9) (by omega), ih (j - 3) (by omega), ih (j - 13) (by omega), ih (j - 6) (by omega)]
theorem comp_congr (s : St) {b b' : Nat → Int} (h : ∀ j, j < 16 → b j = b' j) : comp s b = comp s b' := by
  unfold comp
  rw [show wexp b = wexp b' from funext (wexp_congr h)]
theorem wordAt_cut (p : List Int) (o j : Nat) (hj : j < 16) : wordAt ((p.drop o).take 64) 0 j = wordAt p o j := by
  have h : ∀ i, i < 64 → ((p.drop o).take 64).getD i 0 = p.getD (o + i) 0 := fun i hi => by
    rw [List.getD_eq_getElem?_getD, List.getD_eq_getElem?_getD, List.getElem?_take, if_pos hi, List.getElem?_drop]
  unfold wordAt
  rw [h _ (by omega), h _ (by omega), h _ (by omega), h _ (by omega)]
  simp only [Nat.zero_add, Nat.add_assoc]
theorem comp_cut (s : St) (p : List Int) (o : Nat) : comp s (wordAt ((p.drop o).take 64) 0) = comp s (wordAt p o) := comp_congr s fun j hj => wordAt_cut p o j hj

/-- The first k blocks, one behind the other. -/
def absorb (p : List Int) : Nat → St → St
  | 0, s => s
  | k + 1, s => comp (absorb p k s) (wordAt p (64 * k))
def outBytes (s : St) : List Int := bo s.a ++ bo s.b ++ bo s.c ++ bo s.d ++ bo s.e ++ bo s.f ++ bo s.g ++ bo s.h
/-- The hash. -/
def sm3 (l : List Int) : List Int := outBytes (absorb (pad l) ((pad l).length / 64) St.start)
theorem u32_xor (x y : Int) : U32 (bits .xor .u32 x y) := u32_bits .xor x y
theorem u32_mix (s r : St) : (s.mix r).U :=
  ⟨u32_xor s.a r.a, u32_xor s.b r.b, u32_xor s.c r.c, u32_xor s.d r.d, u32_xor s.e r.e, u32_xor s.f r.f, u32_xor s.g r.g, u32_xor s.h r.h⟩
theorem u32_start : St.start.U := by
  have h : ∀ x : Nat, x ≤ 4294967295 → U32 (x : Int) := fun x hx => ⟨by omega, by omega⟩
  exact ⟨h 1937774191 (by omega), h 1226093241 (by omega), h 388252375 (by omega), h 3666478592 (by omega), h 2842636476 (by omega), h 372324522 (by omega), h 3817729613 (by omega), h 2969243214 (by omega)⟩
theorem u32_absorb (p : List Int) (k : Nat) {s : St} (h : s.U) : (absorb p k s).U := by
  cases k with
  | zero => exact h
  | succ k => rw [absorb, comp]; exact u32_mix _ _
end Go.Proofs.Ytmhjbkkbbhioeaa
