/- What the reference's rounds walk through. No condition. -/
import Derived.Test.YtkfagcpboehjjaaDoorSpc
import Derived.Test.YtkfagcpboehjjaaDoorByte
import Derived.Test.YtkfagcpboehjjaaDoorArr
namespace Go.Proofs.YtkfagcpboehjjaaDoor
set_option maxRecDepth 100000
open Go.RowKit

def bo (x : Int) : List Int := [x / 16777216, x / 65536 % 256, x / 256 % 256, x % 256]
theorem reads_bo {w : World} {B : Nat} (x : Int) (hB : w.heap.size + 1 ≤ B) :
    Reads (w.alloc (.cells #[.int .u8 (x / 16777216), .int .u8 (x / 65536 % 256), .int .u8 (x / 256 % 256), .int .u8 (x % 256)] 5)) B 1 (some ⟨w.heap.size, 0, none⟩) 4 ((bo x).map (Value.int .u8)) :=
  Reads.lit w 5 #[.int .u8 (x / 16777216), .int .u8 (x / 65536 % 256), .int .u8 (x / 256 % 256), .int .u8 (x % 256)] hB
theorem OwnB.nil (w : World) (base : Nat) : OwnB w base (.slice none 0 0) [] := World.ownsRow_nil w base 5 1
/-- The first n bytes. -/
def fst (n : Nat) (F : Nat → Int) : List Int := (List.range n).map F
theorem fst_length (n : Nat) (F : Nat → Int) : (fst n F).length = n := by simp [fst]
theorem fst_add (n m : Nat) (F : Nat → Int) : fst (n + m) F = fst n F ++ fst m (fun j => F (n + j)) := by
  unfold fst
  rw [List.range_add, List.map_append, List.map_map]
  rfl
theorem fst_congr {n : Nat} {F G : Nat → Int} (h : ∀ j, j < n → F j = G j) : fst n F = fst n G := by
  unfold fst
  exact List.map_congr_left fun j hj => h j (List.mem_range.1 hj)
theorem fst_four (m : Nat) (x : Nat → Int) : fst (4 * (m + 1)) (byF x) = fst (4 * m) (byF x) ++ bo (x m) := by
  rw [show 4 * (m + 1) = 4 * m + 4 by omega, fst_add]
  congr 1
  have h0 : byF x (4 * m + 0) = x m / 16777216 := by unfold byF; rw [if_pos (by omega), show (4 * m + 0) / 4 = m by omega]
  have h1 : byF x (4 * m + 1) = x m / 65536 % 256 := by unfold byF; rw [if_neg (by omega), if_pos (by omega), show (4 * m + 1) / 4 = m by omega]
  have h2 : byF x (4 * m + 2) = x m / 256 % 256 := by unfold byF; rw [if_neg (by omega), if_neg (by omega), if_pos (by omega), show (4 * m + 2) / 4 = m by omega]
  have h3 : byF x (4 * m + 3) = x m % 256 := by unfold byF; rw [if_neg (by omega), if_neg (by omega), if_neg (by omega), show (4 * m + 3) / 4 = m by omega]
  show [byF x (4 * m + 0), byF x (4 * m + 1), byF x (4 * m + 2), byF x (4 * m + 3)] = _
  rw [h0, h1, h2, h3]
  rfl
def FX (f rk : Nat → Int) (j : Nat) : Int := fei stepS (wdF f) rk j
theorem FX_next (f rk : Nat → Int) (k : Nat) : FX f rk (k + 4) = stepS (FX f rk k) (xr (xr (xr (FX f rk (k + 1)) (FX f rk (k + 2))) (FX f rk (k + 3))) (rk k)) := fei_next _ _ _ _
theorem FX_low (f rk : Nat → Int) (j : Nat) (h : j < 4) : FX f rk j = wdF f j := fei_low _ _ _ _ h
theorem FX_u32 (f rk : Nat → Int) (j : Nat) : U32 (FX f rk j) := fei_u32 u32_stepS (fun j _ => wdF_u32 f j) j
theorem wback (k : Nat) (hk : k < 32) : ∃ q : Nat, IntKind.i64.wrap (31 - (k : Int)) = (q : Int) ∧ (q : Int) < 32 ∧ Hid (q = 31 - k) := ⟨31 - k, by rw [IntWalk.i64_in _ (by omega)]; omega, by omega, Lib.hid rfl⟩
theorem wlast (m : Nat) (hm : m < 4) : ∃ q : Nat, IntKind.i64.wrap (35 - (m : Int)) = (q : Int) ∧ (q : Int) < 36 ∧ Hid (q = 35 - m) := ⟨35 - m, by rw [IntWalk.i64_in _ (by omega)]; omega, by omega, Lib.hid rfl⟩
end Go.Proofs.YtkfagcpboehjjaaDoor
