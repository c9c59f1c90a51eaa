/- The SM3 hash in plain numbers: the words of a block, the rounds, the compression. No program in sight; no condition. -/
import Derived.Test.YtmhjbkkbbhioeaaWord
namespace Go.Proofs.Ytmhjbkkbbhioeaa

def xr (x y : Int) : Int := bits .xor .u32 x y

/-- The 68 words that the 16 words of a block make. -/
def wexp (b : Nat → Int) (j : Nat) : Int :=
  if j < 16 then b j
  else bits .xor .u32 (bits .xor .u32 (pp1 (bits .xor .u32 (bits .xor .u32 (wexp b (j - 16)) (wexp b (j - 9))) (rot (wexp b (j - 3)) 15))) (rot (wexp b (j - 13)) 7)) (wexp b (j - 6))
termination_by j
decreasing_by all_goals omega

theorem wexp_low (b : Nat → Int) (j : Nat) (h : j < 16) : wexp b j = b j := by rw [wexp, if_pos h]
theorem wexp_high (b : Nat → Int) (j : Nat) (h : 16 ≤ j) :
    wexp b j = bits .xor .u32 (bits .xor .u32 (pp1 (bits .xor .u32 (bits .xor .u32 (wexp b (j - 16)) (wexp b (j - 9))) (rot (wexp b (j - 3)) 15))) (rot (wexp b (j - 13)) 7)) (wexp b (j - 6)) := by
  rw [wexp, if_neg (by omega)]

/-- The eight words of a state. -/
structure St where
  (a b c d e f g h : Int)

def St.agg (s : St) : Value := .agg #[.int .u32 s.a, .int .u32 s.b, .int .u32 s.c, .int .u32 s.d, .int .u32 s.e, .int .u32 s.f, .int .u32 s.g, .int .u32 s.h]
def St.cells (s : St) : Array Value := #[.int .u32 s.a, .int .u32 s.b, .int .u32 s.c, .int .u32 s.d, .int .u32 s.e, .int .u32 s.f, .int .u32 s.g, .int .u32 s.h]
def St.U (s : St) : Prop := U32 s.a ∧ U32 s.b ∧ U32 s.c ∧ U32 s.d ∧ U32 s.e ∧ U32 s.f ∧ U32 s.g ∧ U32 s.h
def St.start : St := ⟨1937774191, 1226093241, 388252375, 3666478592, 2842636476, 372324522, 3817729613, 2969243214⟩

def sOne (a e t : Int) (j : Nat) : Int := rot (((rot a 12 + e) % 4294967296 + rot t j) % 4294967296) 7
def tOne (ff d ss1 a x : Int) : Int := (((ff + d) % 4294967296 + bits .xor .u32 ss1 (rot a 12)) % 4294967296 + x) % 4294967296
def tTwo (gg h ss1 x : Int) : Int := (((gg + h) % 4294967296 + ss1) % 4294967296 + x) % 4294967296
def tj (j : Nat) : Int := if j < 16 then 2043430169 else 2055708042
def ffj (j : Nat) (x y z : Int) : Int := if j < 16 then xor3 x y z else maj x y z
def ggj (j : Nat) (x y z : Int) : Int := if j < 16 then xor3 x y z else cho x y z

def rnd (W : Nat → Int) (j : Nat) (s : St) : St :=
  ⟨tOne (ffj j s.a s.b s.c) s.d (sOne s.a s.e (tj j) j) s.a (bits .xor .u32 (W j) (W (j + 4))), s.a, rot s.b 9, s.c,
   pp0 (tTwo (ggj j s.e s.f s.g) s.h (sOne s.a s.e (tj j) j) (W j)), s.e, rot s.f 19, s.g⟩
def rounds (W : Nat → Int) : Nat → St → St
  | 0, s => s
  | n + 1, s => rnd W n (rounds W n s)
def St.mix (s r : St) : St :=
  ⟨bits .xor .u32 s.a r.a, bits .xor .u32 s.b r.b, bits .xor .u32 s.c r.c, bits .xor .u32 s.d r.d, bits .xor .u32 s.e r.e, bits .xor .u32 s.f r.f, bits .xor .u32 s.g r.g, bits .xor .u32 s.h r.h⟩
/-- The words of the block that begins at byte o. -/
def wordAt (l : List Int) (o j : Nat) : Int := wd (l.getD (o + 4 * j) 0) (l.getD (o + 4 * j + 1) 0) (l.getD (o + 4 * j + 2) 0) (l.getD (o + 4 * j + 3) 0)
def comp (s : St) (b : Nat → Int) : St := s.mix (rounds (wexp b) 64 s)
end Go.Proofs.Ytmhjbkkbbhioeaa
