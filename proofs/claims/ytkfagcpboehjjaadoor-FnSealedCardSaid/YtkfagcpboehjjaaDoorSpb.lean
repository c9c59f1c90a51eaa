/- The reference's table and its tau. No condition but that the numbers are bytes and words. -/
import Derived.Test.YtkfagcpboehjjaaDoorSpa
import Derived.Laws.Tables
namespace Go.Proofs.YtkfagcpboehjjaaDoor
set_option maxRecDepth 100000
open Go.RowKit

theorem wpList_build_as {P : Program} {ops : Array Oper} {rest : List Oper} {o : Oper} {a : Act} {w : World} {Q : Exit → Act → World → Prop} (hg : o.guard = none) (t : TypeId) (parts : Array (Nat × Operand)) (ho : o.op = .build t parts) (cells : Array Value)
    (hf : P.built t (parts.map fun (i, x) => (i, a.eval x)).toList = some cells)
    (h : wpList P ops Q rest (a.put o.dst (.agg cells)) w) : wpList P ops Q (o :: rest) a w := by
  refine wpList_build hg t parts ho (by rw [hf]; rfl) ?_
  rw [hf]
  exact h

theorem sbox_any (x : Int) (w : World) (hx : 0 ≤ x ∧ x ≤ 255) :
    Calls Tryd.prog 57 #[.int .u8 x] w fun e w' => e = .returned (.int .u8 (Sx x)) ∧ w' = w := by
  have hi := index_sb x hx
  go_enter Tryd.func57, Tryd.ntmps57
  go_wp2_with (refine wpList_build_as rfl 84 _ rfl SBA (by kernel_rfl) ?_)
  go_ret
  exact ⟨rfl, rfl⟩
theorem tau_any (x : Int) (w : World) (hx : U32 x) :
    Calls Tryd.prog 47 #[.int .u32 x] w fun e w' => e = .returned (.int .u32 (tau x)) ∧ ∃ n, w' = w.drewN n := by
  unfold U32 at hx
  have k0 := Sx_byte (x / 16777216)
  have k1 := Sx_byte (x / 65536 % 256)
  have k2 := Sx_byte (x / 256 % 256)
  have k3 := Sx_byte (x % 256)
  go_enter Tryd.func47, Tryd.ntmps47
  go_wp2_with (go_at_call 57; refine (sbox_any _ _ (by omega)).mono ?_; rintro e w' ⟨rfl, rfl⟩)
  go_ret
  exact ⟨rfl, 0, rfl⟩
end Go.Proofs.YtkfagcpboehjjaaDoor
