/- The reference's small parts of GCM: a length as eight bytes; bytes filled up to whole blocks (they are whole). No condition but where things lie. -/
import Derived.Test.YtkfagcpboehjjaaDoorSmw
namespace Go.Proofs.YtkfagcpboehjjaaDoor
set_option maxRecDepth 100000
open Go.RowKit

theorem OwnB.bo {w : World} {base : Nat} (x : Int) (hb : base ≤ w.heap.size) : OwnB (w.alloc (.cells #[.int .u8 (x / 16777216), .int .u8 (x / 65536 % 256), .int .u8 (x / 256 % 256), .int .u8 (x % 256)] 5)) base (.slice (some ⟨w.heap.size, 0, none⟩) 4 4) (bo x) :=
  World.ownsRow_lit _ _ _ hb (by unfold maxLen; decide) rfl
theorem bo_byl {x : Int} (h : 0 ≤ x ∧ x ≤ 4294967295) : Byl (bo x) := fun y hy => by
  simp [Go.Proofs.YtkfagcpboehjjaaDoor.bo] at hy
  omega
/-- Eight bytes that tell a length. -/
def l64 (n : Nat) : List Int := bo ((8 * (n : Int)) / 4294967296) ++ bo (8 * (n : Int))
theorem l64_len (n : Nat) : (l64 n).length = 8 := rfl
theorem l64_byl (n : Nat) (h : n ≤ 1000000) : Byl (l64 n) := fun y hy => by
  rcases List.mem_append.1 hy with h1 | h1
  · exact bo_byl (by omega) y h1
  · exact bo_byl (by omega) y h1
theorem sixty_any (n : Nat) (w : World) (h : n ≤ 1000000) : Calls Tryd.prog 33 #[.int .i64 n] w (RetBytes w (l64 n)) := by
  have e1 := IntWalk.u64_in (n : Int) (by omega)
  have e2 : IntKind.u64.wrap ((n : Int) * 8) = 8 * (n : Int) := by rw [IntWalk.u64_in _ (by omega)]; omega
  have e3 : 8 * (n : Int) / 4294967296 % 4294967296 = 8 * (n : Int) / 4294967296 := by omega
  go_enter Tryd.func33, Tryd.ntmps33
  go_wp2_with fail
  refine (bytesOf_any _ _ (by constructor <;> omega)).mono ?_
  rintro e w1 ⟨rfl, rfl⟩
  go_wp2_with fail
  refine (bytesOf_any _ _ (by constructor <;> omega)).mono ?_
  rintro e w1 ⟨rfl, rfl⟩
  have hr2 := reads_bo (w := w.alloc (.cells #[.int .u8 (8 * (n : Int) / 4294967296 / 16777216), .int .u8 (8 * (n : Int) / 4294967296 / 65536 % 256), .int .u8 (8 * (n : Int) / 4294967296 / 256 % 256), .int .u8 (8 * (n : Int) / 4294967296 % 256)] 5)) (8 * (n : Int)) (Nat.le_refl _)
  rw [World.size_alloc] at hr2
  go_wp2_with (at_builtin; refine app_bytes _ rfl (.tmp 10) (.tmp 13) rfl w.heap.size _ (bo (8 * (n : Int) / 4294967296)) rfl ((OwnB.bo (8 * (n : Int) / 4294967296) (Nat.le_refl _)).alloc _) _ _ 4 4 (bo (8 * (n : Int))) rfl hr2 (by show 4 + 4 ≤ 140737488351232; decide) (by simp <;> omega) ?_; intro v3 w3 ho3 hb3)
  go_ret
  exact ⟨v3, rfl, ho3, (((Below.refl _ _).alloc (Nat.le_refl _) _).alloc (by simp) _).trans hb3⟩

theorem zeros_any (A : Option Addr) (na c : Nat) (l : List Int) (w : World) (hr : Reads w w.heap.size 1 A (16 * na) (l.map (Value.int .u8))) (hn : na ≤ 100) :
    Calls Tryd.prog 32 #[.slice A (16 * na : Nat) c] w (RetBytes w l) := by
  have hl : l.length = 16 * na := by have := hr.1; simpa using this
  have hbw : Below w.heap.size w (w.alloc (.cells #[] 5)) := (Below.refl _ _).alloc (Nat.le_refl _) _
  have HL := Lib.hid hl
  clear hl
  go_enter Tryd.func32, Tryd.ntmps32
  go_wp2_with (at_builtin; refine app_bytes _ rfl (.tmp 4) (.tmp 5) rfl w.heap.size _ _ rfl (OwnB.empty w (Nat.le_refl _)) w.heap.size A (16 * na) c l rfl (hr.alloc (Nat.le_refl _) _) (by simp; omega) hbw.size ?_; intro v1 w1 hown1 hb1)
  have hbel := hbw.trans hb1
  simp only [List.nil_append] at hown1
  obtain ⟨A1, c1, rfl⟩ := hown1.shaped
  have e3 : ((16 * na : Nat) : Int).tmod 16 = 0 := by rw [Int.tmod_eq_emod_of_nonneg (by omega)]; omega
  have e4 : 16 * (na : Int) % 16 = 0 := by omega
  rw [HL.out] at hown1 ⊢
  go_loopw [3] (fun v wr => v = .slice A1 (16 * na) c1 ∧ wr = w1) (fun _ _ => 0)
  case atStart => exact ⟨rfl, rfl⟩
  case round =>
    obtain ⟨rfl, rfl⟩ := hrel
    go_wp2_with fail
    go_ret
    rw [← HL.out] at hown1 ⊢
    exact ⟨_, rfl, hown1, hbel⟩
end Go.Proofs.YtkfagcpboehjjaaDoor
