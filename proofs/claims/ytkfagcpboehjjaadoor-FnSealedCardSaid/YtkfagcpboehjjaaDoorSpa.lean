/- The reference's words: the table, turning, a word of bytes, bytes of a word. No condition but that the numbers are words. -/
import Derived.Test.YtkfagcpboehjjaaDoorOnly
import Derived.BigRegion
namespace Go.Proofs.YtkfagcpboehjjaaDoor
set_option maxRecDepth 100000
open Go.RowKit

theorem rotate_any (x i : Int) (w : World) (hi : 0 ≤ i) :
    Calls Tryd.prog 48 #[.int .u32 x, .int .i64 i] w fun e w' => e = .returned (.int .u32 (rot x i)) ∧ ∃ n, w' = w.drewN n := by
  go_enter Tryd.func48, Tryd.ntmps48
  go_wp2
  go_quiet (fail)
  go_wp2
  go_ret
  exact ⟨rfl, _, rfl⟩
theorem word_any (ad : Addr) (n c : Nat) (f : Nat → Int) (w : World) (hn : 4 ≤ n) (hf : ∀ j, j < 4 → 0 ≤ f j ∧ f j ≤ 255) (hs : Src w ad 4 f) :
    Calls Tryd.prog 46 #[.slice (some ad) n c] w fun e w' => e = .returned (.int .u32 (wd (f 0) (f 1) (f 2) (f 3))) ∧ ∃ m, w' = w.drewN m := by
  have i0 : (0 : Int) < (n : Int) := by omega
  have i1 : (1 : Int) < (n : Int) := by omega
  have i2 : (2 : Int) < (n : Int) := by omega
  have i3 : (3 : Int) < (n : Int) := by omega
  have h0 := hs 0 (by omega)
  have h1 := hs 1 (by omega)
  have h2 := hs 2 (by omega)
  have h3 := hs 3 (by omega)
  obtain ⟨g, o, sp⟩ := ad
  simp [Addr.add] at h0 h1 h2 h3
  have hb0 := hf 0 (by omega)
  have hb1 := hf 1 (by omega)
  have hb2 := hf 2 (by omega)
  have hb3 := hf 3 (by omega)
  clear hs hf
  generalize f 0 = b0 at *
  generalize f 1 = b1 at *
  generalize f 2 = b2 at *
  generalize f 3 = b3 at *
  go_enter Tryd.func46, Tryd.ntmps46
  go_wp2
  go_quiet (fail)
  go_wp2
  go_ret
  exact ⟨rfl, _, rfl⟩
theorem bytesOf_any (x : Int) (w : World) (hx : 0 ≤ x ∧ x ≤ 4294967295) :
    Calls Tryd.prog 49 #[.int .u32 x] w fun e w' => e = .returned (.slice (some ⟨w.heap.size, 0, none⟩) 4 4) ∧
      w.alloc (.cells #[.int .u8 (x / 16777216), .int .u8 (x / 65536 % 256), .int .u8 (x / 256 % 256), .int .u8 (x % 256)] 5) = w' := by
  go_enter Tryd.func49, Tryd.ntmps49
  go_wp2
  go_ret
  exact ⟨rfl, rfl⟩

/-- The table's cells. -/
def SBA : Array Value := (SB.map (Value.int .u8)).toArray
theorem SBA_size : SBA.size = 256 := by kernel_rfl
theorem index_sb (x : Int) (h : 0 ≤ x ∧ x ≤ 255) (w : World) : (Instr.index 84 (.agg SBA) (.int .u8 x)).run Tryd.prog w = .ok (.int .u8 (Sx x)) w := by
  have hc : SBA[x.toNat]? = some (.int .u8 (Sx x)) := by
    unfold SBA Sx
    rw [List.getElem?_toArray, List.getElem?_map, List.getD_eq_getElem?_getD, List.getElem?_eq_getElem (by rw [SB_length]; omega)]
    rfl
  have hu : Tryd.prog.underlying 84 = some (.array 256 5) := Tryd.underlying84
  have hi : (Tryd.prog.info? 5).map (·.size) = some 1 := by kernel_rfl
  have hs : (sizeOf 5).run Tryd.prog w = .ok 1 w := by
    cases hq : Tryd.prog.info? 5 with
    | none => rw [hq] at hi; cases hi
    | some i =>
      rw [hq] at hi
      have : i.size = 1 := by simpa using hi
      simp [sizeOf, typeInfo, hq, this]
  simp [Instr.index, run_underlying hu, asIntOf, h.1, show x < 256 by omega, hs, part, hc]
end Go.Proofs.YtkfagcpboehjjaaDoor
