/-
  The constant numbers' bytes. No condition.
-/
import Derived.Test.YtiegapnfbeemcaaGreatDoorA12
import Derived.Test.YtiegapnfbeemcaaGreatDoorA60
import Derived.Test.YtiegapnfbeemcaaGreatDoorA62
import Derived.Test.YtiegapnfbeemcaaGreatDoorA61
import Derived.Test.YtiegapnfbeemcaaGreatDoorA65
namespace Go.Proofs.YtiegapnfbeemcaaGreatDoor.X
set_option maxRecDepth 1000000
open Go.RowKit

theorem run_any {f : Nat} {vs : List Value} {H H' : Heap} {v : Value} (h : callX 40 f vs H = some (v, H')) : ∀ φ w us, WR φ H w → mvs φ vs = some us → Calls Tryz.prog f ⟨us⟩ w (OutX φ v H' w) := fun _ _ _ hW hm => run_sound find_ok h hW hm
def bsB : List Int := ((K43br.getD 14 ⟨0, [], false⟩).cells.map fun v => match v with
  | .int _ n => n
  | _ => 0)
def bsGx : List Int := ((K44br.getD 14 ⟨0, [], false⟩).cells.map fun v => match v with
  | .int _ n => n
  | _ => 0)
def bsGy : List Int := ((K45br.getD 14 ⟨0, [], false⟩).cells.map fun v => match v with
  | .int _ n => n
  | _ => 0)
def bsA : List Int := ((K41yr.getD 37 ⟨0, [], false⟩).cells.map fun v => match v with
  | .int _ n => n
  | _ => 0)
theorem hk0 {H1 H2 : Heap} {eb : Nat} (h1 : H1.take 4 = H0) (h2 : H2.take 4 = H0) (i : Nat) (p : Nat × Nat) (h : (E0 eb)[i]? = some p) : ∃ (i' : Nat) (q : Nat × Nat) (b : X.Blk), (E0 eb)[i']? = some q ∧ q.1 = p.1 ∧ H0[i']? = some b ∧ H1[i']? = some b ∧ H2[i']? = some b ∧ b.live = true ∧ q.2 = b.cells.length := by
  obtain ⟨i', q, b, _, hq, e, hb, hl, hc⟩ := at0 h
  exact ⟨i', q, b, hq, e, hb, keep0 h1 hb, keep0 h2 hb, hl, hc⟩
theorem c43 (eb : Nat) (w : World) (hW : WR (E0 eb) H0 w) : Calls Tryz.prog 43 #[] w (Konst bsB w) :=
  konst_of (f := 43) (nb := 14) (vs := []) (us := []) (H1 := K43r) (H2 := K43br) (run_any K43_run) (run_any K43b_run) (hk0 (by kernel_rfl) (by kernel_rfl)) (by kernel_rfl) (by kernel_rfl) (by simp [E0]) hW rfl
theorem c44 (eb : Nat) (w : World) (hW : WR (E0 eb) H0 w) : Calls Tryz.prog 44 #[] w (Konst bsGx w) :=
  konst_of (f := 44) (nb := 14) (vs := []) (us := []) (H1 := K44r) (H2 := K44br) (run_any K44_run) (run_any K44b_run) (hk0 (by kernel_rfl) (by kernel_rfl)) (by kernel_rfl) (by kernel_rfl) (by simp [E0]) hW rfl
theorem c45 (eb : Nat) (w : World) (hW : WR (E0 eb) H0 w) : Calls Tryz.prog 45 #[] w (Konst bsGy w) :=
  konst_of (f := 45) (nb := 14) (vs := []) (us := []) (H1 := K45r) (H2 := K45br) (run_any K45_run) (run_any K45b_run) (hk0 (by kernel_rfl) (by kernel_rfl)) (by kernel_rfl) (by kernel_rfl) (by simp [E0]) hW rfl
/-- The number a by nine digits. -/
def ninA : List Value := [.int .u32 536870905, .int .u32 268435455, .int .u32 895, .int .u32 268428288, .int .u32 536870911, .int .u32 268435455, .int .u32 536870911, .int .u32 150994943, .int .u32 268435455]
theorem hk1 {H1 H2 : Heap} {eb g : Nat} (h1 : H1.take 5 = H0 ++ [⟨72, ninA, true⟩]) (h2 : H2.take 5 = H0 ++ [⟨72, ninA, true⟩]) (i : Nat) (p : Nat × Nat) (h : (E0 eb ++ [(g, 9)])[i]? = some p) :
    ∃ (i' : Nat) (q : Nat × Nat) (b : X.Blk), (E0 eb ++ [(g, 9)])[i']? = some q ∧ q.1 = p.1 ∧ (H0 ++ [⟨72, ninA, true⟩])[i']? = some b ∧ H1[i']? = some b ∧ H2[i']? = some b ∧ b.live = true ∧ q.2 = b.cells.length := by
  have hi : i < 5 := (List.getElem?_eq_some_iff.1 h).1
  have hb : ∃ (i' : Nat) (q : Nat × Nat) (b : X.Blk), i' < 5 ∧ (E0 eb ++ [(g, 9)])[i']? = some q ∧ q.1 = p.1 ∧ (H0 ++ [⟨72, ninA, true⟩])[i']? = some b ∧ b.live = true ∧ q.2 = b.cells.length := by
    have hc : i = 0 ∨ i = 1 ∨ i = 2 ∨ i = 3 ∨ i = 4 := by omega
    rcases hc with rfl | rfl | rfl | rfl | rfl
    · injection h with h; subst h; exact ⟨0, _, _, by omega, rfl, rfl, rfl, rfl, rfl⟩
    · injection h with h; subst h; exact ⟨1, _, _, by omega, rfl, rfl, rfl, rfl, rfl⟩
    · injection h with h; subst h; exact ⟨2, _, _, by omega, rfl, rfl, rfl, rfl, rfl⟩
    · injection h with h; subst h; exact ⟨0, _, _, by omega, rfl, rfl, rfl, rfl, rfl⟩
    · injection h with h; subst h; exact ⟨4, _, _, by omega, rfl, rfl, rfl, rfl, rfl⟩
  obtain ⟨i', q, b, hi', hq, e, hb, hl, hc⟩ := hb
  have up : ∀ {G : Heap}, G.take 5 = H0 ++ [⟨72, ninA, true⟩] → G[i']? = some b := fun {G} e => by
    rw [← e, List.getElem?_take, if_pos hi'] at hb; exact hb
  exact ⟨i', q, b, hq, e, hb, up h1, up h2, hl, hc⟩
theorem c41 (eb : Nat) (w : World) (hW : WR (E0 eb) H0 w) : Calls Tryz.prog 41 #[.pointer (some ⟨w.heap.size, 0, none⟩)] (w.alloc (.cells ⟨ninA⟩ 72)) (Konst bsA (w.alloc (.cells ⟨ninA⟩ 72))) := by
  have hN := (hW.new 72 ninA ⟨ninA⟩ (by decide) fun j x hx => by
    have hj : j < 9 := (List.getElem?_eq_some_iff.1 hx).1
    have hc : j = 0 ∨ j = 1 ∨ j = 2 ∨ j = 3 ∨ j = 4 ∨ j = 5 ∨ j = 6 ∨ j = 7 ∨ j = 8 := by omega
    rcases hc with rfl | rfl | rfl | rfl | rfl | rfl | rfl | rfl | rfl
    all_goals (injection hx with hx; subst hx; exact ⟨rfl, _, rfl, rfl⟩)).1
  exact konst_of (f := 41) (nb := 37) (p0 := 5) (vs := [.pointer (some ⟨4, 0, none⟩)]) (us := [.pointer (some ⟨w.heap.size, 0, none⟩)]) (H := H0 ++ [⟨72, ninA, true⟩]) (H1 := K41.H') (H2 := K41yr) K41_ok.2 (run_any K41y_run) (hk1 (by kernel_rfl) (by kernel_rfl)) (by kernel_rfl) (by kernel_rfl) (by simp [E0]) hN (by simp [mvs, mv1, mv0, E0])
theorem same_A : bsA = nb8 (hexB sA) := by kernel_rfl
theorem same_B : bsB = nb8 (hexB sB) := by kernel_rfl
theorem same_Gx : bsGx = nb8 (hexB sGx) := by kernel_rfl
theorem same_Gy : bsGy = nb8 (hexB sGy) := by kernel_rfl
/-- zzA. -/
theorem zzA_any (w : World) : Calls Tryz.prog 40 #[] w fun e w' => e = .returned (.agg ⟨ninA⟩) ∧ Below w.heap.size w w' := by
  go_enter Tryz.func40, Tryz.ntmps40
  go_wp2_with fail
  refine bodyPost_ret (v := .agg ⟨ninA⟩) ?_ rfl ⟨rfl, (Below.refl _ _).alloc (Nat.le_refl _) _⟩
  simp [results, Tryz.results40, go_sem, ninA]
end Go.Proofs.YtiegapnfbeemcaaGreatDoor.X
