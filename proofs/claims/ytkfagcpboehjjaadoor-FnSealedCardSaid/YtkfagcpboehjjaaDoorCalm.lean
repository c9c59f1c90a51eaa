/- What calm does: a deferred function that recovers; where the function that it calls returns, it tells true. No condition. -/
import Derived.Test.YtkfagcpboehjjaaDoorByte
import Derived.Tactics
import Derived.Tactics2
import Derived.Defers
import Derived.Recover
import Derived.Laws.Pointers
import Derived.WalkSmall
namespace Go.Proofs.YtkfagcpboehjjaaDoor
open Go.RowKit

theorem catch_idle (p : Addr) (w : World) :
    CallsD Tryd.prog 38 #[.pointer (some p)] .returning w fun e u' w' => e = .returned (.tuple #[]) ∧ u' = .returning ∧ w' = w := by
  refine callsD_of_wpS Tryd.func38 rfl fun c₀ cs hu => ?_
  apply wpS_seq
  apply wpS_region
  simp [wpOpsS, go_sem, recoverD, hu, Tryd.ntmps38, Exit.thenS]
  refine wpS_cond (t := false) (by simp [Act.eval, Array.replicate]) ?_
  simp only [Bool.false_eq_true, if_false]
  refine wpS_of_wp (wp_skip ?_)
  cases c₀
  simp_all [bodyPostS, results, Tryd.results38]

theorem calm_any (f : FuncId) (cs : Array Value) (R : World → Prop) (w : World)
    (hcf : ∀ w, (callFunc f cs).run Tryd.prog w = .ok (.enter f cs) w)
    (h : Calls Tryd.prog f cs (w.alloc (.cells #[.bool false] 4)) fun e w' => e = .returned (.tuple #[]) ∧ Blk w' w.heap.size 4 #[.bool false] ∧ R w') :
    Calls Tryd.prog 15 #[.func (.func f) #[] cs] w fun e w'' => e = .returned (.bool true) ∧ ∃ w', R w' ∧ w'' = w'.setCell ⟨w.heap.size, 0, none⟩ (.bool true) := by
  have hmf : ∀ (fn : Fn) (first cap : Array Value) (w : World), (Instr.makeFunc fn first cap).run Tryd.prog w = .ok (.func fn first cap) w := fun _ _ _ _ => rfl
  go_enter_defers Tryd.func15, Tryd.ntmps15
  go_wp2_with fail
  refine h.mono ?_
  rintro e w' ⟨rfl, hb, hR⟩
  have hc := hb.cell 0
  have hf := hb.frozen 0
  simp only [List.getElem?_toArray, List.getElem?_cons_zero] at hc
  have hlate := (hb.set_ 0 (.bool true)).cell 0
  go_wp2_with fail
  refine leaves_cons (f := 38) (args := #[.pointer (some ⟨w.heap.size, 0, none⟩)]) (by simp) (by simp [go_sem]) ?_
  refine (catch_idle ⟨w.heap.size, 0, none⟩ _).mono ?_
  rintro e u' w'' ⟨rfl, rfl, rfl⟩
  simp [Leaves, settle, results, Tryd.results15, go_sem, hlate]
  exact ⟨w', hR, rfl⟩
end Go.Proofs.YtkfagcpboehjjaaDoor
