/- The class of worlds that are as a given one below its size: what a call that makes memory leaves. No condition. -/
import Derived.Test.YtmhjbkkbbhioeaaTail
import Derived.Test.YtmhjbkkbbhioeaaMem
import Derived.BigQuiet
namespace Go.Proofs.Ytmhjbkkbbhioeaa
open Go.RowKit

structure Bel (W : World) where
  w : World
  h : Below W.heap.size W w

theorem Bel.cell {W : World} (x : Bel W) {g o : Nat} (hg : g < W.heap.size) : x.w.cell? ⟨g, o, none⟩ = W.cell? ⟨g, o, none⟩ := x.h.cell (p := ⟨g, o, none⟩) hg
theorem Bel.frozen {W : World} (x : Bel W) {g o : Nat} (hg : g < W.heap.size) : x.w.frozen? ⟨g, o, none⟩ = W.frozen? ⟨g, o, none⟩ := x.h.frozen (p := ⟨g, o, none⟩) hg

theorem bel_call {P : Program} {f : FuncId} {args : Array Value} {W : World} {x : Bel W} {v : Value} (h : Calls P f args x.w fun e w' => e = .returned v ∧ Below x.w.heap.size x.w w') :
    Calls P f args x.w fun e w'' => e = .returned v ∧ ∃ y : Bel W, w'' = y.w :=
  h.mono fun _ w' ⟨he, hb⟩ => ⟨he, ⟨w', x.h.trans (hb.mono x.h.size)⟩, rfl⟩
theorem bel_call_drew {P : Program} {f : FuncId} {args : Array Value} {W : World} {x : Bel W} {v : Value} (h : Calls P f args x.w fun e w' => e = .returned v ∧ ∃ n, w' = x.w.drewN n) :
    Calls P f args x.w fun e w'' => e = .returned v ∧ ∃ y : Bel W, w'' = y.w :=
  h.mono fun _ w' ⟨he, n, hb⟩ => ⟨he, ⟨w', by subst hb; exact ⟨x.h.os, x.h.tape, x.h.output, x.h.size, x.h.block⟩⟩, rfl⟩
theorem bel_call_same {P : Program} {f : FuncId} {args : Array Value} {W : World} {x : Bel W} {v : Value} (h : Calls P f args x.w fun e w' => e = .returned v ∧ x.w = w') :
    Calls P f args x.w fun e w'' => e = .returned v ∧ ∃ y : Bel W, w'' = y.w :=
  h.mono fun _ _ ⟨he, hw⟩ => ⟨he, x, hw.symm⟩

theorem bel_drew (W : World) : ∃ x : Bel W, { W with drawn := W.drawn + 1 } = x.w := ⟨⟨{ W with drawn := W.drawn + 1 }, ⟨rfl, rfl, rfl, Nat.le_refl _, fun _ _ => rfl⟩⟩, rfl⟩

theorem region_bel {P : Program} {id : Nat} {Q : Exit → Act → World → Prop} {a : Act} {w : World} {l : List Oper} (hm : P.follows .mixedOrders = true) (hB : Region.lexB .any l.toArray = true)
    (h : wpQuiet P l.toArray (fun w' => ∃ x : Bel w, w' = x.w) (fun a' => ∀ w', (∃ x : Bel w, w' = x.w) → Q .normal a' w') l a) : (Code.region id l.toArray true).wp P Q a w :=
  wp_region_quiet (C := fun w' => ∃ x : Bel w, w' = x.w) hm hB (bel_drew w) (by simpa using h)
theorem region_bel_tail {P : Program} {id : Nat} {Q : Exit → Act → World → Prop} {a : Act} {w : World} {l : List Oper} (n : Nat)
    (hm : P.follows .mixedOrders = true) (hB : Region.lexTailB .any l.toArray n = true)
    (h : wpQuiet P l.toArray (fun w' => ∃ x : Bel w, w' = x.w) (fun a' => ∀ w', (∃ x : Bel w, w' = x.w) → wpList P l.toArray Q (l.drop n) a' w') (l.take n) a) : (Code.region id l.toArray true).wp P Q a w :=
  region_quiet_tail_in (C := fun w' => ∃ x : Bel w, w' = x.w) n (bel_drew w) hm hB h
end Go.Proofs.Ytmhjbkkbbhioeaa
