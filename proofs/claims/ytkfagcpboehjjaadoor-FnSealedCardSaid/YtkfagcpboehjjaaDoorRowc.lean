/-
  What the rows of this seat share: the wrap, the reading of what came in, the witness's world, the tie. No condition.
-/
import Derived.Test.YtkfagcpboehjjaaDoorRows
import Derived.Test.YtkfagcpboehjjaaDoorLaid
import Derived.Test.YtkfagcpboehjjaaDoorGreat
import Derived.WalkKit
import Derived.ProofKit
import Derived.OpenShut
import Derived.LaidLaws
import Derived.LaidMore
import Derived.Lay
import Derived.OpenVars
import Derived.Below
import Derived.Stop.Joined
namespace Go.Proofs.YtkfagcpboehjjaaDoor.row
open Go.ChangeShapes Go.WideShapes Go.ChangeAt Go.RowKit
set_option linter.unusedVariables false

theorem own : ownKnob Tryd.prog.godebug = none := by kernel_rfl
theorem laidOut : laidOutB Tryd.prog = true := by kernel_rfl
abbrev L : List (String × DataW Unit) := [("internal/strconv.uint64pow10", Rows.laid_internal_strconv_uint64pow10), ("math/bits.deBruijn32tab", Rows.laid_math_bits_deBruijn32tab), ("math/bits.deBruijn64tab", Rows.laid_math_bits_deBruijn64tab), ("given.example/pub-waxwright/pub/gmsmt/sm4.fk", Rows.laid_given_example_pub_waxwright_pub_gmsmt_sm4_fk), ("given.example/pub-waxwright/pub/gmsmt/sm4.ck", Rows.laid_given_example_pub_waxwright_pub_gmsmt_sm4_ck), ("given.example/pub-waxwright/pub/gmsmt/sm4.sbox", Rows.laid_given_example_pub_waxwright_pub_gmsmt_sm4_sbox), ("given.example/pub-waxwright/pub/gmsmt/sm4.sbox0", Rows.laid_given_example_pub_waxwright_pub_gmsmt_sm4_sbox0), ("given.example/pub-waxwright/pub/gmsmt/sm4.sbox1", Rows.laid_given_example_pub_waxwright_pub_gmsmt_sm4_sbox1), ("given.example/pub-waxwright/pub/gmsmt/sm4.sbox2", Rows.laid_given_example_pub_waxwright_pub_gmsmt_sm4_sbox2), ("given.example/pub-waxwright/pub/gmsmt/sm4.sbox3", Rows.laid_given_example_pub_waxwright_pub_gmsmt_sm4_sbox3)]
theorem L_eq : L = L10 := by kernel_rfl
theorem L_great : L = Great.laidAll := by kernel_rfl

/-- The wrap of a row under a condition on memory, the world's shape kept. -/
theorem wrap {H : Type} {enc : TypeId × Value → H} {a : Assume} {C : Checked} {os : Os} {f : FuncId} {fn : Func} {s : ChangeSpec} {conds : List PathCond} {apart fresh handsOn again : Bool} {X : World → Array Value → Prop}
    (hX : ∀ (w w' : World) (args : Array Value), w.heap = w'.heap → X w args → X w' args)
    (own : ownKnob C.prog.godebug = none) (started : os.Started) (noInit : C.prog.inits.idxOf? f = none) (hfn : C.prog.funcs[f]? = some fn)
    (witness : ∃ (w : World) (tape : Tape) (i : Input), w.os = os ∧ (w.forCall tape i).Shaped C.prog ∧ i.vars = [] ∧ Input.okWide C.prog (w.forCall tape i) .any w.heap.size f i ∧
      ((s.pre enc C.prog fn conds apart (w.forCall tape i).memory i.args ∧ X (w.forCall tape i).memory i.args) ∧ sizedMet enc C.prog fn (OpenSpec.ofChange s) apart (w.forCall tape i).memory i.args) ∧ a.holds C.prog (lone (Frame.enter C.prog f i.args .normal) [] (w.forCall tape i)))
    (contract : ∀ (W : World) (base : Nat) (args : Array Value) (ds gs : List (DataW H)) (before : List MemPlace),
      (∀ (j : Nat) t v, fn.params[j]? = some t → args[j]? = some v → Value.okWide C.prog W .any base t v) →
      DataW.Whole enc C.prog fn.params.toList s.vars apart W args.toList ds gs before →
      W.ShapedOpen C.prog → X W args →
      Calls C.prog f args W fun e W' => ∃ v, e = .returned v ∧ s.post enc C.prog fn apart fresh handsOn again W args v W') :
    ReturnsInHanded a C os f .any (fun w args => (s.pre enc C.prog fn conds apart w args ∧ X w args) ∧ sizedMet enc C.prog fn (OpenSpec.ofChange s) apart w args) (s.post enc C.prog fn apart fresh handsOn again) := by
  refine returnsInHanded_of_calls own started noInit witness ?_
  intro w tape i _ hsh _ hok hpre _
  obtain ⟨_, _, _, fn', hfn', _, _, _, _, hval⟩ := hok
  obtain rfl : fn' = fn := Option.some.inj (hfn'.symm.trans hfn)
  obtain ⟨⟨⟨ds, gs, before, hw, _⟩, hx⟩, _⟩ := hpre
  refine (contract (w.forCall tape i) w.heap.size i.args ds gs before hval (DataW.Whole.of_heap (w' := w.forCall tape i) (by rfl) hw) hsh (hX (w.forCall tape i).memory (w.forCall tape i) i.args rfl hx)).mono fun e W' ⟨v, he, hp⟩ => ?_
  subst he
  exact ChangeSpec.post_blind hp

theorem cell_lt {w : World} {a : Addr} {v : Value} (h : w.cell? a = some v) : a.block < w.heap.size := by
  rcases Nat.lt_or_ge a.block w.heap.size with h1 | h1
  · exact h1
  · unfold World.cell? at h; rw [Array.getElem?_eq_none h1] at h; cases h

/-- A slice of bytes that came in reads as a list of bytes. -/
theorem came {W : World} {H : Type} {enc : TypeId × Value → H} {a : Option Addr} {len cap : Nat} {d : DataW H} {p : List MemPlace}
    (h : DataW.Trod enc Tryd.prog W 0 (fun _ => true) true 22 (Value.slice a len cap) d p) :
    ∃ l : List Int, Reads W W.heap.size 1 a len (l.map (Value.int .u8)) ∧ (∀ x ∈ l, 0 ≤ x ∧ x ≤ 255) ∧ len ≤ cap := by
  obtain ⟨fuel, hf⟩ := h
  rcases open_ints Tryd.underlying22 Tryd.underlying5 (by kernel_rfl) hf with ⟨hcs, _⟩ | ⟨x, l, c, zs, hcs, _, hl, hm, hz, _, hcell, hwz⟩
  · simp [Value.cells] at hcs
    obtain ⟨rfl, rfl, rfl⟩ := hcs
    exact ⟨[], Reads.none_, (fun x hx => by cases hx), Nat.le_refl _⟩
  · simp [Value.cells] at hcs
    obtain ⟨rfl, rfl, rfl⟩ := hcs
    have hz' : zs.length = cap := by simpa using hz
    have htl : (zs.take len).length = len := by rw [List.length_take]; omega
    refine ⟨zs.take len, ⟨by rw [List.length_map, htl, Nat.mul_one], fun h0 => ⟨x, rfl, ?_, fun j u hj => ?_⟩⟩, (fun y hy => bounds_u8 (hwz y (List.mem_of_mem_take hy))), hl⟩
    · have h := hcell 0 (by omega)
      rw [show x.add 0 = x from rfl] at h
      exact cell_lt h
    · have hj' : j < len := by
        rcases Nat.lt_or_ge j len with h1 | h1
        · exact h1
        · rw [List.getElem?_eq_none (by rw [List.length_map, htl]; exact h1)] at hj; cases hj
      rw [hcell j (by omega)]
      rw [List.getElem?_map, List.getElem?_take, if_pos hj', List.getElem?_eq_getElem (by omega)] at hj
      rw [List.getD_eq_getElem?_getD, List.getElem?_eq_getElem (by omega)]
      simpa using hj

/-- As many data as there are variables. -/
theorem many {W : World} {H : Type} {enc : TypeId × Value → H} {f : Nat → Bool} : ∀ {ns : List String} {gs : List (DataW H)} {q : List MemPlace}, DataW.TrodVars enc Tryd.prog W f ns gs q → gs.length = ns.length
  | [], [], _, _ => rfl
  | [], _ :: _, _, h => h.elim
  | _ :: _, [], _, h => h.elim
  | _ :: ns, _ :: ds, _, ⟨_, _, _, _, _, _, _, _, _, _, hs, _⟩ => by rw [List.length_cons, List.length_cons, many hs]
theorem seven {α : Type} {gs : List α} (h : gs.length = 7) : ∃ g1 g2 g3 g4 g5 g6 g7, gs = [g1, g2, g3, g4, g5, g6, g7] := by
  match gs, h with
  | [g1, g2, g3, g4, g5, g6, g7], _ => exact ⟨_, _, _, _, _, _, _, rfl⟩
theorem met (os : Os) (args : Array Value) : laidMetH Tryd.prog L ((World.laidAll Tryd.prog os L).forCall (fun _ _ => 0) ⟨#[], args, []⟩).memory := by
  rw [MakeChecks.laidMetH_plain _ _ _ (by kernel_rfl)]
  exact laidMet_laidAll _ (by kernel_rfl) (by kernel_rfl)

/-- The rows' tie, out of the walk. -/
theorem tie : Tryd.prog.laidByTextLater L [.data, .data, .data, .data, .data, .data, .data, .data, .data, .data] true := by rw [L_great]; exact Great.tie
theorem noOwnUnsafe : Tryd.pinned.checked.prog.headLifts.contains "ownunsafe" = false := by kernel_rfl
end Go.Proofs.YtkfagcpboehjjaaDoor.row
