/-
  FnDigest: whatever the three arguments, the law returns true, and its arguments read as before. Proved of Rows.FnDigestCardSaid, with no condition of its own.
-/
import Derived.Test.YtiegapnfbeemcaaGreatDoorRows
import Derived.Test.YtiegapnfbeemcaaGreatDoorA12
import Derived.Lib.LaidU8
import Derived.MakeChecks
import Derived.LaidLaws
import Derived.ChangeAt
import Derived.WalkKit
import Derived.Test.YtiegapnfbeemcaaGreatDoorCards
import Derived.Test.YtiegapnfbeemcaaGreatDoorTie
import Derived.Test.YtiegapnfbeemcaaGreatDoorA78
import Derived.ProofKit
import Derived.OpenShut
import Derived.LaidMore
import Derived.Lay
import Derived.OpenVars
import Derived.Below
import Derived.Stop.Joined
import Derived.SevenTiedAt
namespace Go.Proofs.YtiegapnfbeemcaaGreatDoor
set_option maxRecDepth 100000
open Go.RowKit
open X (WR E0 H0)

theorem int_reads {w : World} {n : String} {g : Nat} (h : Lib.VarReads Tryz.prog w n (.lit (.int .i64 40))) (hn : Tryz.prog.globalNamed n = some g) (ht : (Tryz.prog.globals[g]?).map (·.type) = some 3) : ∃ cs, w.var? Tryz.prog n = some cs ∧ cs.toList = [.int .i64 40] := by
  obtain ⟨g', t', cs, fuel, p, hg, hty, hvar, hd⟩ := h
  obtain rfl := Option.some.inj (hn.symm.trans hg)
  obtain rfl := Option.some.inj (ht.symm.trans hty)
  refine ⟨cs, hvar, ?_⟩
  have hu : Tryz.prog.underlying 3 = some (.int .i64) := by kernel_rfl
  cases fuel with
  | zero => unfold DataW.trod at hd; cases hd
  | succ f =>
    unfold DataW.trod at hd
    simp only [hu] at hd
    split at hd <;> simp_all
theorem shape_of {w : World} (h : w.ShapedOpen Tryz.prog) {g : Nat} {t : TypeId} {zero : Array Value} (hg : g < Tryz.prog.globals.size) (h0 : ((begin Tryz.prog (fun _ _ => 0) default).world.heap[g]?).bind Obj.row? = some (zero, t)) {n : String} (hn : Tryz.prog.globalNamed n = some g) {cs : Array Value} (hv : w.var? Tryz.prog n = some cs) : Blk w g t cs := by
  obtain ⟨cs', hh, _, _⟩ := h.1 g zero t hg h0
  unfold World.var? at hv
  rw [hn] at hv
  simp only [Option.bind_some, hh, Option.some.injEq] at hv
  rw [← hv]; exact hh
theorem und51 : ∃ ms, Tryz.prog.underlying 51 = some (.interface ms) := by
  have h : (match Tryz.prog.underlying 51 with | some (.interface _) => true | _ => false) = true := by kernel_rfl
  split at h
  · rename_i ms e; exact ⟨ms, e⟩
  · cases h
theorem und101 : Tryz.prog.underlying 101 = some (.pointer 103) := by kernel_rfl
theorem und103 : ∃ f : Field, Tryz.prog.underlying 103 = some (.struct #[f]) ∧ f.offset = 0 ∧ Tryz.prog.underlying f.type = some .string ∧ Tryz.prog.cellsOf f.type = 1 := by
  have h : (match Tryz.prog.underlying 103 with
    | some (.struct ⟨[f]⟩) => f.offset == 0 && f.type == 9
    | _ => false) = true := by kernel_rfl
  have h9 : Tryz.prog.underlying 9 = some .string := by kernel_rfl
  have c9 : Tryz.prog.cellsOf 9 = 1 := by kernel_rfl
  split at h
  · rename_i f e
    simp only [Bool.and_eq_true, beq_iff_eq] at h
    exact ⟨f, e, h.1, by rw [h.2]; exact h9, by rw [h.2]; exact c9⟩
  · cases h
theorem cells103 : Tryz.prog.cellsOf 103 = 1 := by kernel_rfl
theorem star : "*" ++ "errors.errorString" = "*errors.errorString" := by decide
theorem row101 (u : TypeId) (h : Tryz.prog.typeName? 3 u = some "*errors.errorString") : u = 101 :=
  typeName_ptr_named (nm := "errors.errorString") (by rw [star]; kernel_rfl) (by kernel_rfl) (by decide) u (by rw [star]; exact h)
theorem spot_none {w : World} {a : Addr} (h : Value.okWide Tryz.prog w .any 0 101 (.pointer (some a))) : a.spot = none := by
  unfold Value.okWide at h
  rw [und101] at h
  simp only at h
  unfold Cell.okWide at h
  rw [und101] at h
  simp only at h
  unfold Cell.ok at h
  rw [und101] at h
  simp only at h
  exact h.2.1
theorem wide7 {i : Nat} (h : i < 7) : i < Tryz.prog.globals.size := by
  have e : Nat.ble 7 Tryz.prog.globals.size = true := by kernel_rfl
  exact Nat.lt_of_lt_of_le h (Nat.le_of_ble_eq_true e)
theorem eof_reads {w : World} {r : List (String × DataW Unit)} (h : laidMet Tryz.prog (("io.EOF", .iface "*errors.errorString" (.ptr (.agg [.lit (.string [69, 79, 70])]))) :: r) w) : ∃ b o, w.var? Tryz.prog "io.EOF" = some #[.iface 101 (.pointer (some ⟨b, o, none⟩))] := by
  obtain ⟨ps, ⟨g0, t0, cs0, f0, p0, q0, hg0, ht0, hv0, hd0, _, e0⟩, _, hrows⟩ := h
  have hg : Tryz.prog.globalNamed "io.EOF" = some 2 := by kernel_rfl
  have ht : (Tryz.prog.globals[2]?).map (·.type) = some 51 := by kernel_rfl
  obtain rfl := Option.some.inj (hg.symm.trans hg0)
  obtain rfl := Option.some.inj (ht.symm.trans ht0)
  subst e0
  obtain ⟨l0⟩ := cs0
  have ok0 : ∀ u v, l0 = [.iface u v] → Value.okWide Tryz.prog w .any 0 u v := fun u v e => by
    subst e
    exact (hrows 2 0 (by simp [MemPlace.row])).2 u v (by simpa using World.var?_cell hg0 hv0 0)
  obtain ⟨ms, hi⟩ := und51
  obtain ⟨f, he, hfo, hs, hcs⟩ := und103
  obtain ⟨a, s, rfl, _⟩ := errorString_of_trod hi row101 und101 he rfl hfo hs cells103 hcs hd0 ok0
  have := spot_none (ok0 _ _ rfl)
  obtain ⟨b, o, sp⟩ := a
  cases this
  exact ⟨b, o, hv0⟩
theorem wr_of_laid {w : World} (hl : laidMetH Tryz.prog Rows.fnDigestRow.laid w) (h : w.ShapedOpen Tryz.prog) : ∃ eb, WR (E0 eb) H0 w := by
  rw [MakeChecks.laidMetH_plain _ _ _ (by kernel_rfl)] at hl
  obtain ⟨b, o, hv⟩ := eof_reads hl
  have hg2 : Tryz.prog.globalNamed "io.EOF" = some 2 := by kernel_rfl
  have hn5 : Tryz.prog.globalNamed "given.example/pub-waxwright/pub/bigall.karatsubaThreshold" = some 5 := by kernel_rfl
  have hn6 : Tryz.prog.globalNamed "given.example/pub-waxwright/pub/bigall.divRecursiveThreshold" = some 6 := by kernel_rfl
  have hy5 : (Tryz.prog.globals[5]?).map (·.type) = some 3 := by kernel_rfl
  have hy6 : (Tryz.prog.globals[6]?).map (·.type) = some 3 := by kernel_rfl
  obtain ⟨c5, hv5, e5⟩ := int_reads (Lib.laidMet.reads hl (.tail _ (.tail _ (.tail _ (.tail _ (.head _)))))) hn5 hy5
  obtain ⟨c6, hv6, e6⟩ := int_reads (Lib.laidMet.reads hl (.tail _ (.tail _ (.tail _ (.head _))))) hn6 hy6
  obtain ⟨l5⟩ := c5
  obtain ⟨l6⟩ := c6
  simp only at e5 e6
  subst e5
  subst e6
  have k2 : Blk w 2 51 _ := shape_of (zero := #[.nilIface]) h (wide7 (by omega)) (by kernel_rfl) hg2 hv
  have k5 : Blk w 5 3 _ := shape_of (zero := #[.int .i64 0]) h (wide7 (by omega)) (by kernel_rfl) hn5 hv5
  have k6 : Blk w 6 3 _ := shape_of (zero := #[.int .i64 0]) h (wide7 (by omega)) (by kernel_rfl) hn6 hv6
  have hu : X.mv1 (E0 (X.prn b o)) (.iface 101 (.pointer (some ⟨3, 0, none⟩))) = some (.iface 101 (.pointer (some ⟨b, o, none⟩))) := by
    show some (X.eofV (X.prn b o)) = _
    unfold X.eofV
    rw [X.unp_prn b o _ (X.prn_le b o)]
  have l2 := k2.lt
  have l5 := k5.lt
  have l6 := k6.lt
  refine ⟨X.prn b o, rfl, fun i p hp => ?_, fun i p h3 hp => ?_, fun B hB => ?_, by decide, fun i B hB hl => ?_, fun i B hB hl => ?_, fun i j B C p q hB hC hlB hlC hp hq e => ?_, ⟨_, rfl, rfl⟩, ⟨_, rfl, rfl⟩, ⟨_, rfl, rfl⟩⟩
  · match i, hp with
    | 0, hp => injection hp with hp; subst hp; exact l2
    | 1, hp => injection hp with hp; subst hp; exact l5
    | 2, hp => injection hp with hp; subst hp; exact l6
    | 3, hp => injection hp with hp; subst hp; exact l2
  · match i, h3, hp with
    | 0, _, hp => injection hp with hp; subst hp; decide
    | 1, _, hp => injection hp with hp; subst hp; decide
    | 2, _, hp => injection hp with hp; subst hp; decide
    | 3, h3, _ => exact absurd rfl h3
  · injection hB with hB; subst hB; rfl
  · match i, hB with
    | 0, hB =>
      injection hB with hB; subst hB
      refine ⟨_, _, rfl, k2, rfl, fun j x hx => ?_⟩
      match j, hx with
      | 0, hx => injection hx with hx; subst hx; exact ⟨rfl, _, rfl, hu⟩
    | 1, hB =>
      injection hB with hB; subst hB
      refine ⟨_, _, rfl, k5, rfl, fun j x hx => ?_⟩
      match j, hx with
      | 0, hx => injection hx with hx; subst hx; exact ⟨rfl, _, rfl, rfl⟩
    | 2, hB =>
      injection hB with hB; subst hB
      refine ⟨_, _, rfl, k6, rfl, fun j x hx => ?_⟩
      match j, hx with
      | 0, hx => injection hx with hx; subst hx; exact ⟨rfl, _, rfl, rfl⟩
    | 3, hB => injection hB with hB; subst hB; cases hl
  · match i, hB with
    | 0, hB => injection hB with hB; subst hB; cases hl
    | 1, hB => injection hB with hB; subst hB; cases hl
    | 2, hB => injection hB with hB; subst hB; cases hl
    | 3, hB => injection hB with hB; subst hB; rfl
  · have hi : i < 4 := (List.getElem?_eq_some_iff.1 hB).1
    have hj : j < 4 := (List.getElem?_eq_some_iff.1 hC).1
    have ci : i = 0 ∨ i = 1 ∨ i = 2 ∨ i = 3 := by omega
    have cj : j = 0 ∨ j = 1 ∨ j = 2 ∨ j = 3 := by omega
    rcases ci with rfl | rfl | rfl | rfl <;> rcases cj with rfl | rfl | rfl | rfl <;> injection hp with hp <;> injection hq with hq <;> subst hp <;> subst hq <;> first | rfl | exact absurd e (by decide) | (injection hB with hB; subst hB; exact absurd hlB (by decide)) | (injection hC with hC; subst hC; exact absurd hlC (by decide))
end Go.Proofs.YtiegapnfbeemcaaGreatDoor

namespace Go.Proofs.YtiegapnfbeemcaaGreatDoor.row
open Go.ChangeShapes Go.WideShapes Go.ChangeAt Go.RowKit
set_option linter.unusedVariables false

theorem own : ownKnob Tryz.prog.godebug = none := by kernel_rfl
theorem laidOut : laidOutB Tryz.prog = true := by kernel_rfl
abbrev L : List (String × DataW Unit) := Rows.fnDigestRow.laid

/-- The wrap of a row under a condition on memory, the world's shape kept. -/
theorem wrap {H : Type} {enc : TypeId × Value → H} {a : Assume} {C : Checked} {os : Os} {f : FuncId} {fn : Func} {s : ChangeSpec} {conds : List PathCond} {apart fresh handsOn again : Bool} {X : World → Array Value → Prop}
    (hX : ∀ (w w' : World) (args : Array Value), w.heap = w'.heap → X w args → X w' args)
    (own : ownKnob C.prog.godebug = none) (started : os.Started) (noInit : C.prog.inits.idxOf? f = none) (hfn : C.prog.funcs[f]? = some fn)
    (witness : ∃ (w : World) (tape : Tape) (i : Input), w.os = os ∧ (w.forCall tape i).Shaped C.prog ∧ i.vars = [] ∧ Input.okWide C.prog (w.forCall tape i) .any w.heap.size f i ∧
      ((s.pre enc C.prog fn conds apart (w.forCall tape i).memory i.args ∧ X (w.forCall tape i).memory i.args) ∧ sizedMet enc C.prog fn (OpenSpec.ofChange s) apart (w.forCall tape i).memory i.args) ∧ a.holds C.prog (lone (Frame.enter C.prog f i.args .normal) [] (w.forCall tape i)))
    (contract : ∀ (W : World) (base : Nat) (args : Array Value) (ds gs : List (DataW H)) (before : List MemPlace),
      (∀ (j : Nat) t v, fn.params[j]? = some t → args[j]? = some v → Value.okWide C.prog W .any base t v) →
      DataW.Whole enc C.prog fn.params.toList s.vars apart W args.toList ds gs before →
      W.ShapedOpen C.prog → X W args →
      Calls C.prog f args W fun e W' => ∃ v, e = .returned v ∧ s.post enc C.prog fn apart fresh handsOn again W args v W') :
    ReturnsInHanded a C os f .any (fun w args => (s.pre enc C.prog fn conds apart w args ∧ X w args) ∧ sizedMet enc C.prog fn (OpenSpec.ofChange s) apart w args) (s.post enc C.prog fn apart fresh handsOn again) := by
  refine returnsInHanded_of_calls own started noInit witness ?_
  intro w tape i _ hsh _ hok hpre _
  obtain ⟨_, _, _, fn', hfn', _, _, _, _, hval⟩ := hok
  obtain rfl : fn' = fn := Option.some.inj (hfn'.symm.trans hfn)
  obtain ⟨⟨⟨ds, gs, before, hw, _⟩, hx⟩, _⟩ := hpre
  refine (contract (w.forCall tape i) w.heap.size i.args ds gs before hval (DataW.Whole.of_heap (w' := w.forCall tape i) (by rfl) hw) hsh (hX (w.forCall tape i).memory (w.forCall tape i) i.args rfl hx)).mono fun e W' ⟨v, he, hp⟩ => ?_
  subst he
  exact ChangeSpec.post_blind hp

theorem cell_lt {w : World} {a : Addr} {v : Value} (h : w.cell? a = some v) : a.block < w.heap.size := by
  rcases Nat.lt_or_ge a.block w.heap.size with h1 | h1
  · exact h1
  · unfold World.cell? at h; rw [Array.getElem?_eq_none h1] at h; cases h

/-- A slice of bytes that came in reads as a list of bytes. -/
theorem came {W : World} {H : Type} {enc : TypeId × Value → H} {a : Option Addr} {len cap : Nat} {d : DataW H} {p : List MemPlace}
    (h : DataW.Trod enc Tryz.prog W 0 (fun _ => true) true 22 (Value.slice a len cap) d p) :
    ∃ l : List Int, Reads W W.heap.size 1 a len (l.map (Value.int .u8)) ∧ (∀ x ∈ l, 0 ≤ x ∧ x ≤ 255) ∧ len ≤ cap := by
  obtain ⟨fuel, hf⟩ := h
  rcases open_ints Tryz.underlying22 Tryz.underlying5 (by kernel_rfl) hf with ⟨hcs, _⟩ | ⟨x, l, c, zs, hcs, _, hl, hm, hz, _, hcell, hwz⟩
  · simp [Value.cells] at hcs
    obtain ⟨rfl, rfl, rfl⟩ := hcs
    exact ⟨[], Reads.none_, (fun x hx => by cases hx), Nat.le_refl _⟩
  · simp [Value.cells] at hcs
    obtain ⟨rfl, rfl, rfl⟩ := hcs
    have hz' : zs.length = cap := by simpa using hz
    have htl : (zs.take len).length = len := by rw [List.length_take]; omega
    refine ⟨zs.take len, ⟨by rw [List.length_map, htl, Nat.mul_one], fun h0 => ⟨x, rfl, ?_, fun j u hj => ?_⟩⟩, (fun y hy => bounds_u8 (hwz y (List.mem_of_mem_take hy))), hl⟩
    · have h := hcell 0 (by omega)
      rw [show x.add 0 = x from rfl] at h
      exact cell_lt h
    · have hj' : j < len := by
        rcases Nat.lt_or_ge j len with h1 | h1
        · exact h1
        · rw [List.getElem?_eq_none (by rw [List.length_map, htl]; exact h1)] at hj; cases hj
      rw [hcell j (by omega)]
      rw [List.getElem?_map, List.getElem?_take, if_pos hj', List.getElem?_eq_getElem (by omega)] at hj
      rw [List.getD_eq_getElem?_getD, List.getElem?_eq_getElem (by omega)]
      simpa using hj

/-- As many data as there are variables. -/
theorem many {W : World} {H : Type} {enc : TypeId × Value → H} {f : Nat → Bool} : ∀ {ns : List String} {gs : List (DataW H)} {q : List MemPlace}, DataW.TrodVars enc Tryz.prog W f ns gs q → gs.length = ns.length
  | [], [], _, _ => rfl
  | [], _ :: _, _, h => h.elim
  | _ :: _, [], _, h => h.elim
  | _ :: ns, _ :: ds, _, ⟨_, _, _, _, _, _, _, _, _, _, hs, _⟩ => by rw [List.length_cons, List.length_cons, many hs]
theorem seven {α : Type} {gs : List α} (h : gs.length = 7) : ∃ g1 g2 g3 g4 g5 g6 g7, gs = [g1, g2, g3, g4, g5, g6, g7] := by
  match gs, h with
  | [g1, g2, g3, g4, g5, g6, g7], _ => exact ⟨_, _, _, _, _, _, _, rfl⟩
theorem met (os : Os) (args : Array Value) : laidMetH Tryz.prog L ((World.laidAll Tryz.prog os L).forCall (fun _ _ => 0) ⟨#[], args, []⟩).memory := by
  rw [MakeChecks.laidMetH_plain _ _ _ (by kernel_rfl)]
  exact laidMet_laidAll _ (by kernel_rfl) (by kernel_rfl)

set_option maxRecDepth 100000 in
theorem lifted (os : Os) (started : os.Started) (H : Type) (enc : TypeId × Value → H) :
    ReturnsInHanded {} Tryz.checked os 3 .any (fun w args => (Rows.fnDigestSpec.pre enc Tryz.prog Tryz.f3 [] false w args ∧ laidMetH Tryz.prog L w) ∧ sizedMet enc Tryz.prog Tryz.f3 (OpenSpec.ofChange Rows.fnDigestSpec) false w args)
      (Rows.fnDigestSpec.post enc Tryz.prog Tryz.f3 false true false false) := by
  refine wrap (C := Tryz.checked) (X := fun w _ => laidMetH Tryz.prog L w) (fun _ _ _ hh h => h.of_heap hh) own started (by kernel_rfl) Tryz.func3
    (ChangeSpec.witness_shaped (enc := enc) (C := Tryz.checked) (os := os) (X := fun w _ => laidMetH Tryz.prog L w) false (World.laidAll Tryz.prog os L) #[.slice none 0 0, .slice none 0 0, .slice none 0 0] 8 (World.laidAll_os _ _ _)
      (World.shaped_of_ZipB (by kernel_rfl) (by kernel_rfl)) (by kernel_rfl) (by kernel_rfl) (by kernel_rfl) (met os _)) ?_
  intro W base args ds gs before hval0 hW hsh hlaid
  have hval : ∀ (j : Nat) t v, Tryz.f3.params[j]? = some t → args[j]? = some v → Value.okWide Tryz.prog W .any base t v := hval0
  have hW' := hW
  obtain ⟨p, q, hA0, hV, rfl, hfz, hnd⟩ := hW
  have hA : DataW.TrodAll enc Tryz.prog W 0 (fun _ => true) true Tryz.f3.params.toList args.toList ds p := hA0
  rw [Tryz.params3] at hA hval
  obtain ⟨v0, vs0, d0, ds0, p0, q0, hargs, rfl, rfl, h0, r0⟩ := trodAll_cons hA
  obtain ⟨v1, vs1, d1, ds1, p1, q1, rfl, rfl, rfl, h1, r1⟩ := trodAll_cons r0
  obtain ⟨v2, vs2, d2, ds2, p2, q2, rfl, rfl, rfl, h2, r2⟩ := trodAll_cons r1
  obtain ⟨rfl, rfl, rfl⟩ := trodAll_nil r2
  obtain rfl : args = #[v0, v1, v2] := by cases args; simp_all
  obtain ⟨a0, len0, cap0, rfl⟩ := okWide_slice Tryz.underlying22 (hval 0 22 v0 rfl rfl)
  obtain ⟨a1, len1, cap1, rfl⟩ := okWide_slice Tryz.underlying22 (hval 1 22 v1 rfl rfl)
  obtain ⟨a2, len2, cap2, rfl⟩ := okWide_slice Tryz.underlying22 (hval 2 22 v2 rfl rfl)
  have lt0 : ∀ x ∈ p0, x.block < W.heap.size := by obtain ⟨m, hm⟩ := h0; exact DataW.trod_lt m _ _ _ hm
  have lt1 : ∀ x ∈ p1, x.block < W.heap.size := by obtain ⟨m, hm⟩ := h1; exact DataW.trod_lt m _ _ _ hm
  have lt2 : ∀ x ∈ p2, x.block < W.heap.size := by obtain ⟨m, hm⟩ := h2; exact DataW.trod_lt m _ _ _ hm
  obtain ⟨l0, e0, b0, k0⟩ := came h0
  obtain ⟨l1, e1, b1, _⟩ := came h1
  obtain ⟨l2, e2, b2, _⟩ := came h2
  obtain ⟨eb, hR⟩ := wr_of_laid hlaid hsh
  obtain ⟨g1, g2, g3, g4, g5, g6, g7, rfl⟩ := seven (many hV)
  clear hA0 hval0
  refine (law_any eb a0 a1 a2 len0 cap0 len1 cap1 len2 cap2 l0 l1 l2 W hR e0 e1 e2 b0 b1 b2 k0).mono fun e W' ⟨he, bel⟩ => ?_
  subst he
  exact ⟨_, rfl, _, _, _, [], _, q, hW', trodAll_mk1 (shut_bool Tryz.underlying4 _),
    (trodAll_cons_mk (Below.trod laidOut (by kernel_rfl) (of_decide_eq_true (by kernel_rfl)) h0 bel lt0) (trodAll_cons_mk (Below.trod laidOut (by kernel_rfl) (of_decide_eq_true (by kernel_rfl)) h1 bel lt1) (trodAll_cons_mk (Below.trod laidOut (by kernel_rfl) (of_decide_eq_true (by kernel_rfl)) h2 bel lt2) trodAll_mk0))),
    bel.trodVars laidOut (by kernel_rfl) hV, bel.frame _, fun h => by cases h⟩

theorem over : Rows.FnDigestSaid :=
  OpenClaim.holds_of_wide 3 Tryz.f3 rfl rfl rfl rfl rfl rfl rfl ⟨rfl, rfl, rfl, rfl, rfl⟩ rfl rfl rfl rfl rfl (by kernel_rfl) Tryz.func3 (by kernel_rfl)
    (of_decide_eq_true (by kernel_rfl)) (by unfold Func.isWrapper; first | (rw [if_pos (by decide +kernel)]; kernel_rfl) | (rw [if_neg (by decide +kernel)]; exact ⟨rfl, rfl⟩))
    (fun os started H enc _ => lifted os started H enc)

/-- The card. -/
theorem proved : Rows.FnDigestCardSaid :=
  Claim7.holds_tied_plain_at .later [] [.sentinel, .sentinel, .sentinel, .data, .data, .data, .data, .widerDeep] true (true, "3a43e4d9dc2d55c95c4ecbe5d8ab59a294cfb8309f53fa7ab0ec6168b0646fb3") true
    over (fun _ h => by cases h) (by kernel_rfl) (fun _ h => by cases h) fnDigest_row_tie rfl ⟨rfl, rfl⟩ (by kernel_rfl) rfl
    (fun f fn hf hfn => by
      obtain rfl : f = 3 := Option.some.inj ((show Tryz.prog.funcNamed "given.example/pub-waxwright/laws.FnDigest" = some 3 by kernel_rfl).symm.trans hf) |>.symm
      obtain rfl : fn = Tryz.f3 := (Option.some.inj (Tryz.func3.symm.trans hfn)).symm
      exact ⟨by kernel_rfl, fun j t ht => by
        rw [Tryz.params3] at ht
        have hm : t ∈ [22, 22, 22] := by simpa using Array.mem_of_getElem? ht
        have hall : ([22, 22, 22].all fun u => !Tryz.prog.wantsStandIn u) = true := by kernel_rfl
        exact (show Tryz.prog.wantsStandIn t = false by simpa using List.all_eq_true.1 hall t hm)⟩)
    (by kernel_rfl)
end Go.Proofs.YtiegapnfbeemcaaGreatDoor.row
namespace Go.Proofs.YtiegapnfbeemcaaGreatDoor
theorem fnDigest_holds : Rows.FnDigestCardSaid := row.proved
#print axioms fnDigest_holds
end Go.Proofs.YtiegapnfbeemcaaGreatDoor
