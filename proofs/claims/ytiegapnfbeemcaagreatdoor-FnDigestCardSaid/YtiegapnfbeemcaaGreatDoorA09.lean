/-
  The executor is sound: steps and regions. No condition.
-/
import Derived.Test.YtiegapnfbeemcaaGreatDoorA08
import Derived.BigQuiet
import Derived.LoopTactic
import Derived.Lib.Hide
import Derived.WalkSmall
import Derived.WalkSpells
import Derived.Deep.QuietTactic
import Derived.Laws.Externs
namespace Go.Proofs.YtiegapnfbeemcaaGreatDoor.X
set_option maxRecDepth 100000
open Go.RowKit

def sub64Entry : Array Value → Sem Value := fun args => do
  let (x, y, b) ← Extern.MathBitsCarry.three "Sub64" args
  pure (Extern.MathBitsCarry.pair ((x + Extern.MathBitsCarry.m64 - y - b) % Extern.MathBitsCarry.m64) (if x < y + b then 1 else 0))
theorem run_144 (x y c : Nat) (hc : c ≤ 1) (w : World) : (callFunc 144 #[.int .u64 (x : Int), .int .u64 (y : Int), .int .u64 (c : Int)]).run Tryz.prog w =
    .ok (.value (.tuple #[.int .u64 (((x + y + c) % 18446744073709551616 : Nat) : Int), .int .u64 (((x + y + c) / 18446744073709551616 : Nat) : Int)])) w := by
  rw [run_callFunc_extern (e := add64Entry) Tryz.func144 (by kernel_rfl) (by kernel_rfl) (by kernel_rfl) (by kernel_rfl), run_add64 _ _ _ (by omega) (by omega) (by omega) (by omega)]
  rfl
theorem run_146 (x y c : Nat) (hc : c ≤ 1) (w : World) : (callFunc 146 #[.int .u64 (x : Int), .int .u64 (y : Int), .int .u64 (c : Int)]).run Tryz.prog w =
    .ok (.value (.tuple #[.int .u64 (((x + 18446744073709551616 - y - c) % 18446744073709551616 : Nat) : Int), .int .u64 (if y + c ≤ x then 0 else 1)])) w := by
  rw [run_callFunc_extern (e := sub64Entry) Tryz.func146 (by kernel_rfl) (by kernel_rfl) (by kernel_rfl) (by kernel_rfl)]
  have : (sub64Entry #[.int .u64 (x : Int), .int .u64 (y : Int), .int .u64 (c : Int)]).run Tryz.prog w = .ok (.tuple #[.int .u64 (((x + 18446744073709551616 - y - c) % 18446744073709551616 : Nat) : Int), .int .u64 (if y + c ≤ x then 0 else 1)]) w := by
    have hcc : c = 0 ∨ c = 1 := by omega
    have key : (sub64Entry #[.int .u64 (x : Int), .int .u64 (y : Int), .int .u64 (c : Int)]).run Tryz.prog w = .ok (.tuple #[.int .u64 (((x + 18446744073709551616 - y - c) % 18446744073709551616 : Nat) : Int), .int .u64 (((if x < y + c then 1 else 0 : Nat)) : Int)]) w := by
      rcases hcc with rfl | rfl <;> rfl
    rw [key]
    congr 4
    by_cases h : y + c ≤ x
    · rw [if_pos h, if_neg (by omega)]; rfl
    · rw [if_neg h, if_pos (by omega)]; rfl
  rw [this]; rfl

/-- alias: whether two rows end in the same cell. -/
theorem alias_0 (A B : Option Addr) (n m d : Nat) (w : World) : Calls Tryz.prog 93 #[.slice A n 0, .slice B m d] w fun e w' => e = .returned (.bool false) ∧ ∃ q, w' = w.drewN q := by
  go_enter Tryz.func93, Tryz.ntmps93
  go_wp2_with fail
  go_quiet (fail)
  go_wp2_with fail
  go_ret
  exact ⟨rfl, _, rfl⟩
theorem alias_p0 (A B : Option Addr) (n c m : Nat) (w : World) (h : 0 < c) : Calls Tryz.prog 93 #[.slice A n c, .slice B m 0] w fun e w' => e = .returned (.bool false) ∧ ∃ q, w' = w.drewN q := by
  have h1 : (0 : Int) < (c : Int) := by omega
  go_enter Tryz.func93, Tryz.ntmps93
  go_wp2_with fail
  go_quiet (fail)
  go_wp2_with fail
  go_ret
  exact ⟨rfl, _, rfl⟩
theorem q_eql {ops : Array Oper} {rest : List Oper} {o : Oper} {a : Act} {w : World} {Q : Act → Prop} (hw : Region.wanted o (yielded ops a.tmps) = true) (x y : Operand) (t : TypeId) (ho : o.op = .binOp .eql 155 x y t) (p q : Addr) (hx : a.eval x = .pointer (some p)) (hy : a.eval y = .pointer (some q)) (b : Bool)
    (he : ∀ k, (Op.equal 155 (.pointer (some p)) (.pointer (some q))).run Tryz.prog (w.drewN k) = .ok b (w.drewN k)) (h : wpQuiet Tryz.prog ops (fun w' => ∃ k, w' = w.drewN k) Q rest (a.put o.dst (.bool b))) :
    wpQuiet Tryz.prog ops (fun w' => ∃ k, w' = w.drewN k) Q (o :: rest) a := by
  refine wpQuiet_step fun K hK => ?_
  rw [if_pos hw]
  refine ⟨.bool b, fun w' ⟨k, hk⟩ => ?_, hK _ h⟩
  subst hk
  unfold Oper.quietAt execOp
  simp only [ho, hx, hy]
  have hg : (eqGuard .eql 155 x y (.pointer (some p)) (.pointer (some q))).run Tryz.prog (w.drewN k) = .ok () (w.drewN k) := guard_ok (fun e => by cases e) (fun _ _ e => by cases e.1)
  have hb : (binOp .eql 155 (.pointer (some p)) (.pointer (some q))).run Tryz.prog (w.drewN k) = .ok (.bool b) (w.drewN k) := by
    show ((do pure (.bool (← Op.equal 155 (.pointer (some p)) (.pointer (some q))))) : Sem Value).run Tryz.prog (w.drewN k) = _
    rw [Sem.run_bind, he]; rfl
  rw [Sem.run_bind, Sem.run_bind, hg]
  simp only [Result.andThen_ok, hb]
  exact ⟨rfl, rfl⟩
theorem alias_pp (g o k j n c m d : Nat) (b : Bool) (w : World) (h : 0 < c) (h' : 0 < d) (hc : c < 9223372036854775808) (hd : d < 9223372036854775808) (he : ∀ q, (Op.equal 155 (.pointer (some ⟨g, o + (c - 1), none⟩)) (.pointer (some ⟨k, j + (d - 1), none⟩))).run Tryz.prog (w.drewN q) = .ok b (w.drewN q)) :
    Calls Tryz.prog 93 #[.slice (some ⟨g, o, none⟩) n c, .slice (some ⟨k, j, none⟩) m d] w fun e w' => e = .returned (.bool b) ∧ ∃ q, w' = w.drewN q := by
  have h1 : (0 : Int) < (c : Int) := by omega
  have h2 : (0 : Int) < (d : Int) := by omega
  have w1 := IntWalk.i64_in ((c : Int) - 1) (by omega)
  have w2 := IntWalk.i64_in ((d : Int) - 1) (by omega)
  have l1 : (0 : Int) ≤ (c : Int) - 1 := by omega
  have l2 : (0 : Int) ≤ (d : Int) - 1 := by omega
  have t1 : ((c : Int) - 1).toNat = c - 1 := by omega
  have t2 : ((d : Int) - 1).toNat = d - 1 := by omega
  have l3 : (c : Int) - 1 < (c : Int) := by omega
  have l4 : (d : Int) - 1 < (d : Int) := by omega
  have l5 : (1 : Int) ≤ (c : Int) := by omega
  have l6 : (1 : Int) ≤ (d : Int) := by omega
  have n1 : ¬ c = 0 := by omega
  have n2 : ¬ d = 0 := by omega
  go_enter Tryz.func93, Tryz.ntmps93
  go_wp2_with fail
  refine wp_region_quiet_lit (by kernel_rfl) (by kernel_rfl) ?_
  repeat (quiet_step (fail))
  refine q_eql rfl _ _ _ rfl _ _ rfl rfl b he ?_
  repeat (quiet_step (fail))
  refine wpQuiet_nil ?_
  intro _ hw'
  obtain ⟨nq, rfl⟩ := hw'
  go_wp2_with fail
  go_ret
  exact ⟨rfl, _, rfl⟩
end Go.Proofs.YtiegapnfbeemcaaGreatDoor.X

namespace Go.Proofs.YtiegapnfbeemcaaGreatDoor.X
set_option maxRecDepth 100000
open Go.RowKit

theorem z109 (w : World) : (zeroValue 109).run Tryz.prog w = .ok (.agg ⟨[.bool false, .slice none 0 0]⟩) w := by kernel_rfl
theorem z165 (w : World) : (zeroValue 165).run Tryz.prog w = .ok (.agg ⟨[.string ⟨#[]⟩, .int .i64 0, .int .i64 0]⟩) w := by kernel_rfl
theorem z194 (w : World) : (zeroValue 194).run Tryz.prog w = .ok (.agg ⟨[.pointer none]⟩) w := by kernel_rfl
theorem z198 (w : World) : (zeroValue 198).run Tryz.prog w = .ok (.agg ⟨[.slice none 0 0]⟩) w := by kernel_rfl
theorem z72 (w : World) : (zeroValue 72).run Tryz.prog w = .ok (.agg ⟨[.int .u32 0, .int .u32 0, .int .u32 0, .int .u32 0, .int .u32 0, .int .u32 0, .int .u32 0, .int .u32 0, .int .u32 0]⟩) w := by kernel_rfl
theorem z142 (w : World) : (zeroValue 142).run Tryz.prog w = .ok (.agg ⟨[.pointer none, .pointer none, .pointer none, .pointer none, .pointer none, .int .i64 0, .string ⟨#[]⟩]⟩) w := by kernel_rfl
theorem z122 (w : World) : (zeroValue 122).run Tryz.prog w = .ok (.agg ⟨.pointer none :: .pointer none :: List.replicate 36 (.int .u32 0)⟩) w := by kernel_rfl
theorem zero_of {t : Nat} {zs : List Value} (h : zeroX t = some zs) : (∀ w : World, (zeroValue t).run Tryz.prog w = .ok (.agg ⟨zs⟩) w) ∧ zs.all flat = true ∧ zs.length ≤ 38 ∧ (t = 109 ∨ t = 165 ∨ t = 194 ∨ t = 198 ∨ t = 142 ∨ t = 122 ∨ t = 72) := by
  unfold zeroX at h
  split at h
  · have h := Option.some.inj h; subst h; exact ⟨z109, rfl, by decide, by simp⟩
  · have h := Option.some.inj h; subst h; exact ⟨z165, rfl, by decide, by simp⟩
  · have h := Option.some.inj h; subst h; exact ⟨z194, rfl, by decide, by simp⟩
  · have h := Option.some.inj h; subst h; exact ⟨z198, rfl, by decide, by simp⟩
  · have h := Option.some.inj h; subst h; exact ⟨z142, rfl, by decide, by simp⟩
  · have h := Option.some.inj h; subst h; exact ⟨z122, rfl, by decide, by simp⟩
  · have h := Option.some.inj h; subst h; exact ⟨z72, rfl, by decide, by simp⟩
  · cases h
section
variable {φ : Env} {H : Heap} {w : World}
theorem mvs_flat : ∀ {zs : List Value}, zs.all flat = true → mvs φ zs = some zs ∧ zs.all one = true
  | [], _ => ⟨rfl, rfl⟩
  | z :: zs, h => by
    rw [List.all_cons, Bool.and_eq_true] at h
    obtain ⟨h1, h2⟩ := mvs_flat h.2
    refine ⟨?_, by rw [List.all_cons, flat_one h.1, h2]; rfl⟩
    unfold mvs
    rw [mv1_flat h.1, h1]
/-- The parts of a literal. -/
def PR (φ : Env) : List (Nat × Value) → List (Nat × Value) → Prop
  | [], [] => True
  | (i, v) :: l, (j, u) :: m => i = j ∧ mv φ v = some u ∧ PR φ l m
  | _, _ => False
theorem mvs_set : ∀ {zs us : List Value} {i : Nat} {v u : Value}, mvs φ zs = some us → mv1 φ v = some u → mvs φ (zs.set i v) = some (us.set i u)
  | [], us, i, v, u, h, _ => by
    have h := Option.some.inj h
    subst h; rfl
  | z :: zs, us, i, v, u, h, hv => by
    unfold mvs at h
    split at h
    · rename_i y ys hy hys
      have h := Option.some.inj h
      subst h
      cases i with
      | zero => simp only [List.set_cons_zero]; unfold mvs; rw [hv, hys]
      | succ i => simp only [List.set_cons_succ]; unfold mvs; rw [hy, mvs_set hys hv]
    · cases h
theorem all_set {zs : List Value} {i : Nat} {v : Value} (h : zs.all one = true) (hv : one v = true) : (zs.set i v).all one = true := by
  rw [List.all_eq_true] at h ⊢
  intro x hx
  rcases List.mem_or_eq_of_mem_set hx with h1 | rfl
  · exact h x h1
  · exact hv
theorem fill_ok {place : Nat → Option (Nat × Nat)} : ∀ (ps ps' : List (Nat × Value)) (zs cs us : List Value), (∀ i, i < zs.length → place i = some (i, 1)) → fillX zs ps = some cs → PR φ ps ps' → mvs φ zs = some us → zs.all one = true →
    ∃ us', Instr.fill place ⟨us⟩ ps' = some ⟨us'⟩ ∧ mvs φ cs = some us' ∧ cs.all one = true
  | [], [], zs, cs, us, _, h, _, hm, h1 => by
    have h := Option.some.inj h
    subst h
    exact ⟨us, rfl, hm, h1⟩
  | (i, v) :: ps, (j, u) :: ps', zs, cs, us, hp, h, ⟨hij, hv, hr⟩, hm, h1 => by
    subst hij
    unfold fillX at h
    split at h
    · rename_i ho
      rw [getL_eq] at h
      split at h
      · rename_i x hx
        rw [setLK_eq] at h
        have hi : i < zs.length := (List.getElem?_eq_some_iff.1 hx).1
        rw [mv_one ho] at hv
        obtain ⟨hc, _⟩ := one_cell ho hv
        obtain ⟨us', e1, e2, e3⟩ := fill_ok (place := place) ps ps' _ cs _ (by simpa using hp) h hr (mvs_set hm hv) (all_set h1 ho)
        refine ⟨us', ?_, e2, e3⟩
        unfold Instr.fill
        rw [hp i hi]
        simp only [hc]
        have hl := mvs_len hm
        rw [if_neg (by simp; omega)]
        have : ((#[u] : Array Value).zipIdx.foldl (fun cs (x : Value × Nat) => cs.setIfInBounds (i + x.2) x.1) (⟨us⟩ : Array Value)) = ⟨us.set i u⟩ := by
          show (⟨us⟩ : Array Value).setIfInBounds (i + 0) u = ⟨us.set i u⟩
          apply Array.ext'
          simp
        exact (congrArg (fun c => Instr.fill place c ps') this).trans e1
      · cases h
    · cases h
  | [], _ :: _, _, _, _, _, _, h, _, _ => h.elim
  | _ :: _, [], _, _, _, _, _, h, _, _ => h.elim
noncomputable def fieldsOf (t : Nat) : Array Field := match Tryz.prog.underlying t with
  | some (.struct fs) => fs
  | _ => #[]
noncomputable def placesOf (t : Nat) : Sem (Array (Nat × Nat)) := (fieldsOf t).mapM fun f => do pure (f.offset, ← sizeOf f.type)
theorem f109 : Tryz.prog.underlying 109 = some (.struct (fieldsOf 109)) := by kernel_rfl
theorem f165 : Tryz.prog.underlying 165 = some (.struct (fieldsOf 165)) := by kernel_rfl
theorem f194 : Tryz.prog.underlying 194 = some (.struct (fieldsOf 194)) := by kernel_rfl
theorem f142 : Tryz.prog.underlying 142 = some (.struct (fieldsOf 142)) := by kernel_rfl
theorem p142 (w : World) : (placesOf 142).run Tryz.prog w = .ok #[(0, 1), (1, 1), (2, 1), (3, 1), (4, 1), (5, 1), (6, 1)] w := by kernel_rfl
theorem p109 (w : World) : (placesOf 109).run Tryz.prog w = .ok #[(0, 1), (1, 1)] w := by kernel_rfl
theorem p165 (w : World) : (placesOf 165).run Tryz.prog w = .ok #[(0, 1), (1, 1), (2, 1)] w := by kernel_rfl
theorem p194 (w : World) : (placesOf 194).run Tryz.prog w = .ok #[(0, 1)] w := by kernel_rfl
theorem build_st {t : Nat} {zs us : List Value} {pl : Array (Nat × Nat)} {ps' : Array (Nat × Value)} (h1 : ∀ w : World, (zeroValue t).run Tryz.prog w = .ok (.agg ⟨zs⟩) w) (hf : Tryz.prog.underlying t = some (.struct (fieldsOf t))) (hp : ∀ w : World, (placesOf t).run Tryz.prog w = .ok pl w) (e1 : Instr.fill (fun i => pl[i]?) ⟨zs⟩ ps'.toList = some ⟨us⟩) (w : World) :
    (Instr.build t ps').run Tryz.prog w = .ok (.agg ⟨us⟩) w := by
  unfold placesOf at hp
  simp only [Instr.build, Sem.run_bind, h1, Result.andThen_ok, run_und hf, Value.cells, hp, e1, Sem.run_pure]
theorem run_build {t : Nat} {zs cs : List Value} {ps : List (Nat × Value)} {ps' : Array (Nat × Value)} (hz : zeroX t = some zs) (ht : t ≠ 198) (ht2 : t ≠ 122) (h : fillX zs ps = some cs) (hr : PR φ ps ps'.toList) :
    ∃ us, (Instr.build t ps').run Tryz.prog w = .ok (.agg ⟨us⟩) w ∧ mvs φ cs = some us := by
  obtain ⟨h1, h2, h3, h4⟩ := zero_of hz
  obtain ⟨m1, m2⟩ := mvs_flat (φ := φ) h2
  have key : ∀ place : Nat → Option (Nat × Nat), (∀ i, i < zs.length → place i = some (i, 1)) → ∃ us', Instr.fill place ⟨zs⟩ ps'.toList = some ⟨us'⟩ ∧ mvs φ cs = some us' ∧ cs.all one = true := fun place hp => fill_ok ps ps'.toList zs cs zs hp h hr m1 m2
  rcases h4 with rfl | rfl | rfl | rfl | rfl | rfl | rfl
  · have hz := (Option.some.inj hz).symm
    subst hz
    obtain ⟨us, e1, e2, _⟩ := key (fun i => (#[(0, 1), (1, 1)] : Array (Nat × Nat))[i]?) (fun i hi => by
      simp at hi
      have : i = 0 ∨ i = 1 := by omega
      rcases this with rfl | rfl <;> rfl)
    exact ⟨us, build_st h1 f109 p109 e1 w, e2⟩
  · have hz := (Option.some.inj hz).symm
    subst hz
    obtain ⟨us, e1, e2, _⟩ := key (fun i => (#[(0, 1), (1, 1), (2, 1)] : Array (Nat × Nat))[i]?) (fun i hi => by
      simp at hi
      have : i = 0 ∨ i = 1 ∨ i = 2 := by omega
      rcases this with rfl | rfl | rfl <;> rfl)
    exact ⟨us, build_st h1 f165 p165 e1 w, e2⟩
  · have hz := (Option.some.inj hz).symm
    subst hz
    obtain ⟨us, e1, e2, _⟩ := key (fun i => (#[(0, 1)] : Array (Nat × Nat))[i]?) (fun i hi => by
      simp at hi
      subst hi; rfl)
    exact ⟨us, build_st h1 f194 p194 e1 w, e2⟩
  · exact absurd rfl ht
  · have hz := (Option.some.inj hz).symm
    subst hz
    obtain ⟨us, e1, e2, _⟩ := key (fun i => (#[(0, 1), (1, 1), (2, 1), (3, 1), (4, 1), (5, 1), (6, 1)] : Array (Nat × Nat))[i]?) (fun i hi => by
      simp at hi
      have : i = 0 ∨ i = 1 ∨ i = 2 ∨ i = 3 ∨ i = 4 ∨ i = 5 ∨ i = 6 := by omega
      rcases this with rfl | rfl | rfl | rfl | rfl | rfl | rfl <;> rfl)
    exact ⟨us, build_st h1 f142 p142 e1 w, e2⟩
  · exact absurd rfl ht2
  · have hz := (Option.some.inj hz).symm
    subst hz
    obtain ⟨us, e1, e2, _⟩ := key (fun i => some (i * 1, 1)) (fun i _ => by rw [Nat.mul_one])
    refine ⟨us, ?_, e2⟩
    have hu : Tryz.prog.underlying 72 = some (.array 9 24) := by kernel_rfl
    have hs : ∀ w : World, (sizeOf 24).run Tryz.prog w = .ok 1 w := fun w => by kernel_rfl
    simp only [Instr.build, Sem.run_bind, h1, Result.andThen_ok, run_und hu, Value.cells, hs, e1, Sem.run_pure]
theorem inv_read (v : Value) (w : World) : (callMethod (.iface 139 v) "ReadByte" #[]).run Tryz.prog w = .ok (.enter 210 #[v]) w := by kernel_rfl
theorem inv_unread (v : Value) (w : World) : (callMethod (.iface 139 v) "UnreadByte" #[]).run Tryz.prog w = .ok (.enter 211 #[v]) w := by kernel_rfl
theorem conc139 : Tryz.prog.concrete 139 = true := by kernel_rfl
end
end Go.Proofs.YtiegapnfbeemcaaGreatDoor.X

namespace Go.Proofs.YtiegapnfbeemcaaGreatDoor.X
set_option maxRecDepth 100000
open Go.RowKit

theorem c93 (args : Array Value) (w : World) : (callFunc 93 args).run Tryz.prog w = .ok (.enter 93 args) w := by kernel_rfl
section
variable {φ : Env} {H : Heap} {w : World}
theorem WR.drewN (h : WR φ H w) (q : Nat) : WR φ H (w.drewN q) := ⟨h.len, h.low, h.cap, h.g3, h.len4, h.blk, h.dead, h.inj, h.g2, h.g5, h.g6⟩
theorem FR.drewN (φ : Env) (w : World) (q : Nat) : FR φ w (w.drewN q) := ⟨rfl, rfl, rfl, Nat.le_refl _, fun _ _ _ => rfl⟩
theorem posC_of {c : Nat} (h : posC c = true) : 0 < lowC c := blt_of h
theorem cap_lt (hW : WR φ H w) {b : Nat} (hb3 : b ≠ 3) {p : Nat × Nat} (hp : φ[b]? = some p) {c c' o : Nat} (h : (c < BIG ∧ c' = c) ∨ (BIG ≤ c ∧ c' = p.2 - o ∧ c + o ≤ BIG + p.2)) : c' < 9223372036854775808 := by
  have := hW.cap b p hb3 hp
  rcases h with ⟨h1, rfl⟩ | ⟨_, rfl, _⟩
  · unfold BIG at h1; omega
  · omega
theorem alias_ok (hW : WR φ H w) {x y u1 u2 : Value} {b : Bool} (h : aliasX H x y = some b) (h1 : mv1 φ x = some u1) (h2 : mv1 φ y = some u2) : Calls Tryz.prog 93 #[u1, u2] w fun e w' => e = .returned (.bool b) ∧ ∃ q, w' = w.drewN q := by
  unfold aliasX at h
  split at h
  · rename_i b1 o1 n1 c1 b2 o2 n2 c2
    obtain ⟨p, c1', hp, rfl, hc1⟩ := mv_slice (φ := φ) h1
    obtain ⟨q, c2', hq, rfl, hc2⟩ := mv_slice (φ := φ) h2
    split at h
    · rename_i h0
      have h0 := Nat.eq_of_beq_eq_true h0
      have h := Option.some.inj h
      subst h
      rcases hc1 with ⟨_, rfl⟩ | ⟨hh, _⟩
      · subst h0; exact alias_0 _ _ _ _ _ w
      · unfold BIG at hh; omega
    · split at h
      · rename_i h0
        have h0 := Nat.eq_of_beq_eq_true h0
        split at h
        · rename_i hpos
          have h := Option.some.inj h
          subst h
          have := posC_of hpos
          have := lowC_le hc1
          rcases hc2 with ⟨_, rfl⟩ | ⟨hh, _⟩
          · subst h0; exact alias_p0 _ _ _ _ _ w (by omega)
          · unfold BIG at hh; omega
        · cases h
      · split at h
        · rename_i hpos
          rw [Bool.and_eq_true, Bool.and_eq_true, Bool.and_eq_true] at hpos
          have p1 := Nat.lt_of_lt_of_le (posC_of hpos.1.1) (lowC_le hc1)
          have p2 := Nat.lt_of_lt_of_le (posC_of hpos.1.2) (lowC_le hc2)
          have l1 := cap_lt hW (fun e => by subst e; cases hpos.2.1) hp hc1
          have l2 := cap_lt hW (fun e => by subst e; cases hpos.2.2) hq hc2
          split at h
          · rename_i hb
            have hb := Nat.eq_of_beq_eq_true hb
            subst hb
            rw [hp] at hq
            have hq := Option.some.inj hq
            subst hq
            have near : ∀ r : Bool, r = Nat.beq (o1 + (c1' - 1)) (o2 + (c2' - 1)) → Calls Tryz.prog 93 #[.slice (some ⟨p.1, o1, none⟩) n1 c1', .slice (some ⟨p.1, o2, none⟩) n2 c2'] w fun e w' => e = .returned (.bool r) ∧ ∃ q, w' = w.drewN q := fun r hr =>
              alias_pp _ _ _ _ _ _ _ _ r w p1 p2 l1 l2 (fun k => by rw [eq_pp (by rfl), same_near, hr])
            split at h
            · rename_i hB1 hB2
              have hB1 := Nat.le_of_ble_eq_true hB1
              have hB2 := Nat.le_of_ble_eq_true hB2
              have h := Option.some.inj h
              subst h
              rcases hc1 with ⟨hh, _⟩ | ⟨_, rfl, _⟩
              · omega
              rcases hc2 with ⟨hh, _⟩ | ⟨_, rfl, _⟩
              · omega
              refine near true ?_
              rw [show o1 + (p.2 - o1 - 1) = o2 + (p.2 - o2 - 1) by omega, Nat.beq_refl]
            · rename_i hB1 hB2
              have h := Option.some.inj h
              subst h
              rcases hc1 with ⟨_, rfl⟩ | ⟨hh, _⟩
              case inr => rw [Nat.ble_eq_true_of_le hh] at hB1; cases hB1
              rcases hc2 with ⟨_, rfl⟩ | ⟨hh, _⟩
              case inr => rw [Nat.ble_eq_true_of_le hh] at hB2; cases hB2
              refine near _ ?_
              rw [Bool.eq_iff_iff]
              constructor
              · intro e
                have := Nat.eq_of_beq_eq_true e
                rw [show o1 + (c1' - 1) = o2 + (c2' - 1) by omega]; exact Nat.beq_refl _
              · intro e
                have := Nat.eq_of_beq_eq_true e
                rw [show o1 + c1' = o2 + c2' by omega]; exact Nat.beq_refl _
            · cases h
          · rename_i hb
            split at h
            · rename_i hl
              rw [Bool.and_eq_true] at hl
              have h := Option.some.inj h
              subst h
              obtain ⟨B, hB, hlB⟩ := liveX_at hl.1
              obtain ⟨C, hC, hlC⟩ := liveX_at hl.2
              obtain ⟨p', cs, hp', hbb, _⟩ := hW.blk b1 B hB hlB
              obtain ⟨q', ds, hq', hcc, _⟩ := hW.blk b2 C hC hlC
              rw [hp] at hp'
              have hp' := Option.some.inj hp'
              subst hp'
              rw [hq] at hq'
              have hq' := Option.some.inj hq'
              subst hq'
              refine alias_pp _ _ _ _ _ _ _ _ false w p1 p2 l1 l2 (fun k => ?_)
              rw [eq_pp (by rfl)]
              refine same_far (w := w.drewN k) hbb hcc (fun e => ?_) _ _
              have := hW.inj b1 b2 B C p q hB hC hlB hlC hp hq e
              subst this
              rw [Nat.beq_refl] at hb; cases hb
            · cases h
        · cases h
  · rename_i n1 c1 A n2 c2
    split at h
    · rename_i h0
      have h0 := Nat.eq_of_beq_eq_true h0
      subst h0
      have h := Option.some.inj h
      subst h
      have e1 := (Option.some.inj h1).symm
      subst e1
      have : ∃ B d, u2 = .slice B n2 d := by
        obtain ⟨B, d, e, _⟩ := sl_of h2
        exact ⟨B, d, e⟩
      obtain ⟨B, d, rfl⟩ := this
      exact alias_0 _ _ _ _ _ w
    · cases h
  · rename_i A n1 c1 n2 c2 hnn
    split at h
    · rename_i h0
      rw [Bool.and_eq_true] at h0
      have h3 := Nat.eq_of_beq_eq_true h0.2
      subst h3
      have h := Option.some.inj h
      subst h
      have e2 := (Option.some.inj h2).symm
      subst e2
      have := posC_of h0.1
      cases A with
      | none =>
        have e1 := (Option.some.inj h1).symm
        subst e1
        have hc : 0 < c1 := by
          unfold lowC at this
          split at this <;> omega
        exact alias_p0 _ _ _ _ _ w hc
      | some ad =>
        obtain ⟨b1, o1, s⟩ := ad
        cases s with
        | some s => cases h1
        | none =>
          obtain ⟨p, c1', hp, rfl, hc1⟩ := mv_slice (φ := φ) h1
          have := lowC_le hc1
          exact alias_p0 _ _ _ _ _ w (by omega)
    · cases h
  · cases h
theorem ext_wp {f : Nat} {vs us : List Value} {v : Value} {o : Oper} {a : Act} {K : Act → World → Prop} {Q : Exit → Act → World → Prop} (hW : WR φ H w) (h : extX H f vs = some v) (hm : mvs φ vs = some us) (hrun : (execOp a.eval o).run Tryz.prog w = (callFunc f ⟨us⟩).run Tryz.prog w)
    (hK : ∀ q v', mv φ v = some v' → K (a.put o.dst v') (w.drewN q)) : o.wp Tryz.prog a w K Q := by
  unfold extX at h
  split at h
  · rename_i x y
    split at h
    · rename_i b hb
      have h := Option.some.inj h
      subst h
      obtain ⟨u1, u2, rfl, h1, h2⟩ := mvs_2 hm
      unfold Oper.wp
      rw [hrun, c93]
      refine (alias_ok hW hb h1 h2).mono ?_
      rintro e w' ⟨rfl, q, rfl⟩
      exact hK q _ rfl
    · cases h
  · rename_i x y c
    split at h
    · rename_i hc
      have hc := Nat.le_of_ble_eq_true hc
      have h := Option.some.inj h
      subst h
      have e := (Option.some.inj hm).symm
      subst e
      refine wp_v (hrun.trans (run_144 x y c hc w)) ?_
      exact hK 0 _ rfl
    · cases h
  · rename_i x y c
    split at h
    · rename_i hc
      have hc := Nat.le_of_ble_eq_true hc
      have h := Option.some.inj h
      subst h
      have e := (Option.some.inj hm).symm
      subst e
      refine wp_v (hrun.trans (run_146 x y c hc w)) ?_
      have := hK 0 _ (show mv φ (.tuple #[.int .u64 (.ofNat ((x + 18446744073709551616 - y - c) % 18446744073709551616)), .int .u64 (if Nat.ble (y + c) x then 0 else 1)]) = some (.tuple #[.int .u64 (.ofNat ((x + 18446744073709551616 - y - c) % 18446744073709551616)), .int .u64 (if Nat.ble (y + c) x then 0 else 1)]) from rfl)
      have hif : (if Nat.ble (y + c) x = true then (0 : Int) else 1) = if y + c ≤ x then 0 else 1 := by
        by_cases hh : y + c ≤ x
        · rw [if_pos hh, if_pos (Nat.ble_eq_true_of_le hh)]
        · rw [if_neg hh, if_neg (fun e => hh (Nat.le_of_ble_eq_true e))]
      rw [hif] at this
      exact this
    · cases h
  · cases h
end
end Go.Proofs.YtiegapnfbeemcaaGreatDoor.X

namespace Go.Proofs.YtiegapnfbeemcaaGreatDoor.X
set_option maxRecDepth 100000
open Go.RowKit

/-- What comes out of a call. -/
def OutX (φ : Env) (v : Value) (H' : Heap) (w : World) (e : Ending) (w' : World) : Prop := ∃ ψ v', e = .returned v' ∧ mv ψ v = some v' ∧ EX φ ψ w ∧ WR ψ H' w' ∧ FR φ w w'
/-- What the executor's calls are worth. -/
def CallOk (call : CallX) : Prop := ∀ f vs H v H', call f vs H = some (v, H') → (∀ args w, (callFunc f args).run Tryz.prog w = .ok (.enter f args) w) ∧ ∀ φ w us, WR φ H w → mvs φ vs = some us → Calls Tryz.prog f ⟨us⟩ w (OutX φ v H' w)

section
variable {φ : Env} {H : Heap} {w : World} {T : Tr} {a : Act}
/-- The operands are as the executor has them. -/
def OpOk (φ : Env) (T : Tr) (a : Act) (o : Op) : Prop := ∀ x ∈ o.operands.toList, ∀ v, evX T x = some v → mv φ v = some (a.eval x)
theorem evs_ok : ∀ {xs : List Operand} {vs : List Value}, (∀ x ∈ xs, ∀ v, evX T x = some v → mv φ v = some (a.eval x)) → evsX T xs = some vs → (∀ v ∈ vs, one v = true) → mvs φ vs = some (xs.map a.eval)
  | [], vs, _, h, _ => by
    have h := (Option.some.inj h).symm
    subst h; rfl
  | x :: xs, vs, ho, h, h1 => by
    unfold evsX at h
    split at h
    · rename_i v us hv hus
      have h := (Option.some.inj h).symm
      subst h
      have e := ho x List.mem_cons_self v hv
      rw [mv_one (h1 v List.mem_cons_self)] at e
      rw [List.map_cons]
      unfold mvs
      rw [e, evs_ok (fun y hy => ho y (List.mem_cons_of_mem _ hy)) hus (fun y hy => h1 y (List.mem_cons_of_mem _ hy))]
    · cases h
theorem evp_ok : ∀ {ps : List (Nat × Operand)} {vs : List (Nat × Value)}, (∀ x ∈ ps.map (·.2), ∀ v, evX T x = some v → mv φ v = some (a.eval x)) → evpX T ps = some vs → PR φ vs (ps.map fun (i, x) => (i, a.eval x))
  | [], vs, _, h => by
    have h := (Option.some.inj h).symm
    subst h; trivial
  | (i, x) :: ps, vs, ho, h => by
    unfold evpX at h
    split at h
    · rename_i v us hv hus
      have h := (Option.some.inj h).symm
      subst h
      exact ⟨rfl, ho x (by simp) v hv, evp_ok (fun y hy => ho y (List.mem_cons_of_mem _ hy)) hus⟩
    · cases h
theorem evo_ok {x : Option Operand} {r : Option Value} (ho : ∀ y ∈ x, ∀ v, evX T y = some v → mv φ v = some (a.eval y)) (h : evoX T x = some r) : (r = none ∧ x.map a.eval = none) ∨ ∃ v v', r = some v ∧ x.map a.eval = some v' ∧ mv φ v = some v' := by
  cases x with
  | none => exact .inl ⟨(Option.some.inj h).symm, rfl⟩
  | some y =>
    unfold evoX at h
    simp only at h
    split at h
    · rename_i v hv
      exact .inr ⟨v, _, (Option.some.inj h).symm, rfl, ho y rfl v hv⟩
    · cases h
end

section
variable {call : CallX} {o : Oper} {T : Tr} {H : Heap} {D : Dfr} {φ : Env} {a : Act} {w : World} {K : Act → World → Prop} {Q : Exit → Act → World → Prop} {β : Type} {k : Value → Heap → Dfr → Option β} {r : β}
theorem fill_len : ∀ {ps : List (Nat × Value)} {zs cs : List Value}, fillX zs ps = some cs → cs.length = zs.length
  | [], zs, cs, h => by rw [← Option.some.inj h]
  | (i, v) :: ps, zs, cs, h => by
    unfold fillX at h
    split at h
    · split at h
      · rw [setLK_eq] at h
        rw [fill_len h, List.length_set]
      · cases h
    · cases h
theorem mv_of1 {v u : Value} (h : mv1 φ v = some u) : mv φ v = some u := by
  unfold mv
  split
  · unfold mv1 at h
    simp only at h
    unfold mv0 at h
    cases h
  · unfold mv1 at h
    simp only at h
    unfold mv0 at h
    cases h
  · exact h
theorem u2 : Tryz.prog.underlying 2 = some (.int .i64) := by kernel_rfl
theorem u3 : Tryz.prog.underlying 3 = some (.int .i64) := by kernel_rfl
theorem u5 : Tryz.prog.underlying 5 = some (.int .u8) := by kernel_rfl
theorem u24 : Tryz.prog.underlying 24 = some (.int .u32) := by kernel_rfl
theorem u47 : Tryz.prog.underlying 47 = some (.int .u64) := by kernel_rfl
theorem u59 : Tryz.prog.underlying 59 = some (.int .u64) := by kernel_rfl
theorem u137 : Tryz.prog.underlying 137 = some (.int .u64) := by kernel_rfl
theorem kind_und {t : Nat} {k : IntKind} (h : kindX t = some k) : Tryz.prog.underlying t = some (.int k) := by
  unfold kindX at h
  split at h
  · have h := Option.some.inj h; subst h; exact u2
  · have h := Option.some.inj h; subst h; exact u3
  · have h := Option.some.inj h; subst h; exact u5
  · have h := Option.some.inj h; subst h; exact u24
  · have h := Option.some.inj h; subst h; exact u47
  · have h := Option.some.inj h; subst h; exact u59
  · have h := Option.some.inj h; subst h; exact u137
  · cases h
theorem run_conv {s d : Nat} {kd : IntKind} {n : Int} {v : Value} (h : convX s d n = some v) (w : World) : (convert s d (.int kd n)).run Tryz.prog w = .ok v w ∧ flat v = true := by
  unfold convX at h
  split at h
  · rename_i k1 k2 h1 h2
    have h := retI_of h
    subst h
    refine ⟨?_, rfl⟩
    simp only [convert, Sem.run_bind, run_und (kind_und h1), run_und (kind_und h2), Result.andThen_ok, Conv.intToInt, Sem.run_pure]
  · cases h
theorem run_callv {o : Oper} {a : Act} {f : FuncId} {args : Array Operand} {ts : Array TypeId} (ho : o.op = .call ⟨.value (.func f), args, ts⟩) (w : World) : (execOp a.eval o).run Tryz.prog w = (callFunc f ⟨args.toList.map a.eval⟩).run Tryz.prog w := by
  unfold execOp
  simp only [ho, resolve, Deferred.ofValue, Act.eval, Sem.run_bind, Sem.run_pure, Result.andThen_ok, invoke]
  congr 2
  apply Array.ext'
  simp
theorem run_callb {o : Oper} {a : Act} {b : Builtin} {args : Array Operand} {ts : Array TypeId} (ho : o.op = .call ⟨.builtin b, args, ts⟩) (w : World) : ∃ cs, (execOp a.eval o).run Tryz.prog w = (builtin b ts o.type cs ⟨args.toList.map a.eval⟩).run Tryz.prog w := by
  refine ⟨args.map fun | .const _ => true | _ => false, ?_⟩
  unfold execOp
  simp only [ho, resolve, Sem.run_bind, Sem.run_pure, Result.andThen_ok, invoke]
  congr 2
  apply Array.ext'
  simp
theorem run_calli {o : Oper} {a : Act} {x : Operand} {m : String} {ts : Array TypeId} (ho : o.op = .call ⟨.invoke x m, #[], ts⟩) (w : World) : (execOp a.eval o).run Tryz.prog w = (callMethod (a.eval x) m #[]).run Tryz.prog w := by
  unfold execOp
  simp only [ho, resolve, Sem.run_bind, Sem.run_pure, Result.andThen_ok, invoke]
  simp
theorem run_def {o : Oper} {a : Act} {f : FuncId} {args : Array Operand} {ts : Array TypeId} (ho : o.op = .defer ⟨.value (.func f), args, ts⟩) (w : World) : (execOp a.eval o).run Tryz.prog w = .ok (.defer ⟨.fn (.func f) #[], ⟨args.toList.map a.eval⟩⟩) w := by
  unfold execOp
  simp only [ho, resolve, Deferred.ofValue, Act.eval, Sem.run_bind, Sem.run_pure, Result.andThen_ok]
  congr 3
  apply Array.ext'
  simp
/-- What stands behind an operation. -/
def Next (k : Value → Heap → Dfr → Option β) (r : β) (φ : Env) (a : Act) (w : World) (d : Option Tmp) (K : Act → World → Prop) : Prop :=
  ∀ (v : Value) (H' : Heap) (D' : Dfr) (ψ : Env) (v' : Value) (a' : Act) (w' : World), k v H' D' = some r → EX φ ψ w → WR ψ H' w' → FR φ w w' → mv ψ v = some v' → DR ψ D' a'.defers → a'.tmps = a.tmps → K (a'.put d v') w'
theorem op_sound (hc : CallOk call) (h : opX call o.op T H D k = some r) (hO : OpOk φ T a o.op) (hW : WR φ H w) (hD : DR φ D a.defers) (hK : Next k r φ a w o.dst K) : o.wp Tryz.prog a w K Q := by
  have fin : ∀ v v', (execOp a.eval o).run Tryz.prog w = .ok (.value v') w → k v H D = some r → mv φ v = some v' → o.wp Tryz.prog a w K Q := fun v v' hr hk hm =>
    wp_v hr (hK v H D φ v' a w hk (EX.refl _ _) hW (FR.refl _ _) hm hD rfl)
  cases ho : o.op <;> rw [ho] at h hO <;> simp only [opX] at h
  case move x =>
    split at h
    · rename_i v hv
      exact fin v _ (by unfold execOp; simp only [ho]; rfl) h (hO x (by simp [Op.operands]) v hv)
    · cases h
  case assign x =>
    split at h
    · rename_i v hv
      exact fin v _ (by unfold execOp; simp only [ho]; rfl) h (hO x (by simp [Op.operands]) v hv)
    · cases h
  case pick c x y =>
    split at h
    · rename_i hcv
      have e := mv_bool (hO c (by simp [Op.operands]) _ hcv)
      split at h
      · rename_i v hv
        exact fin v _ (by unfold execOp; simp only [ho, e]; rfl) h (hO x (by simp [Op.operands]) v hv)
      · cases h
    · rename_i hcv
      have e := mv_bool (hO c (by simp [Op.operands]) _ hcv)
      split at h
      · rename_i v hv
        exact fin v _ (by unfold execOp; simp only [ho, e]; rfl) h (hO y (by simp [Op.operands]) v hv)
      · cases h
    · cases h
  case alloc t =>
    split at h
    · rename_i cs hz
      obtain ⟨h1, h2, h3, _⟩ := zero_of hz
      obtain ⟨m1, m2⟩ := mvs_flat (φ := φ) h2
      obtain ⟨ψ, g1, g2, g3, g4, g5⟩ := new_ok hW h m1 m2 [] (by simp; omega)
      rw [List.append_nil] at g3 g4
      exact wp_new h1 ho (hK _ _ _ ψ _ a _ g1 g2 g3 g4 (mv_ptr' g5) (hD.mono g2.1) rfl)
    · cases h
  case box t x =>
    split at h
    · rename_i zs cs hz hx
      split at h
      · rename_i hcc
        rw [Bool.and_eq_true] at hcc
        obtain ⟨_, _, h3, _⟩ := zero_of hz
        have hl := Nat.eq_of_beq_eq_true hcc.1
        obtain ⟨us, hus, e⟩ := mv_agg (hO x (by simp [Op.operands]) _ hx)
        have hul := mvs_len hus
        obtain ⟨ψ, g1, g2, g3, g4, g5⟩ := new_ok hW h hus hcc.2 [] (by simp; omega)
        rw [List.append_nil] at g3 g4
        exact wp_box e ho (hK _ _ _ ψ _ a _ g1 g2 g3 g4 (mv_ptr' g5) (hD.mono g2.1) rfl)
      · cases h
    · cases h
  case build t ps =>
    split at h
    · rename_i zs vs hz hvs
      split at h
      · cases h
      · rename_i h198
        split at h
        · rename_i cs hcs
          have hr : PR φ vs (ps.map fun (i, x) => (i, a.eval x)).toList := by
            rw [Array.toList_map]
            exact evp_ok (fun x hx => hO x (by simpa [Op.operands] using hx)) hvs
          obtain ⟨us, e1, e2⟩ := run_build (w := w) hz (fun e => h198 (by subst e; rfl)) (fun e => h198 (by subst e; rfl)) hcs hr
          refine fin _ _ (by unfold execOp; simp only [ho]; exact run_v e1) h ?_
          show (match mvs φ cs with | some l => some (Value.agg ⟨l⟩) | none => none) = _
          rw [e2]
        · cases h
    · cases h
  case buildSlice t n ps =>
    split at h
    · rename_i e z vs he hvs
      split at h
      · rename_i hn
        rw [Bool.and_eq_true] at hn
        have hn0 := blt_of hn.1
        have hn1 := Nat.le_of_ble_eq_true hn.2
        rw [repK_eq, List.append_nil] at h
        split at h
        · rename_i cs hcs
          have hr : PR φ vs (ps.map fun (i, x) => (i, a.eval x)).toList := by
            rw [Array.toList_map]
            exact evp_ok (fun x hx => hO x (by simpa [Op.operands] using hx)) hvs
          obtain ⟨hu, hs, hz, hf, hzc⟩ := und_of he
          obtain ⟨us, e1, e2, e3⟩ := fill_ok (place := fun i => some (i * 1, 1)) vs _ _ cs _ (fun i _ => by rw [Nat.mul_one]) hcs hr (mvs_rep hf n) (all_rep hf n)
          have hcl : us.length = n := by
            have := mvs_len e2
            have := fill_len hcs
            simp at this; omega
          obtain ⟨ψ, g1, g2, g3, g4, g5⟩ := new_ok hW h e2 e3 [] (by simp; omega)
          rw [List.append_nil] at g3 g4
          have hrun : (Instr.buildSlice t n (ps.map fun (i, x) => (i, a.eval x))).run Tryz.prog w = .ok (.slice (some ⟨w.heap.size, 0, none⟩) n n) (w.alloc (.cells ⟨us⟩ e)) := by
            have b1 : ¬ n * 1 > 2 ^ 24 := by omega
            have b2 : ¬ n * 1 = 0 := by omega
            have b3 : ((Array.range (n * 1)).map fun j => (#[z] : Array Value)[j % (#[z] : Array Value).size]!) = ⟨List.replicate n z⟩ := by
              rw [Nat.mul_one]
              have := zero_rep (z := z) n
              unfold Builtin.zeroCells at this
              simpa using this
            simp only [Instr.buildSlice, Sem.run_bind, run_und hu, Result.andThen_ok, hs, b1, if_false, b2, hz, hzc, Sem.run_pure, b3, e1, newRow, run_newObj]
            rfl
          refine wp_v (by unfold execOp; simp only [ho]; exact run_v hrun) (hK _ _ _ ψ _ a _ g1 g2 g3 g4 ?_ (hD.mono g2.1) rfl)
          exact mv_slice' g5 (by unfold BIG; omega)
        · cases h
      · cases h
    · cases h
  case load t x =>
    split at h
    · rename_i b off hx
      split at h
      · rename_i ht
        split at h
        · rename_i v hv
          obtain ⟨p, hp, e⟩ := mv_ptr (hO x (by simp [Op.operands]) _ hx)
          obtain ⟨q, y, hq, hc, hm, h1⟩ := hW.cell hv
          rw [hp] at hq
          have hq := Option.some.inj hq
          subst hq
          exact fin v y (by unfold execOp; simp only [ho, e]; exact run_v (run_ld ht hc)) h (by rw [mv_one h1]; exact hm)
        · cases h
      · cases h
    · cases h
  case store t x y =>
    split at h
    · rename_i b off v hx hy
      split at h
      · rename_i htv
        rw [Bool.and_eq_true] at htv
        obtain ⟨p, hp, e⟩ := mv_ptr (hO x (by simp [Op.operands]) _ hx)
        have em := hO y (by simp [Op.operands]) _ hy
        rw [mv_one htv.2] at em
        obtain ⟨B, z, hB, hz, hk⟩ := putX_at h
        obtain ⟨q, y', hq, hc, hf, hW', hF⟩ := hW.put hB hz em htv.2
        rw [hp] at hq
        have hq := Option.some.inj hq
        subst hq
        obtain ⟨c1, c2⟩ := one_cell htv.2 em
        exact wp_s (by unfold execOp; simp only [ho, e]; exact run_u (run_st htv.1 hc hf c1 c2)) (hK _ _ _ φ undef a _ hk (EX.refl _ _) hW' hF rfl hD rfl)
      · cases h
    · cases h
  case nilCheck x =>
    split at h
    · rename_i ad hx
      have em := hO x (by simp [Op.operands]) _ hx
      obtain ⟨b, off, p, rfl, hp, e⟩ := addr_of em
      exact fin _ _ (by unfold execOp; simp only [ho, e]; rfl) h (mv_ptr' hp)
    · cases h
  case binOp op t x y yt =>
    split at h
    · rename_i v u hv hu
      split at h
      · rename_i hl
        split at h
        · rename_i res hr
          rw [valK_eq] at h
          obtain ⟨e1, e2⟩ := run_bin hW hr hl (hO x (by simp [Op.operands]) _ hv) (hO y (by simp [Op.operands]) _ hu)
          exact fin _ _ (by unfold execOp; simp only [ho]; exact run_v e1) h (mv_flat e2)
        · cases h
      · cases h
    · cases h
  case unOp op t x =>
    split at h
    · rename_i v hv
      split at h
      · rename_i res hr
        rw [valK_eq] at h
        have em := hO x (by simp [Op.operands]) _ hv
        obtain ⟨e1, e2⟩ := run_un hr w
        have hfl : flat v = true := by
          unfold unX at hr
          split at hr <;> first | rfl | cases hr
        rw [mv_flat hfl] at em
        have em := Option.some.inj em
        exact fin _ _ (by unfold execOp; simp only [ho, ← em]; exact run_v e1) h (mv_flat e2)
      · cases h
    · cases h
  case convert s d x =>
    split at h
    · rename_i kd n hx
      split at h
      · rename_i res hr
        rw [valK_eq] at h
        have em := mv_int (hO x (by simp [Op.operands]) _ hx)
        obtain ⟨e1, e2⟩ := run_conv (s := s) (kd := kd) hr w
        exact fin _ _ (by unfold execOp; simp only [ho, em]; exact run_v e1) h (mv_flat e2)
      · cases h
    · cases h
  case makeInterface t x =>
    split at h
    · rename_i ad hx
      split at h
      · rename_i ht
        have ht := Nat.eq_of_beq_eq_true ht
        subst ht
        obtain ⟨b, off, p, rfl, hp, e⟩ := addr_of (hO x (by simp [Op.operands]) _ hx)
        refine fin _ _ (by unfold execOp; simp only [ho, e]; exact run_v (run_makeInterface w 139 _ conc139)) h ?_
        show (match mv0 φ (.pointer (some ⟨b, off, none⟩)) with | some v => some (Value.iface 139 v) | none => none) = _
        have : mv0 φ (.pointer (some ⟨b, off, none⟩)) = some (.pointer (some ⟨p.1, off, none⟩)) := mv_ptr' hp
        rw [this]
      · cases h
    · cases h
  case makeSlice t l c =>
    split at h
    · rename_i ln cn e z hl hcv he
      split at h
      · rename_i hlc
        rw [Bool.and_eq_true] at hlc
        have h1 := Nat.le_of_ble_eq_true hlc.1
        have h2 := Nat.le_of_ble_eq_true hlc.2
        rw [repK_eq, List.append_nil] at h
        have e1 := mv_int (hO l (by simp [Op.operands]) _ hl)
        have e2 := mv_int (hO c (by simp [Op.operands]) _ hcv)
        have hf := (und_of he).2.2.2.1
        obtain ⟨ψ, g1, g2, g3, g4, g5⟩ := new_ok hW h (mvs_rep hf cn) (all_rep hf cn) [] (by simp; omega)
        rw [List.append_nil] at g3 g4
        refine wp_v (by unfold execOp; simp only [ho, e1, e2]; exact run_v (run_mk he h1 h2)) (hK _ _ _ ψ _ a _ g1 g2 g3 g4 ?_ (hD.mono g2.1) rfl)
        exact mv_slice' g5 (by unfold BIG; omega)
      · cases h
    · cases h
  case slice t x lo hi mx =>
    split at h
    · rename_i e v l1 h1 m1 he hx hlo hhi hmx
      split at h
      · rename_i res hr
        rw [valK_eq] at h
        obtain ⟨r', e1, e2⟩ := run_slice (w := w) (e := e.1) (z := e.2) he hr (hO x (by simp [Op.operands]) _ hx) (evo_ok (fun y hy => hO y (by cases hy; simp [Op.operands])) hlo) (evo_ok (fun y hy => hO y (by cases hy; simp [Op.operands])) hhi) (evo_ok (fun y hy => hO y (by cases hy; simp [Op.operands])) hmx)
        exact fin _ _ (by unfold execOp; simp only [ho]; exact run_v e1) h e2
      · cases h
    · cases h
  case fieldAddr t x i =>
    split at h
    · rename_i b off j hx hj
      rw [natK_eq] at h
      obtain ⟨p, hp, e⟩ := mv_ptr (hO x (by simp [Op.operands]) _ hx)
      exact fin _ _ (by unfold execOp; simp only [ho, e]; exact run_v (run_fa hj)) h (mv_ptr' hp)
    · cases h
  case indexAddr t x i =>
    split at h
    · rename_i b off n c kd j hx hi
      split at h
      · rename_i e he
        split at h
        · rename_i hj
          rw [natK_eq] at h
          obtain ⟨p, c', hp, em, _⟩ := mv_slice (hO x (by simp [Op.operands]) _ hx)
          have ei := mv_int (hO i (by simp [Op.operands]) _ hi)
          exact fin _ _ (by unfold execOp; simp only [ho, em, ei]; exact run_v (run_ix (e := e.1) (z := e.2) he (blt_of hj))) h (mv_ptr' hp)
        · cases h
      · cases h
    · rename_i b off kd j hx hi
      split at h
      · rename_i hj
        rw [Bool.and_eq_true] at hj
        have ht := Nat.eq_of_beq_eq_true hj.1
        subst ht
        rw [natK_eq] at h
        obtain ⟨p, hp, em⟩ := mv_ptr (hO x (by simp [Op.operands]) _ hx)
        have ei := mv_int (hO i (by simp [Op.operands]) _ hi)
        exact fin _ _ (by unfold execOp; simp only [ho, em, ei]; exact run_v (run_ix72 (blt_of hj.2))) h (mv_ptr' hp)
      · cases h
    · cases h
  case index t x i =>
    split at h
    · rename_i s kd n hx hi
      split at h
      · rename_i ht
        have ht := Nat.eq_of_beq_eq_true ht
        subst ht
        split at h
        · rename_i res hr
          rw [valK_eq] at h
          obtain ⟨e1, e2⟩ := run_at (w := w) (k := kd) hr
          have em := (Option.some.inj (hO x (by simp [Op.operands]) _ hx)).symm
          have ei := mv_int (hO i (by simp [Op.operands]) _ hi)
          exact fin _ _ (by unfold execOp; simp only [ho, em, ei]; exact run_v e1) h (mv_flat e2)
        · cases h
      · cases h
    · cases h
  case extract x i =>
    split at h
    · rename_i vs hx
      rw [getL_eq] at h
      split at h
      · rename_i v hv
        obtain ⟨us, hus, em⟩ := mv_tuple (hO x (by simp [Op.operands]) _ hx)
        obtain ⟨u, hu, hm⟩ := mvs_at hus hv
        refine fin v u ?_ h (mv_of1 hm)
        unfold execOp
        simp only [ho, em]
        refine run_v ?_
        show (match (us.toArray)[i]? with | some v => pure v | none => stuck "Extract: no such component" : Sem Value).run Tryz.prog w = _
        rw [List.getElem?_toArray, hu]; rfl
      · cases h
    · cases h
  case call c =>
    obtain ⟨ce, args, ts⟩ := c
    cases ce with
    | builtin b =>
      simp only at h
      split at h
      · rename_i vs hvs
        split at h
        · rename_i h1
          have hm := evs_ok (φ := φ) (a := a) (fun x hx => hO x (by simpa [Op.operands, Call.operands] using hx)) hvs (fun v hv => List.all_eq_true.1 h1 v hv)
          obtain ⟨cs, hrun⟩ := run_callb (a := a) ho w
          split at h
          · split at h
            · rename_i v hv
              rw [valK_eq] at h
              obtain ⟨e1, e2⟩ := pure_ok (w := w) hv hm o.type cs
              exact wp_v (hrun.trans e1) (hK v H D φ v a w h (EX.refl _ _) hW (FR.refl _ _) e2 hD rfl)
            · cases h
          obtain ⟨v, v', ψ, H', w', e1, e2, e3, e4, e5, e6⟩ := built_ok hW h hm o.type cs
          rw [valK_eq] at e2
          exact wp_v (hrun.trans e1) (hK v H' D ψ v' a w' e2 e3 e4 e5 e6 (hD.mono e3.1) rfl)
        · cases h
      · cases h
    | value x =>
      cases x with
      | func f =>
        simp only at h
        split at h
        · rename_i vs hvs
          split at h
          · rename_i h1
            have hm := evs_ok (φ := φ) (a := a) (fun x hx => hO x (by simp only [Op.operands, Call.operands, Array.toList_append]; exact List.mem_append_right _ hx)) hvs (fun v hv => List.all_eq_true.1 h1 v hv)
            have hrun := run_callv (a := a) ho w
            split at h
            · split at h
              · rename_i v hv
                exact ext_wp hW hv hm hrun fun q v' hv' => hK v H D φ v' a (w.drewN q) h (EX.refl _ _) (hW.drewN q) (FR.drewN φ w q) hv' hD rfl
              · cases h
            · split at h
              · rename_i v H' hcall
                obtain ⟨c1, c2⟩ := hc f vs H v H' hcall
                unfold Oper.wp
                rw [hrun, c1]
                refine (c2 φ w _ hW hm).mono ?_
                rintro e w' ⟨ψ, v', rfl, e1, e2, e3, e4⟩
                exact hK v H' D ψ v' a w' h e2 e3 e4 e1 (hD.mono e2.1) rfl
              · cases h
          · cases h
        · cases h
      | _ => simp only at h; cases h
    | invoke x m =>
      simp only at h
      split at h
      · rename_i ad hx hargs
        have hA : args = #[] := by
          obtain ⟨l⟩ := args
          cases l with
          | nil => rfl
          | cons y l =>
            simp only at hargs
            unfold evsX at hargs
            split at hargs <;> cases hargs
        subst hA
        have hrun := run_calli (a := a) ho w
        have em := hO x (by simp [Op.operands, Call.operands]) _ hx
        obtain ⟨b, off, p, rfl, hp, e⟩ := addr_ofI (by decide) em
        have hvs : mvs φ [.pointer (some ⟨b, off, none⟩)] = some [.pointer (some ⟨p.1, off, none⟩)] := by
          have : mv1 φ (.pointer (some ⟨b, off, none⟩)) = some (.pointer (some ⟨p.1, off, none⟩)) := mv_ptr' hp
          unfold mvs
          rw [this]; rfl
        split at h
        · rename_i hmm
          have hmm := eq_of_beq hmm
          subst hmm
          split at h
          · rename_i v H' hcall
            obtain ⟨c1, c2⟩ := hc 210 _ H v H' hcall
            unfold Oper.wp
            rw [hrun, e, inv_read]
            refine (c2 φ w _ hW hvs).mono ?_
            rintro e w' ⟨ψ, v', rfl, e1, e2, e3, e4⟩
            exact hK v H' D ψ v' a w' h e2 e3 e4 e1 (hD.mono e2.1) rfl
          · cases h
        · split at h
          · rename_i hmm
            have hmm := eq_of_beq hmm
            subst hmm
            split at h
            · rename_i v H' hcall
              obtain ⟨c1, c2⟩ := hc 211 _ H v H' hcall
              unfold Oper.wp
              rw [hrun, e, inv_unread]
              refine (c2 φ w _ hW hvs).mono ?_
              rintro e w' ⟨ψ, v', rfl, e1, e2, e3, e4⟩
              exact hK v H' D ψ v' a w' h e2 e3 e4 e1 (hD.mono e2.1) rfl
            · cases h
          · cases h
      · cases h
  case defer c =>
    obtain ⟨ce, args, ts⟩ := c
    cases ce with
    | value x =>
      cases x with
      | func f =>
        simp only at h
        split at h
        · rename_i vs hvs
          split at h
          · rename_i h1
            have hm := evs_ok (φ := φ) (a := a) (fun x hx => hO x (by simp only [Op.operands, Call.operands, Array.toList_append]; exact List.mem_append_right _ hx)) hvs (fun v hv => List.all_eq_true.1 h1 v hv)
            unfold Oper.wp
            rw [run_def ho w]
            exact hK _ H _ φ undef { a with defers := ⟨.fn (.func f) #[], ⟨args.toList.map a.eval⟩⟩ :: a.defers } w h (EX.refl _ _) hW (FR.refl _ _) rfl ⟨⟨_, hm, rfl⟩, hD⟩ rfl
          · cases h
        · cases h
      | _ => simp only at h; cases h
    | _ => simp only at h; cases h
  all_goals cases h
end
end Go.Proofs.YtiegapnfbeemcaaGreatDoor.X
