/- The reference's block, its xor, its padding; two rows of bytes compared. No condition but where things lie. The reference's padding; a row that is loaded whole. No condition. -/
import Derived.Test.YtkfagcpboehjjaaDoorSpe
import Derived.Test.YtkfagcpboehjjaaDoorSpf
import Derived.Test.YtkfagcpboehjjaaDoorModw
namespace Go.Proofs.YtkfagcpboehjjaaDoor
set_option maxRecDepth 100000
open Go.RowKit

theorem same_any (A : Option Addr) (n c : Nat) (B : Option Addr) (m d : Nat) (l : List Int) (w : World) (h1 : Reads w w.heap.size 1 A n (l.map (Value.int .u8))) (h2 : Reads w w.heap.size 1 B m (l.map (Value.int .u8))) :
    Calls Tryd.prog 9 #[.slice A n c, .slice B m d] w fun e w' => e = .returned (.bool true) ∧ w = w' := by
  have e1 := run_string A n c l w h1
  have e2 := run_string B m d l w h2
  clear h1 h2
  go_enter Tryd.func9, Tryd.ntmps9
  go_wp2
  go_ret
  exact ⟨by simp, rfl⟩

/-- n bytes come back, in a block of their own. -/
def GotS (n : Nat) (F : Nat → Int) (w : World) (e : Ending) (w' : World) : Prop := ∃ g c, e = .returned (.slice (some ⟨g, 0, none⟩) n c) ∧ n ≤ c ∧ w.heap.size ≤ g ∧ ArrB w' g n F ∧ Only [] w w'
theorem GotB.gotS {n : Nat} {F : Nat → Int} {w : World} {e : Ending} {w' : World} (h : GotB n F w e w') : GotS n F w e w' := let ⟨g, h1, h2, h3, h4⟩ := h; ⟨g, n, h1, Nat.le_refl _, h2, h3, h4⟩
theorem fst_getD (n : Nat) (F : Nat → Int) (j : Nat) (h : j < n) : (fst n F).getD j 0 = F j := by
  unfold fst
  rw [List.getD_eq_getElem?_getD, List.getElem?_map, List.getElem?_range h]
  rfl
theorem OwnB.arr {w : World} {base : Nat} {v : Value} {n : Nat} {F : Nat → Int} (h : OwnB w base v (fst n F)) (hn : 0 < n) : ∃ g c, v = .slice (some ⟨g, 0, none⟩) n c ∧ n ≤ c ∧ base ≤ g ∧ ArrB w g n F := by
  obtain ⟨g, c, rfl, _⟩ := h.form (by rw [fst_length]; exact hn)
  obtain ⟨h1, h2, _, h3⟩ := ArrB.of_own h
  rw [fst_length] at h2 h3 ⊢
  exact ⟨g, c, rfl, h2, h1, h3.congr fun j hj => fst_getD n F j hj⟩
/-- Back or forth. -/
def DE (b : Bool) (rk f : Nat → Int) : Nat → Int := if b then D rk f else E rk f
theorem DE_bf (b : Bool) (rk f : Nat → Int) : Bf (DE b rk f) := by
  cases b
  · exact E_bf _ _
  · exact D_bf _ _
theorem crypt_any (b : Bool) (cs : Array Value) (rk : Nat → Int) (ad : Addr) (n c : Nat) (f : Nat → Int) (w : World) (hsz : cs.size = 32) (hcell : ∀ j, j < 32 → cs[j]? = some (.int .u32 (rk j))) (hn : 16 ≤ n) (hc : n ≤ c) (hs : Src w ad 16 f) (hf : Bf f) (hl : ad.block < w.heap.size) :
    Calls Tryd.prog 25 #[.agg cs, .slice (some ad) n c, .bool b] w (GotS 16 (DE b rk f) w) := by
  have key : ∀ F, ∀ e w', RetBytes w (fst 16 F) e w' → GotS 16 F w e w' := fun F e w' ⟨v, he, hown, hb⟩ => by
    obtain ⟨g, c, rfl, h1, h2, h3⟩ := hown.arr (by omega)
    exact ⟨g, c, he, h1, h2, h3, Only.of_below hb (Nat.le_refl _)⟩
  cases b
  · exact (cryptf_any cs rk ad n c f w hsz hcell hn hc hs hf hl).mono (key _)
  · exact (cryptb_any cs rk ad n c f w hsz hcell hn hc hs hf hl).mono (key _)
theorem block_any (b : Bool) (K : Addr) (ck : Nat) (kf : Nat → Int) (ad : Addr) (n c : Nat) (f : Nat → Int) (w : World) (hK : Src w K 16 kf) (hKf : Bf kf) (hck : 16 ≤ ck) (hKl : K.block < w.heap.size)
    (hn : 16 ≤ n) (hc : n ≤ c) (hs : Src w ad 16 f) (hf : Bf f) (hl : ad.block < w.heap.size) :
    Calls Tryd.prog 10 #[.slice (some K) 16 ck, .slice (some ad) n c, .bool b] w (GotS 16 (DE b (keyF kf) f) w) := by
  go_enter Tryd.func10, Tryd.ntmps10
  go_wp2_with fail
  refine (rounds_any K 16 ck kf w (by omega) hck hK hKf hKl).mono ?_
  rintro e w1 ⟨cs, rfl, hsz, hcell, ho⟩
  go_wp2_with fail
  refine (crypt_any b cs (keyF kf) ad n c f w1 hsz hcell hn hc (hs.only ho hl (by simp)) hf (Nat.lt_of_lt_of_le hl ho.size)).mono ?_
  rintro e w2 ⟨g, c2, rfl, h1, h2, h3, ho2⟩
  go_wp2_with fail
  go_ret
  exact ⟨g, c2, rfl, h1, Nat.le_trans ho.size h2, h3, ho.trans ho2⟩
theorem sxor_any (A B : Addr) (c m d : Nat) (f q : Nat → Int) (w : World) (hm : 16 ≤ m) (hA : Src w A 16 f) (hB : Src w B 16 q) (la : A.block < w.heap.size) (lb : B.block < w.heap.size) :
    Calls Tryd.prog 35 #[.slice (some A) 16 c, .slice (some B) m d] w (GotS 16 (xb f q) w) := by
  have m1 := makeB16
  go_enter Tryd.func35, Tryd.ntmps35
  go_wp2_with fail
  go_loopw [12] (fun i wr => ∃ k : Nat, k ≤ 16 ∧ i = .int .i64 k ∧ Only [] w wr ∧ ArrB wr w.heap.size 16 (fun j => if j < k then xb f q j else 0)) (fun i _ => 16 - (intOf i).toNat)
  case atStart => exact ⟨0, by omega, rfl, (Only.refl _ _).alloc _, (ArrB.new w 16).congr (by intro j _; simp)⟩
  case round =>
    obtain ⟨k, hk, rfl, ho, hb⟩ := hrel
    by_cases hlt : k < 16
    · obtain ⟨x, cx, HX⟩ : ∃ x, wr.cell? (A.add k) = some (.int .u8 x) ∧ Hid (x = f k) := ⟨_, (hA.only ho la (by simp)) k hlt, Lib.hid rfl⟩
      obtain ⟨y, cy, HY⟩ : ∃ x, wr.cell? (B.add k) = some (.int .u8 x) ∧ Hid (x = q k) := ⟨_, (hB.only ho lb (by simp)) k hlt, Lib.hid rfl⟩
      obtain ⟨old, cold⟩ : ∃ o, wr.cell? ⟨w.heap.size, k, none⟩ = some (.int .u8 o) := ⟨_, hb.cell hlt⟩
      have fz := hb.frozen k
      have l1 : (k : Int) < 16 := by omega
      have l2 : (k : Int) < (m : Int) := by omega
      obtain ⟨z, hz, ez, HZ⟩ : ∃ z, (0 ≤ z ∧ z ≤ 255) ∧ bits .xor .u8 x y = z ∧ Hid (z = bits .xor .u8 x y) := ⟨_, u8_bits _ _ _, rfl, Lib.hid rfl⟩
      go_wp2_with fail
      refine region_quiet_tail 12 (by kernel_rfl) (by kernel_rfl) ?_
      simp only [List.take_succ_cons, List.take_zero, List.drop_succ_cons, List.drop_zero]
      repeat (quiet_step (fail))
      refine wpQuiet_nil ?_
      intro _ hw'
      obtain ⟨nq, rfl⟩ := hw'
      go_wp2_with fail
      go_roundw
      case rel =>
        refine ⟨k + 1, by omega, by go_num, (ho.drewN nq).setCell (p := ⟨w.heap.size, k, none⟩) (fun h => absurd h (Nat.lt_irrefl _)) _, (hb.drewN nq).set_ k z fun j hj => ?_⟩
        by_cases hjk : j = k
        · subst hjk
          rw [if_pos (by omega), if_pos rfl, HZ.out, HX.out, HY.out]
          rfl
        · rw [if_neg hjk]
          by_cases h2 : j < k
          · rw [if_pos (by omega), if_pos h2]
          · rw [if_neg (by omega), if_neg h2]
      case measure => simp [intOf]; omega
    · obtain rfl : k = 16 := by omega
      go_wp2_with fail
      go_ret
      exact ⟨_, _, rfl, Nat.le_refl _, Nat.le_refl _, hb.congr (fun j hj => if_pos hj), ho⟩
end Go.Proofs.YtkfagcpboehjjaaDoor

namespace Go.Proofs.YtkfagcpboehjjaaDoor
set_option maxRecDepth 100000
open Go.RowKit

theorem wpQuiet_load_row {P : Program} {ops : Array Oper} {C : World → Prop} {Q : Act → Prop} {a : Act} {o : Oper} {rest : List Oper} (hg : o.guard = none) (ty : TypeId) (x : Operand) (ho : o.op = .load ty x) (g : Nat) (hx : a.eval x = .pointer (some ⟨g, 0, none⟩))
    (t : TypeId) (cs : Array Value) (fr : Nat × Nat) (d : TypeDesc) (hrow : ∀ w, C w → w.heap[g]? = some (.cells cs t fr)) (hu : P.underlying ty = some d) (hd : (match d with | .struct _ | .array _ _ => true | _ => false) = true) (hi : (P.info? ty).map (·.size) = some cs.size)
    (h : wpQuiet P ops C Q rest (a.put o.dst (.agg cs))) : wpQuiet P ops C Q (o :: rest) a := by
  have hw : Region.wanted o (yielded ops a.tmps) = true := by simp [Region.wanted, hg]
  unfold wpQuiet
  rw [if_pos hw]
  refine ⟨.agg cs, fun w hw => ?_, h⟩
  unfold Oper.quietAt execOp
  simp only [ho, hx, Instr.loadAt, Instr.sureAddr, Sem.run_bind, Sem.run_pure, Result.andThen_ok, run_loadVar_row w g t ty cs fr d (hrow w hw) hu hd hi]
  exact ⟨rfl, rfl⟩

set_option maxHeartbeats 1000000 in
theorem spad_any (A : Option Addr) (n c : Nat) (l : List Int) (w : World) (hl : l.length = n) (hr : Reads w w.heap.size 1 A n (l.map (Value.int .u8))) (hn : n ≤ 1000) :
    Calls Tryd.prog 12 #[.slice A n c] w (RetBytes w (padL l)) := by
  obtain ⟨r, q, e1, e2, hq1, hq2, hq3⟩ : ∃ r q : Nat, (n : Int) % 16 = (r : Int) ∧ IntKind.i64.wrap (16 - (r : Int)) = (q : Int) ∧ 1 ≤ q ∧ q ≤ 16 ∧ q = padN n :=
    ⟨n % 16, 16 - n % 16, by omega, by rw [IntWalk.i64_in _ (by omega)]; omega, by omega, by omega, rfl⟩
  have HL := Lib.hid hl
  have HQ := Lib.hid hq3
  clear hl hq3
  have e3 : 0 ≤ (n : Int) % 16 := by omega
  have l2 : (q : Int) ≤ 255 := by omega
  have hbw : Below w.heap.size w (w.alloc (.cells #[] 5)) := (Below.refl _ _).alloc (Nat.le_refl _) _
  go_enter Tryd.func12, Tryd.ntmps12
  go_wp2_with (at_builtin; refine app_bytes _ rfl (.tmp 9) (.tmp 10) rfl w.heap.size _ _ rfl (OwnB.empty w (Nat.le_refl _)) w.heap.size A n c l rfl (hr.alloc (Nat.le_refl _) _) (by simp; omega) hbw.size ?_; intro v1 w1 hown1 hb1)
  have hbel := hbw.trans hb1
  simp only [List.nil_append] at hown1
  go_loopw [13, 4] (fun i v wr => ∃ j : Nat, j ≤ q ∧ i = .int .i64 j ∧ OwnB wr w.heap.size v (l ++ List.replicate j (q : Int)) ∧ Below w.heap.size w wr) (fun i _ _ => q - (intOf i).toNat)
  case atStart => exact ⟨0, by omega, rfl, by simpa using hown1, hbel⟩
  case round =>
    obtain ⟨j, hj, rfl, hown, hb⟩ := hrel
    by_cases hlt : j < q
    · have l1 : (j : Int) < (q : Int) := by omega
      have hbs := hb.size
      go_wp2_with (at_builtin; refine app_bytes _ rfl (.tmp 15) (.tmp 18) rfl w.heap.size _ _ rfl (hown.alloc _) (wr.heap.size + 1) _ 1 1 [(q : Int)] rfl (Reads.lit wr 5 #[.int .u8 (q : Int)] (Nat.le_refl _)) (by have := HL.out; simp; omega) (by simp; omega) ?_; intro v3 w3 hown3 hb3)
      go_roundw
      case rel =>
        refine ⟨j + 1, hlt, by go_num, ?_, (hb.alloc hbs _).trans hb3⟩
        rw [List.replicate_succ', ← List.append_assoc]
        exact hown3
      case measure => simp [intOf]; omega
    · obtain rfl : j = q := by omega
      go_wp2_with fail
      go_ret
      refine ⟨_, rfl, ?_, hb⟩
      unfold padL
      rw [HL.out, ← HQ.out]
      exact hown
end Go.Proofs.YtkfagcpboehjjaaDoor
