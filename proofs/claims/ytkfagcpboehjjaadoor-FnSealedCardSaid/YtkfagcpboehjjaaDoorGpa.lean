/- The key of GCM's hash; the first counter: exactly. No condition but where things lie. -/
import Derived.Test.YtkfagcpboehjjaaDoorGin
import Derived.Test.YtkfagcpboehjjaaDoorEncr
import Derived.Test.YtkfagcpboehjjaaDoorSpm
namespace Go.Proofs.YtkfagcpboehjjaaDoor
set_option maxRecDepth 100000
open Go.RowKit

set_option maxHeartbeats 1000000 in
theorem geth_any (K : Addr) (ck : Nat) (kf : Nat → Int) (w : World) (hK : Src w K 16 kf) (hKf : Bf kf) (hKl : K.block < w.heap.size) (ht : Tabs w) (h7 : 7 ≤ w.heap.size) :
    Calls Tryd.prog 59 #[.slice (some K) 16 ck] w (GotB 16 (E (keyF kf) (fun _ => 0)) w) := by
  have m1 := makeB16
  go_enter Tryd.func59, Tryd.ntmps59
  go_wp2_with fail
  refine (newc_any K ck kf w hK hKf ht h7 hKl).mono ?_
  rintro e w1 ⟨a, gk, g, gr, rfl, hcp, ho⟩
  go_wp2_with fail
  have ha : Only [] w1 ((w1.alloc (.cells (ZB 16) 5)).alloc (.cells (ZB 16) 5)) := ((Only.refl _ _).alloc _).alloc _
  have hz := (ArrB.new w1 16).alloc (.cells (ZB 16) 5)
  have hd := ArrB.new (w1.alloc (.cells (ZB 16) 5)) 16
  rw [World.size_alloc] at hd
  obtain ⟨r1, r2, r3, r4⟩ := hcp.lt
  obtain ⟨q1, q2, q3, q4⟩ := hcp.lo
  have hs1 := ho.size
  refine (encr_any w.heap.size a gk g gr (w1.heap.size + 1) 16 ⟨w1.heap.size, 0, none⟩ (fun _ => 0) (keyF kf) _ (hcp.only ha (by simp) (by simp) (by simp) (by simp)) h7 ⟨_, hd⟩ (hz.src0 (Nat.le_refl _)) (fun _ => by show (0 : Int) ≤ 0 ∧ (0 : Int) ≤ 255; omega) ((ht.only ho h7 (by simp)).only ha (by omega) (by simp)) (by simp; omega) (by omega) (by omega) (by omega) (by omega) (by show w1.heap.size ≠ g; omega)).mono ?_
  rintro e w3 ⟨rfl, ho3, hd3, hc3⟩
  go_wp2_with fail
  go_ret
  exact ⟨_, rfl, by omega, hd3, (ho.trans ha).then_ ho3 (by intro x hx hl; simp at hx; omega)⟩

/-- append, the row the call's own: only its block turns. -/
theorem app_only {ops : Array Oper} {rest : List Oper} {o : Oper} {a : Act} {Q : Exit → Act → World → Prop} (w : World) (hgd : o.guard = none) (s x : Operand)
    (ho : o.op = .call { callee := .builtin .append, args := #[s, x], argTypes := #[22, 22] })
    (base g n cap : Nat) (l : List Int) (hs : a.eval s = .slice (some ⟨g, 0, none⟩) n cap) (hown : OwnB w base (.slice (some ⟨g, 0, none⟩) n cap) l)
    (B : Nat) (A : Option Addr) (m c : Nat) (news : List Int) (hx : a.eval x = .slice A m c) (hr : Reads w B 1 A m (news.map (Value.int .u8)))
    (hlen : l.length + m ≤ 140737488351232) (hbase : base ≤ w.heap.size)
    (h : ∀ v' w', OwnB w' base v' (l ++ news) → Only [g] w w' → wpList Tryd.prog ops Q rest (a.put o.dst v') w') : wpList Tryd.prog ops Q (o :: rest) a w := by
  obtain ⟨i0, hi, hz0, hz1, hz2⟩ := info_parts info5
  have hm : news.length = m := by have := hr.1; simpa using this
  refine wpList_append_any w hgd s x 22 ho base 5 i0 _ 1 1 Tryd.underlying22 hi hz0 hz1 hz2 rfl (by decide) _ l.length _ hs hown B A m c _ hx hr (ints_one _) (by unfold maxLen; omega) (by omega) hbase ?_
  intro v1 w1 hown1 hg1 _
  refine h v1 w1 ?_ ⟨hg1.os, hg1.tape, hg1.output, hg1.size, fun k hk hn => hg1.block k hk (fun e => hn (by simp [Value.ownBlock] at e; simp [e]))⟩
  unfold OwnB
  rw [List.length_append, List.map_append, hm]
  exact hown1

theorem gety_any (Hv : Value) (base g c : Nat) (l : List Int) (w : World) (hown : OwnB w base (.slice (some ⟨g, 0, none⟩) 12 c) l) (hl : l.length = 12) (hb : base ≤ w.heap.size) :
    Calls Tryd.prog 60 #[Hv, .slice (some ⟨g, 0, none⟩) 12 c] w (fun e w' => ∃ gy cy, e = .returned (.slice (some ⟨gy, 0, none⟩) 16 cy) ∧ base ≤ gy ∧ ArrB w' gy 16 (lF (l ++ [0, 0, 0, 1])) ∧ Only [g] w w') := by
  have hr := Reads.lit w 5 #[.int .u8 0, .int .u8 0, .int .u8 0, .int .u8 1] (B := w.heap.size + 1) (Nat.le_refl _)
  have ho1 := hown.alloc (.cells #[.int .u8 0, .int .u8 0, .int .u8 0, .int .u8 1] 5)
  have HL := Lib.hid hl
  clear hl
  go_enter Tryd.func60, Tryd.ntmps60
  go_wp2_with (at_builtin; refine app_only _ rfl (.tmp 11) (.tmp 12) rfl base g 12 c l rfl ho1 (w.heap.size + 1) _ 4 4 [0, 0, 0, 1] rfl hr (by rw [HL.out]; decide) (by simp; omega) ?_; intro v2 w2 hown2 ho2)
  go_ret
  obtain ⟨A2, c2, rfl⟩ := hown2.shaped
  have hlen : (l ++ [0, 0, 0, 1]).length = 16 := by rw [List.length_append, HL.out]; rfl
  obtain ⟨gy, cy, e1, h1, _, _, _, _⟩ := hown2.form (by rw [hlen]; decide)
  rw [e1] at hown2 ⊢
  obtain ⟨h1, _, _, h4⟩ := ArrB.of_own hown2
  rw [hlen] at h4 ⊢
  exact ⟨gy, ⟨cy, rfl⟩, h1, h4, ((Only.refl [g] w).alloc _).then_ ho2 (fun x hx _ => hx)⟩
end Go.Proofs.YtkfagcpboehjjaaDoor
