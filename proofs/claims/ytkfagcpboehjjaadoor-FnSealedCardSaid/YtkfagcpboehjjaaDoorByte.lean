/- Bytes that are copied, appended and compared. -/
import Derived.Test.YtkfagcpboehjjaaDoorRead
import Derived.Test.YtkfagcpboehjjaaDoorProg
import Derived.WalkKit
import Derived.BigQuiet
import Derived.Lib.Hide
import Derived.WalkSmall
namespace Go.Proofs.YtkfagcpboehjjaaDoor
open Go.RowKit

theorem info5 : (Tryd.prog.info? 5).map (fun i => (i.zero, i.size, i.bytes)) = some (some (.int .u8 0), 1, 1) := by kernel_rfl

/-- v is a slice of the call's own, made since base, that holds the bytes l. -/
def OwnB (w : World) (base : Nat) (v : Value) (l : List Int) : Prop := w.ownsRow base 5 1 v l.length (l.map (Value.int .u8))

theorem OwnB.empty (w : World) {base : Nat} (hb : base ≤ w.heap.size) : OwnB (w.alloc (.cells #[] 5)) base (.slice (some ⟨w.heap.size, 0, none⟩) 0 0) [] := World.ownsRow_lit _ _ _ hb (by unfold maxLen; omega) rfl
theorem OwnB.alloc {w : World} {base : Nat} {v : Value} {l : List Int} (h : OwnB w base v l) (o : Obj) : OwnB (w.alloc o) base v l := World.ownsRow.alloc h o
theorem OwnB.drewN {w : World} {base : Nat} {v : Value} {l : List Int} (h : OwnB w base v l) (n : Nat) : OwnB (w.drewN n) base v l := h
theorem OwnB.below {w w' : World} {base B : Nat} {v : Value} {l : List Int} (h : OwnB w base v l) (hb : Below B w w') (hB : w.heap.size ≤ B) : OwnB w' base v l :=
  World.ownsRow.kept (row := none) h ⟨hb.os, hb.tape, hb.output, hb.size, fun k hk _ => hb.block k (by omega)⟩ (by
    rcases h.2 with ⟨rfl, _⟩ | ⟨g, cap, cur, rfl, _⟩
    · exact .inl rfl
    · exact .inr (by simp [Value.ownBlock]))
theorem OwnB.reads {w : World} {base : Nat} {A : Option Addr} {n c : Nat} {l : List Int} (h : OwnB w base (.slice A n c) l) : n = l.length ∧ Reads w w.heap.size 1 A l.length (l.map (Value.int .u8)) := by
  have hn : n = l.length := by
    rcases h.2 with ⟨e, h0⟩ | ⟨g, cap, cur, e, _⟩
    · injection e with _ e2 _; rw [e2, h0]
    · injection e with _ e2 _
  subst hn
  exact ⟨rfl, Reads.of_own h⟩
theorem OwnB.form {w : World} {base : Nat} {v : Value} {l : List Int} (h : OwnB w base v l) (hl : 0 < l.length) :
    ∃ g c, v = .slice (some ⟨g, 0, none⟩) l.length c ∧ base ≤ g ∧ g < w.heap.size ∧ l.length ≤ c ∧ c ≤ maxLen ∧ (∀ j, j < l.length → w.cell? ⟨g, j, none⟩ = some (.int .u8 (l.getD j 0))) ∧ ∀ j, w.frozen? ⟨g, j, none⟩ = false := by
  have h0 := h
  rcases h.2 with ⟨_, hz⟩ | ⟨g, cap, cur, rfl, hb, hh, hc, hm, _, _⟩
  · omega
  · refine ⟨g, cap, rfl, hb, Blk.lt (t := 5) (cs := cur) hh, hc, hm, fun j hj => ?_, fun j => Blk.frozen (t := 5) (cs := cur) hh j⟩
    rw [World.ownsRow.cellAt h0 j (by omega), List.getElem?_map, List.getElem?_eq_getElem hj, List.getD_eq_getElem?_getD, List.getElem?_eq_getElem hj]
    rfl

/-- append, the row the call's own. -/
theorem app_bytes {ops : Array Oper} {rest : List Oper} {o : Oper} {a : Act} {Q : Exit → Act → World → Prop} (w : World) (hgd : o.guard = none) (s x : Operand)
    (ho : o.op = .call { callee := .builtin .append, args := #[s, x], argTypes := #[22, 22] })
    (base : Nat) (v : Value) (l : List Int) (hs : a.eval s = v) (hown : OwnB w base v l)
    (B : Nat) (A : Option Addr) (m c : Nat) (news : List Int) (hx : a.eval x = .slice A m c) (hr : Reads w B 1 A m (news.map (Value.int .u8)))
    (hlen : l.length + m ≤ 140737488351232) (hbase : base ≤ w.heap.size)
    (h : ∀ v' w', OwnB w' base v' (l ++ news) → Below base w w' → wpList Tryd.prog ops Q rest (a.put o.dst v') w') : wpList Tryd.prog ops Q (o :: rest) a w := by
  obtain ⟨i0, hi, hz0, hz1, hz2⟩ := info_parts info5
  have hm : news.length = m := by have := hr.1; simpa using this
  refine wpList_append_any w hgd s x 22 ho base 5 i0 _ 1 1 Tryd.underlying22 hi hz0 hz1 hz2 rfl (by decide) v l.length _ hs hown B A m c _ hx hr (ints_one _) (by unfold maxLen; omega) (by omega) hbase ?_
  intro v1 w1 hown1 hg1 _
  refine h v1 w1 ?_ ((Below.refl _ _).grown hg1 hbase (fun k hk => (World.ownsRow.lt hown k hk).1))
  unfold OwnB
  rw [List.length_append, List.map_append, hm]
  exact hown1

/-- The call hands back a slice of its own that holds the bytes l; what was there is as it was. -/
def RetBytes (w : World) (l : List Int) (e : Ending) (w' : World) : Prop :=
  ∃ v, e = .returned v ∧ OwnB w' w.heap.size v l ∧ Below w.heap.size w w'

theorem own_any (A : Option Addr) (n c : Nat) (l : List Int) (w : World) (hr : Reads w w.heap.size 1 A n (l.map (Value.int .u8))) (hn : n ≤ 140737488351232) :
    Calls Tryd.prog 21 #[.slice A n c] w (RetBytes w l) := by
  have hbw : Below w.heap.size w (w.alloc (.cells #[] 5)) := (Below.refl _ _).alloc (Nat.le_refl _) _
  go_enter Tryd.func21, Tryd.ntmps21
  go_wp2_with (at_builtin; refine app_bytes _ rfl (.tmp 3) (.tmp 4) rfl w.heap.size _ _ rfl (OwnB.empty w (Nat.le_refl _)) w.heap.size A n c _ rfl (hr.alloc (Nat.le_refl _) _) (by simpa using hn) hbw.size ?_; intro v1 w1 hown1 hb1)
  go_ret
  exact ⟨v1, rfl, by simpa using hown1, hbw.trans hb1⟩

/-- The string of some bytes. -/
def strOf (l : List Int) : ByteArray := l.foldl (fun r n => r.push (UInt8.ofNat n.toNat)) ByteArray.empty
theorem run_string (A : Option Addr) (n c : Nat) (l : List Int) (w : World) (hr : Reads w w.heap.size 1 A n (l.map (Value.int .u8))) :
    (convert 22 9 (.slice A n c)).run Tryd.prog w = .ok (.string (strOf l)) w := by
  rw [run_convert_bytes_string w 22 9 5 A n c Tryd.underlying22 Tryd.underlying5 Tryd.underlying9]
  have hn : l.length = n := by simpa using hr.1
  rcases Nat.eq_zero_or_pos n with h0 | h0
  · subst h0
    have hl : l = [] := List.eq_nil_of_length_eq_zero hn
    subst hl
    rcases A with _ | a
    · simp [Conv.bytesToString, strOf, Sem.run_pure]
    · rw [run_bytesToString w a 0 c [] (by simpa using run_loadCells_list (P := Tryd.prog) (w := w) a [] (by simp))]
      rfl
  · obtain ⟨ad, rfl, _, hc⟩ := hr.2 h0
    rw [run_bytesToString w ad n c l]
    · rfl
    · have := run_loadCells_list (P := Tryd.prog) (w := w) ad (l.map (Value.int .u8)) hc
      rw [List.length_map, hn] at this
      exact this

end Go.Proofs.YtkfagcpboehjjaaDoor
