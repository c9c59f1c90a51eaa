/-
  The executor is sound: operations. No condition.
-/
import Derived.Test.YtiegapnfbeemcaaGreatDoorA07
namespace Go.Proofs.YtiegapnfbeemcaaGreatDoor.X
set_option maxRecDepth 100000
open Go.RowKit

section
variable {φ : Env} {H : Heap} {w : World}
theorem mv_slice {b o n c : Nat} {v' : Value} (h : mv φ (.slice (some ⟨b, o, none⟩) n c) = some v') : ∃ p c', φ[b]? = some p ∧ v' = .slice (some ⟨p.1, o, none⟩) n c' ∧ ((c < BIG ∧ c' = c) ∨ (BIG ≤ c ∧ c' = p.2 - o ∧ c + o ≤ BIG + p.2)) := by
  change (match φ[b]? with | some p => (if c < BIG then some (Value.slice (some ⟨p.1, o, none⟩) n c) else if c + o ≤ BIG + p.2 then some (Value.slice (some ⟨p.1, o, none⟩) n (p.2 - o)) else none) | none => none) = some v' at h
  split at h
  · rename_i p hp
    split at h
    · rename_i hc
      exact ⟨p, c, hp, (Option.some.inj h).symm, .inl ⟨hc, rfl⟩⟩
    · split at h
      · rename_i hc hc'
        exact ⟨p, _, hp, (Option.some.inj h).symm, .inr ⟨by omega, rfl, hc'⟩⟩
      · cases h
  · cases h
theorem mv_slice' {b o n c : Nat} {p : Nat × Nat} (hp : φ[b]? = some p) (hc : c < BIG) : mv φ (.slice (some ⟨b, o, none⟩) n c) = some (.slice (some ⟨p.1, o, none⟩) n c) := by
  show (match φ[b]? with | some p => (if c < BIG then some (Value.slice (some ⟨p.1, o, none⟩) n c) else if c + o ≤ BIG + p.2 then some (Value.slice (some ⟨p.1, o, none⟩) n (p.2 - o)) else none) | none => none) = _
  rw [hp]
  simp only [if_pos hc]
theorem mv_sliceB {b o n c : Nat} {p : Nat × Nat} (hp : φ[b]? = some p) (hc : BIG ≤ c) (hc' : c + o ≤ BIG + p.2) : mv φ (.slice (some ⟨b, o, none⟩) n c) = some (.slice (some ⟨p.1, o, none⟩) n (p.2 - o)) := by
  show (match φ[b]? with | some p => (if c < BIG then some (Value.slice (some ⟨p.1, o, none⟩) n c) else if c + o ≤ BIG + p.2 then some (Value.slice (some ⟨p.1, o, none⟩) n (p.2 - o)) else none) | none => none) = _
  rw [hp]
  simp only [if_neg (show ¬ c < BIG by omega), if_pos hc']
theorem lowC_le {c c' o : Nat} {p : Nat × Nat} (h : (c < BIG ∧ c' = c) ∨ (BIG ≤ c ∧ c' = p.2 - o ∧ c + o ≤ BIG + p.2)) : lowC c ≤ c' := by
  unfold lowC
  split
  · rename_i hb
    have := Nat.le_of_ble_eq_true hb
    rcases h with h | h
    · omega
    · omega
  · rename_i hb
    rcases h with h | h
    · omega
    · rw [Nat.ble_eq_true_of_le h.1] at hb; cases hb
theorem bound_of {v v' : Value} {y i : Nat} (h : boundX v y = some i) (hv : mv φ v = some v') : ∃ k, v' = .int k (Int.ofNat i) ∧ i ≤ y := by
  unfold boundX at h
  split at h
  · rename_i k j
    split at h
    · rename_i hj
      have h := Option.some.inj h
      subst h
      exact ⟨k, mv_int hv, Nat.le_of_ble_eq_true hj⟩
    · cases h
  · cases h
theorem run_sb {k : IntKind} {i y : Nat} (code : BoundsCode) (h : i ≤ y) : (Instr.sliceBound (.int k (i : Int)) y code).run Tryz.prog w = .ok i w := by
  have : (0 : Int) ≤ (i : Int) ∧ (i : Int) ≤ (y : Int) := by omega
  simp only [Instr.sliceBound, asIntOf, Sem.run_bind, Sem.run_pure, Result.andThen_ok]
  rw [if_pos this]; rfl
theorem run_sl {t e : Nat} {z : Value} (he : elemX t = some (e, z)) {A : Option Addr} {n c l h m : Nat} {lo hi mx : Option Value} (hb : (Instr.sliceBounds true n c lo hi mx).run Tryz.prog w = .ok (l, h, m) w) :
    (Instr.sliceAt t (.slice A n c) lo hi mx).run Tryz.prog w = .ok (.slice (if m = l then A else A.map (·.add l)) (h - l) (m - l)) w := by
  obtain ⟨hu, hs, _⟩ := und_of he
  simp [Instr.sliceAt, Instr.slice, run_und hu, hs, hb]
theorem cut_ok {b o l h m : Nat} {p : Nat × Nat} (hp : φ[b]? = some p) (hm : m < BIG) : mv φ (cutX b o l h m) = some (.slice (if m = l then some ⟨p.1, o, none⟩ else (some (⟨p.1, o, none⟩ : Addr)).map (·.add l)) (h - l) (m - l)) := by
  have hadd : (⟨p.1, o, none⟩ : Addr).add l = ⟨p.1, o + l, none⟩ := by unfold Addr.add; split <;> simp_all
  unfold cutX
  split
  · rename_i e
    rw [mv_slice' hp (by unfold BIG; omega)]
    subst e
    simp
  · rw [mv_slice' hp (by omega)]
    simp [hadd]
/-- The ends of a part, as the executor and the model have them. -/
theorem low_of {lo : Option Value} {lo' : Option Value} {h l : Nat} (hl : lowX lo h = some l) (hlo : (lo = none ∧ lo' = none) ∨ ∃ v v', lo = some v ∧ lo' = some v' ∧ mv φ v = some v') : (lo' = none ∧ l = 0) ∨ ∃ k, lo' = some (.int k (Int.ofNat l)) ∧ l ≤ h := by
  rcases hlo with ⟨rfl, rfl⟩ | ⟨v, v', rfl, rfl, hv⟩
  · exact .inl ⟨rfl, (Option.some.inj hl).symm⟩
  · obtain ⟨k, e, hle⟩ := bound_of hl hv
    exact .inr ⟨k, by rw [e], hle⟩
theorem high_of {hi hi' : Option Value} {n y h : Nat} (hh : highX hi n y = some h) (hhi : (hi = none ∧ hi' = none) ∨ ∃ v v', hi = some v ∧ hi' = some v' ∧ mv φ v = some v') : (hi' = none ∧ h = n ∧ n ≤ y) ∨ ∃ k, hi' = some (.int k (Int.ofNat h)) ∧ h ≤ y := by
  rcases hhi with ⟨rfl, rfl⟩ | ⟨v, v', rfl, rfl, hv⟩
  · unfold highX at hh
    simp only at hh
    split at hh
    · rename_i hn
      exact .inl ⟨rfl, (Option.some.inj hh).symm, Nat.le_of_ble_eq_true hn⟩
    · cases hh
  · obtain ⟨k, e, hle⟩ := bound_of hh hv
    exact .inr ⟨k, by rw [e], hle⟩
theorem run_b2 {n c h l y : Nat} {lo' hi' : Option Value} (hc : y ≤ c) (hh : (hi' = none ∧ h = n ∧ n ≤ y) ∨ ∃ k, hi' = some (.int k (Int.ofNat h)) ∧ h ≤ y) (hl : (lo' = none ∧ l = 0) ∨ ∃ k, lo' = some (.int k (Int.ofNat l)) ∧ l ≤ h) :
    (Instr.sliceBounds true n c lo' hi' none).run Tryz.prog w = .ok (l, h, c) w := by
  rcases hh with ⟨rfl, rfl, _⟩ | ⟨k, rfl, hh⟩ <;> rcases hl with ⟨rfl, rfl⟩ | ⟨j, rfl, hl⟩
  · simp [Instr.sliceBounds]
  · simp [Instr.sliceBounds, run_sb _ hl]
  · simp [Instr.sliceBounds, run_sb _ (Nat.le_trans hh hc)]
  · simp [Instr.sliceBounds, run_sb _ (Nat.le_trans hh hc), run_sb _ hl]
theorem run_b3 {n c h l m : Nat} {lo' : Option Value} {km kh : IntKind} (hm : m ≤ c) (hh : h ≤ m) (hl : (lo' = none ∧ l = 0) ∨ ∃ k, lo' = some (.int k (Int.ofNat l)) ∧ l ≤ h) :
    (Instr.sliceBounds true n c lo' (some (.int kh (Int.ofNat h))) (some (.int km (Int.ofNat m)))).run Tryz.prog w = .ok (l, h, m) w := by
  rcases hl with ⟨rfl, rfl⟩ | ⟨j, rfl, hl⟩
  · simp [Instr.sliceBounds, run_sb _ hm, run_sb _ hh]
  · simp [Instr.sliceBounds, run_sb _ hm, run_sb _ hh, run_sb _ hl]
theorem run_slice {t e : Nat} {z : Value} (he : elemX t = some (e, z)) {v v' r : Value} {lo hi mx lo' hi' mx' : Option Value} (h : sliceX v lo hi mx = some r) (hv : mv φ v = some v')
    (hlo : (lo = none ∧ lo' = none) ∨ ∃ v v', lo = some v ∧ lo' = some v' ∧ mv φ v = some v') (hhi : (hi = none ∧ hi' = none) ∨ ∃ v v', hi = some v ∧ hi' = some v' ∧ mv φ v = some v') (hmx : (mx = none ∧ mx' = none) ∨ ∃ v v', mx = some v ∧ mx' = some v' ∧ mv φ v = some v') :
    ∃ r', (Instr.sliceAt t v' lo' hi' mx').run Tryz.prog w = .ok r' w ∧ mv φ r = some r' := by
  unfold sliceX at h
  split at h
  · rename_i b o n c mv_ hv_
    obtain ⟨p, c', hp, rfl, hc⟩ := mv_slice hv
    have hle := lowC_le hc
    rcases hmx with ⟨e, _⟩ | ⟨x, x', e, rfl, hx⟩
    · cases e
    rcases hhi with ⟨e', _⟩ | ⟨y, y', e', rfl, hy⟩
    · cases e'
    cases e; cases e'
    split at h
    · cases h
    · rename_i m hm
      obtain ⟨km, rfl, hm1⟩ := bound_of hm hx
      split at h
      · cases h
      · rename_i hh hhm
        obtain ⟨kh, rfl, hh1⟩ := bound_of hhm hy
        split at h
        · cases h
        · rename_i l hl
          split at h
          · rename_i hmB
            have h := Option.some.inj h
            subst h
            exact ⟨_, run_sl he (run_b3 (Nat.le_trans hm1 hle) hh1 (low_of hl hlo)), cut_ok hp (blt_of hmB)⟩
          · cases h
  · rename_i b o n c
    obtain ⟨p, c', hp, rfl, hc⟩ := mv_slice hv
    have hle := lowC_le hc
    rcases hmx with ⟨_, rfl⟩ | ⟨x, x', e, _, _⟩
    case inr => cases e
    split at h
    · cases h
    · rename_i hh hhh
      have h2 := high_of hhh hhi
      split at h
      · cases h
      · rename_i l hl
        have h3 := low_of hl hlo
        have hb := run_sl (w := w) he (A := some ⟨p.1, o, none⟩) (run_b2 hle h2 h3)
        split at h
        · rename_i hB
          have h := Option.some.inj h
          subst h
          rcases hc with ⟨hc, rfl⟩ | ⟨hc, _, _⟩
          · exact ⟨_, hb, cut_ok hp hc⟩
          · rw [Nat.ble_eq_true_of_le hc] at hB; cases hB
        · rename_i hB
          have hB := Nat.le_of_ble_eq_true hB
          rcases hc with ⟨hc, rfl⟩ | ⟨_, rfl, hc2⟩
          · omega
          split at h
          · rename_i hl0
            have h := Option.some.inj h
            subst h
            have hlow : lowC c = c - BIG := by unfold lowC; rw [Nat.ble_eq_true_of_le hB]
            have hl1 : l = 0 ∨ l < c - BIG := by
              rw [Bool.or_eq_true] at hl0
              rcases hl0 with h | h
              · exact .inl (Nat.eq_of_beq_eq_true h)
              · exact .inr (by rw [← hlow]; exact blt_of h)
            refine ⟨_, hb, ?_⟩
            have hadd : (⟨p.1, o, none⟩ : Addr).add l = ⟨p.1, o + l, none⟩ := by unfold Addr.add; split <;> simp_all
            rw [mv_sliceB hp (by omega) (by omega)]
            congr 1
            split
            · rename_i em
              have : l = 0 := by omega
              subst this
              simp only [Nat.add_zero, Nat.sub_zero]
            · simp only [Option.map_some, hadd]
              rw [Nat.sub_add_eq]
          · cases h
  · rename_i n c
    split at h
    · rename_i h0
      rw [Bool.and_eq_true] at h0
      have hn := Nat.eq_of_beq_eq_true h0.1
      have hc := Nat.eq_of_beq_eq_true h0.2
      subst hn; subst hc
      have e := (Option.some.inj hv).symm
      subst e
      rcases hmx with ⟨_, rfl⟩ | ⟨x, x', e, _, _⟩
      case inr => cases e
      split at h
      · cases h
      · rename_i hh hhh
        have h2 := high_of hhh hhi
        split at h
        · cases h
        · rename_i l hl
          have h3 := low_of hl hlo
          have h := Option.some.inj h
          subst h
          have e1 : hh = 0 := by
            rcases h2 with ⟨_, h, _⟩ | ⟨_, _, h⟩ <;> omega
          subst e1
          have e2 : l = 0 := by
            rcases h3 with ⟨_, h⟩ | ⟨_, _, h⟩ <;> omega
          subst e2
          exact ⟨_, run_sl he (run_b2 (y := 0) (Nat.le_refl _) h2 h3), rfl⟩
    · cases h
  · cases h
end
end Go.Proofs.YtiegapnfbeemcaaGreatDoor.X

namespace Go.Proofs.YtiegapnfbeemcaaGreatDoor.X
set_option maxRecDepth 100000
open Go.RowKit

section
variable {φ : Env} {H : Heap} {w : World}
theorem add_off (g o j : Nat) : (⟨g, o, none⟩ : Addr).add j = ⟨g, o + j, none⟩ := by unfold Addr.add; split <;> simp_all
/-- Many cells read. -/
theorem read_ok (hW : WR φ H w) {b : Nat} {p : Nat × Nat} (hp : φ[b]? = some p) : ∀ (n o : Nat) (xs : List Value), readX H b o n = some xs → ∃ ys, mvs φ xs = some ys ∧ xs.length = n ∧ ys.length = n ∧ (∀ (j : Nat) (v : Value), ys[j]? = some v → w.cell? ⟨p.1, o + j, none⟩ = some v) ∧ xs.all one = true
  | 0, o, xs, h => by
    have h := Option.some.inj h
    subst h
    exact ⟨[], rfl, rfl, rfl, fun j v hv => by simp at hv, rfl⟩
  | n + 1, o, xs, h => by
    unfold readX at h
    split at h
    · rename_i x zs hx hzs
      have h := Option.some.inj h
      subst h
      obtain ⟨ys, h1, h2, h3, h4, h5⟩ := read_ok hW hp n (o + 1) zs hzs
      obtain ⟨q, y, hq, hc, hm, ho⟩ := hW.cell hx
      rw [hp] at hq
      have hq := Option.some.inj hq
      subst hq
      refine ⟨y :: ys, ?_, by simp [h2], by simp [h3], fun j v hv => ?_, by simp [ho, h5]⟩
      · unfold mvs
        rw [hm, h1]
      · cases j with
        | zero => rw [List.getElem?_cons_zero] at hv; rw [← hv]; exact hc
        | succ j =>
          rw [List.getElem?_cons_succ] at hv
          rw [show o + (j + 1) = o + 1 + j by omega]
          exact h4 j v hv
    · cases h
theorem load_ok (hW : WR φ H w) {b o n : Nat} {p : Nat × Nat} (hp : φ[b]? = some p) {xs : List Value} (h : readX H b o n = some xs) : ∃ ys, mvs φ xs = some ys ∧ xs.length = n ∧ ys.length = n ∧ (loadCells ⟨p.1, o, none⟩ n).run Tryz.prog w = .ok ⟨ys⟩ w ∧ xs.all one = true := by
  obtain ⟨ys, h1, h2, h3, h4, h5⟩ := read_ok hW hp n o xs h
  refine ⟨ys, h1, h2, h3, ?_, h5⟩
  have := run_loadCells_list (P := Tryz.prog) w ⟨p.1, o, none⟩ ys (fun j v hv => by rw [add_off]; exact h4 j v hv)
  rw [h3] at this
  exact this
/-- Many cells written. -/
theorem write_ok {β : Type} {b : Nat} {p : Nat × Nat} (hp : φ[b]? = some p) {k : Heap → Option β} {r : β} {base : Nat} : ∀ (xs us : List Value) (o i : Nat) (H : Heap) (w : World), WR φ H w → o = base + i → writeX H b o xs k = some r → mvs φ xs = some us → xs.all one = true →
    ∃ H' w', k H' = some r ∧ (storeCells ⟨p.1, base, none⟩ us i).run Tryz.prog w = .ok () w' ∧ WR φ H' w' ∧ FR φ w w'
  | [], us, o, i, H, w, hW, _, h, hm, _ => by
    have hm := Option.some.inj hm
    subst hm
    exact ⟨H, w, h, rfl, hW, FR.refl _ _⟩
  | x :: xs, us, o, i, H, w, hW, ho, h, hm, h1 => by
    rw [List.all_cons, Bool.and_eq_true] at h1
    unfold mvs at hm
    split at hm
    · rename_i y ys hy hys
      have hm := Option.some.inj hm
      subst hm
      obtain ⟨B, z, hB, hz, hk⟩ := putX_at h
      obtain ⟨q, y', hq, hc, hf, hW', hF⟩ := hW.put hB hz hy h1.1
      rw [hp] at hq
      have hq := Option.some.inj hq
      subst hq
      obtain ⟨H', w', e1, e2, e3, e4⟩ := write_ok (base := base) hp xs ys (o + 1) (i + 1) _ _ hW' (by omega) hk hys h1.2
      refine ⟨H', w', e1, ?_, e3, hF.trans (EX.refl _ _) e4⟩
      obtain ⟨_, h2⟩ := one_cell h1.1 hy
      subst ho
      unfold storeCells
      rw [Sem.run_bind, add_off]
      simp only [run_store _ _ _ _ _ h2, hc, hf, Bool.false_eq_true, if_false]
      exact e2
    · cases hm
theorem mvs_one {xs us : List Value} (h : mvs φ xs = some us) (h1 : xs.all one = true) : ∀ (j : Nat) (x : Value), xs[j]? = some x → one x = true ∧ ∃ y, us[j]? = some y ∧ mv1 φ x = some y := fun _ x hx =>
  ⟨List.all_eq_true.1 h1 x (List.mem_of_getElem? hx), mvs_at h hx⟩
theorem mvs_rep {z : Value} (hz : flat z = true) : ∀ n : Nat, mvs φ (List.replicate n z) = some (List.replicate n z)
  | 0 => rfl
  | n + 1 => by
    rw [List.replicate_succ]
    unfold mvs
    rw [mv1_flat hz, mvs_rep hz n]
theorem flat_one {z : Value} (hz : flat z = true) : one z = true := by
  unfold flat at hz
  split at hz <;> first | rfl | cases hz
theorem all_rep {z : Value} (hz : flat z = true) (n : Nat) : (List.replicate n z).all one = true := by
  rw [List.all_eq_true]
  intro x hx
  rw [(List.mem_replicate.1 hx).2]
  exact flat_one hz
theorem mvs_app : ∀ {xs us ys vs : List Value}, mvs φ xs = some us → mvs φ ys = some vs → mvs φ (xs ++ ys) = some (us ++ vs)
  | [], us, ys, vs, h, h' => by
    have h := Option.some.inj h
    subst h; exact h'
  | x :: xs, us, ys, vs, h, h' => by
    unfold mvs at h
    split at h
    · rename_i y zs hy hzs
      have h := Option.some.inj h
      subst h
      rw [List.cons_append]
      unfold mvs
      rw [hy, mvs_app hzs h']; rfl
    · cases h
/-- A new block. -/
theorem new_ok {β : Type} (hW : WR φ H w) {t : Nat} {xs us : List Value} {k : Nat → Heap → Option β} {r : β} (h : newX H t xs k = some r) (hm : mvs φ xs = some us) (h1 : xs.all one = true) (l : List Value) (hcap : us.length + l.length < 9223372036854775808) :
    ∃ ψ, k H.length (H ++ [⟨t, xs, true⟩]) = some r ∧ EX φ ψ w ∧ WR ψ (H ++ [⟨t, xs, true⟩]) (w.alloc (.cells ⟨us ++ l⟩ t)) ∧ FR φ w (w.alloc (.cells ⟨us ++ l⟩ t)) ∧ ψ[H.length]? = some (w.heap.size, us.length + l.length) := by
  unfold newX at h
  rw [natK_eq, pushK_eq] at h
  obtain ⟨h2, h3, h4, h5⟩ := hW.new t xs ⟨us ++ l⟩ (by simpa using hcap) (fun j x hx => by
    obtain ⟨a, y, hy, hm⟩ := mvs_one hm h1 j x hx
    refine ⟨a, y, ?_, hm⟩
    have : j < us.length := (List.getElem?_eq_some_iff.1 hy).1
    show (us ++ l).toArray[j]? = some y
    rw [List.getElem?_toArray, List.getElem?_append_left this]; exact hy)
  refine ⟨_, h, h4, h2, h3, ?_⟩
  rw [h5]
  simp
end
end Go.Proofs.YtiegapnfbeemcaaGreatDoor.X

namespace Go.Proofs.YtiegapnfbeemcaaGreatDoor.X
set_option maxRecDepth 100000
open Go.RowKit

section
variable {φ : Env} {H : Heap} {w : World}
theorem run_len {t e : Nat} {z : Value} (h : elemX t = some (e, z)) (A : Option Addr) (n c : Nat) (ty : TypeId) : (Builtin.len_ #[t] ty #[.slice A n c]).run Tryz.prog w = .ok (.int .i64 (n : Int)) w := by
  obtain ⟨hu, _⟩ := und_of h
  simp [Builtin.len_, run_und hu, goInt]
theorem run_cap {t e : Nat} {z : Value} (h : elemX t = some (e, z)) (A : Option Addr) (n c : Nat) (ty : TypeId) : (Builtin.cap_ #[t] ty #[.slice A n c]).run Tryz.prog w = .ok (.int .i64 (c : Int)) w := by
  obtain ⟨hu, _⟩ := und_of h
  simp [Builtin.cap_, run_und hu, goInt]
theorem run_lenS (s : ByteArray) (ty : TypeId) : (Builtin.len_ #[9] ty #[.string s]).run Tryz.prog w = .ok (.int .i64 (s.size : Int)) w := by
  have hu : Tryz.prog.underlying 9 = some .string := by kernel_rfl
  simp [Builtin.len_, run_und hu, goInt]
theorem run_min (x y : Int) (ts : Array TypeId) (ty : TypeId) : (Builtin.min_ ts ty #[.int .i64 x, .int .i64 y]).run Tryz.prog w = .ok (.int .i64 (if y < x then y else x)) w := by
  simp [Builtin.min_, Builtin.min2]
theorem run_copy {t u e : Nat} {z : Value} (h : elemX t = some (e, z)) {g o n c d i m f : Nat} {ys : List Value} {w' : World} (ty : TypeId) (hl : (loadCells ⟨d, i, none⟩ (Nat.min m n)).run Tryz.prog w = .ok ⟨ys⟩ w) (hs : (storeCells ⟨g, o, none⟩ ys 0).run Tryz.prog w = .ok () w') :
    (Builtin.copy_ #[t, u] ty #[.slice (some ⟨g, o, none⟩) n c, .slice (some ⟨d, i, none⟩) m f]).run Tryz.prog w = .ok (.int .i64 ((Nat.min m n : Nat) : Int)) w' := by
  obtain ⟨hu, hz, _⟩ := und_of h
  simp only [Builtin.copy_, List.getElem?_toArray, List.getElem?_cons_zero, List.getElem?_cons_succ, Sem.run_bind, run_und hu, Result.andThen_ok, Builtin.lenOf, Sem.run_pure, hz, Builtin.firstCells, Nat.mul_one, hl, hs, goInt]
theorem zero_rep {z : Value} (n : Nat) : Builtin.zeroCells #[z] n = ⟨List.replicate n z⟩ := by
  unfold Builtin.zeroCells
  apply Array.ext'
  simp only [Array.toList_map, Array.toList_range]
  refine List.ext_getElem (by simp) fun i h1 h2 => ?_
  simp [Nat.mod_one]
theorem run_clear {t e : Nat} {z : Value} (h : elemX t = some (e, z)) {g o n c : Nat} {w' : World} (ty : TypeId) (hs : (storeCells ⟨g, o, none⟩ (List.replicate n z) 0).run Tryz.prog w = .ok () w') :
    (Builtin.clear_ #[t] ty #[.slice (some ⟨g, o, none⟩) n c]).run Tryz.prog w = .ok (.tuple #[]) w' := by
  obtain ⟨hu, _, hz, _, hc⟩ := und_of h
  cases n with
  | zero =>
    rw [List.replicate_zero] at hs
    have hs := hs
    unfold storeCells at hs
    have : w = w' := by injection hs
    subst this
    simp [Builtin.clear_, run_und hu]
  | succ n => simp [Builtin.clear_, run_und hu, hz, hc, zero_rep, hs]
theorem run_clear0 {t e : Nat} {z : Value} (h : elemX t = some (e, z)) (c : Nat) (ty : TypeId) : (Builtin.clear_ #[t] ty #[.slice none 0 c]).run Tryz.prog w = .ok (.tuple #[]) w := by
  obtain ⟨hu, _⟩ := und_of h
  simp [Builtin.clear_, run_und hu]
theorem info_of {t e : Nat} {z : Value} (h : elemX t = some (e, z)) : ∃ i : TypeInfo, (∀ w : World, (typeInfo e).run Tryz.prog w = .ok i w) ∧ i.bytes ≤ 8 := by
  have hi : ((Tryz.prog.info? e).map fun i => decide (i.bytes ≤ 8) && decide (i.size = 1)) = some true := by
    rcases elemX_of h with ⟨_, rfl, _⟩ | ⟨_, rfl, _⟩ | ⟨_, rfl, _⟩
    · exact info137.2
    · exact info137.2
    · exact info5.2
  cases hq : Tryz.prog.info? e with
  | none => rw [hq] at hi; cases hi
  | some i =>
    rw [hq] at hi
    have hi := Option.some.inj hi
    rw [Bool.and_eq_true, decide_eq_true_iff] at hi
    exact ⟨i, fun w => by simp [typeInfo, hq], hi.1⟩
theorem growBy_le {l : Nat} (hl : l ≤ 1000) : ∀ (r c : Nat), c ≤ 1442 → Builtin.growBy l r c ≤ 1442
  | 0, c, h => h
  | r + 1, c, h => by
    unfold Builtin.growBy
    split
    · exact h
    · exact growBy_le hl r _ (by omega)
theorem next_le {l c : Nat} (hl : l ≤ 1000) (hc : c < l) : Builtin.nextslicecap l c ≤ 2000 := by
  unfold Builtin.nextslicecap
  split
  · omega
  · split
    · omega
    · have := growBy_le hl 4 c (by omega); omega
theorem arr3 (a b c : List Value) : (⟨a⟩ : Array Value) ++ ⟨b⟩ ++ ⟨c⟩ = ⟨a ++ b ++ c⟩ := by
  apply Array.ext'; simp
theorem run_appZ_in {t e : Nat} {z : Value} (h : elemX t = some (e, z)) {g o n c m : Nat} {w' : World} (ty : TypeId) (h1 : 0 < m) (h2 : m ≤ 1000) (hle : n + m ≤ c) (hst : (storeCells ⟨g, o + n, none⟩ (List.replicate m z) 0).run Tryz.prog w = .ok () w') :
    (Builtin.append_ #[t, 3] ty #[.slice (some ⟨g, o, none⟩) n c, .int .i64 (m : Int)]).run Tryz.prog w = .ok (.slice (some ⟨g, o, none⟩) (n + m) c) w' := by
  obtain ⟨hu, hs, hz, hf, hc⟩ := und_of h
  obtain ⟨i, hi, hb⟩ := info_of h
  have hu3 : Tryz.prog.underlying 3 = some (.int .i64) := by kernel_rfl
  have hw : IntKind.i64.wrap (m : Int) = m := IntWalk.i64_in _ (by omega)
  have h0 : ¬ (m : Int) < 0 := by omega
  have hmb : ¬ (m : Int) * (i.bytes : Int) > 2 ^ 48 := by
    have := Nat.mul_le_mul h2 hb
    rw [← Int.natCast_mul]; omega
  have hm0 : ¬ m = 0 := by omega
  simp only [Builtin.append_, List.getElem?_toArray, List.getElem?_cons_zero, List.getElem?_cons_succ, Sem.run_bind, run_und hu, run_und hu3, Result.andThen_ok, Sem.run_pure, hs, asInt, asIntOf, hw, if_true, h0, if_false, hi, hmb, Int.toNat_natCast, hle, Nat.mul_one,
    Bool.not_true, Bool.false_eq_true, hm0, hz, hc, zero_rep, add_off, hst]
theorem cut_lt {n m c : Nat} {e : TypeId} (h : n + m < 9223372036854775808) (t : Nat) : (Question.appendCap (n + m) c e).cut t < 9223372036854775808 := by
  unfold Question.cut
  have : t % (2 ^ 63 - (n + m)) < 2 ^ 63 - (n + m) := Nat.mod_lt _ (by omega)
  simp only
  omega
theorem run_appZ_new {t e : Nat} {z : Value} (h : elemX t = some (e, z)) {A : Option Addr} {n c m : Nat} {ol : List Value} (ty : TypeId) (h1 : 0 < m) (h2 : m ≤ 1000) (hgt : ¬ n + m ≤ c) (h3 : n + m ≤ 1000) (hol : ∀ w1 : World, w1.heap = w.heap → (Builtin.firstCells 1 n (.slice A n c)).run Tryz.prog w1 = .ok ⟨ol⟩ w1) :
    ∃ nc, n + m ≤ nc ∧ nc < 9223372036854775808 ∧ (Builtin.append_ #[t, 3] ty #[.slice A n c, .int .i64 (m : Int)]).run Tryz.prog w = .ok (.slice (some ⟨w.heap.size, 0, none⟩) (n + m) nc) (({ w with drawn := w.drawn + 1 } : World).alloc (.cells ⟨ol ++ List.replicate m z ++ List.replicate (nc - (n + m)) z⟩ e)) := by
  obtain ⟨hu, hs, hz, hf, hc⟩ := und_of h
  obtain ⟨i, hi, hb⟩ := info_of h
  have hu3 : Tryz.prog.underlying 3 = some (.int .i64) := by kernel_rfl
  have hw : IntKind.i64.wrap (m : Int) = m := IntWalk.i64_in _ (by omega)
  have h0 : ¬ (m : Int) < 0 := by omega
  have hmb : ¬ (m : Int) * (i.bytes : Int) > 2 ^ 48 := by
    have := Nat.mul_le_mul h2 hb
    rw [← Int.natCast_mul]; omega
  have hm0 : ¬ m = 0 := by omega
  have hbig : ¬ (((n + m : Nat) : Int) > IntKind.i64.max ∧ (True ∨ i.bytes = 0)) := fun hh => by
    have : IntKind.i64.max = 9223372036854775807 := by decide
    have := hh.1
    omega
  have hnx : ¬ Builtin.nextslicecap (n + m) c * i.bytes > 2 ^ 48 := by
    have := Nat.mul_le_mul (next_le (l := n + m) (c := c) h3 (by omega)) hb
    omega
  have hf1 : (Question.appendCap (n + m) c e).forced = false := rfl
  refine ⟨(Question.appendCap (n + m) c e).cut (w.tape w.drawn (Question.appendCap (n + m) c e)), by simp [Question.cut], cut_lt (by omega) _, ?_⟩
  simp only [Builtin.append_, List.getElem?_toArray, List.getElem?_cons_zero, List.getElem?_cons_succ, Sem.run_bind, run_und hu, run_und hu3, Result.andThen_ok, Sem.run_pure, hs, asInt, asIntOf, hw, if_true, h0, if_false, hi, hmb, Int.toNat_natCast, hgt, Nat.mul_one,
    Bool.not_true, Bool.false_eq_true, hm0, hz, hc, zero_rep, hbig, hnx, run_choose, hf1, run_askRoom, hol { w with drawn := w.drawn + 1 } rfl, newRow, run_newObj]
  rw [arr3]; rfl
theorem fst_src (d j m f : Nat) : Builtin.firstCells 1 m (.slice (some ⟨d, j, none⟩) m f) = loadCells ⟨d, j, none⟩ m := by
  simp [Builtin.firstCells]
theorem run_appS_in {t e : Nat} {z : Value} (h : elemX t = some (e, z)) {g o n c m d j f u : Nat} {ys : List Value} {x : Value} {e2 : Nat} (hu2 : elemX u = some (e2, x)) {w' : World} (ty : TypeId) (hle : n + m ≤ c) (hld : (loadCells ⟨d, j, none⟩ m).run Tryz.prog w = .ok ⟨ys⟩ w) (hst : (storeCells ⟨g, o + n, none⟩ (ys) 0).run Tryz.prog w = .ok () w') :
    (Builtin.append_ #[t, u] ty #[.slice (some ⟨g, o, none⟩) n c, .slice (some ⟨d, j, none⟩) m f]).run Tryz.prog w = .ok (.slice (some ⟨g, o, none⟩) (n + m) c) w' := by
  obtain ⟨hu, hs, hz, hf, hc⟩ := und_of h
  obtain ⟨i, hi, hb⟩ := info_of h
  have hu3 := (und_of hu2).1
  simp only [Builtin.append_, List.getElem?_toArray, List.getElem?_cons_zero, List.getElem?_cons_succ, Sem.run_bind, run_und hu, run_und hu3, Result.andThen_ok, Sem.run_pure, hs, Builtin.lenOf, Builtin.firstCells, if_true, Bool.not_false, Bool.false_eq_true, if_false, hle, Nat.mul_one, hld, add_off, hst]
theorem run_appS_new {t e : Nat} {z : Value} (h : elemX t = some (e, z)) {A : Option Addr} {n c m d j f u : Nat} {ys : List Value} {x : Value} {e2 : Nat} (hu2 : elemX u = some (e2, x)) {ol : List Value} (ty : TypeId) (hgt : ¬ n + m ≤ c) (h3 : n + m ≤ 1000) (hld : ∀ w1 : World, w1.heap = w.heap → (loadCells ⟨d, j, none⟩ m).run Tryz.prog w1 = .ok ⟨ys⟩ w1) (hol : ∀ w1 : World, w1.heap = w.heap → (Builtin.firstCells 1 n (.slice A n c)).run Tryz.prog w1 = .ok ⟨ol⟩ w1) :
    ∃ nc, n + m ≤ nc ∧ nc < 9223372036854775808 ∧ (Builtin.append_ #[t, u] ty #[.slice A n c, .slice (some ⟨d, j, none⟩) m f]).run Tryz.prog w = .ok (.slice (some ⟨w.heap.size, 0, none⟩) (n + m) nc) (({ w with drawn := w.drawn + 1 } : World).alloc (.cells ⟨ol ++ ys ++ List.replicate (nc - (n + m)) z⟩ e)) := by
  obtain ⟨hu, hs, hz, hf, hc⟩ := und_of h
  obtain ⟨i, hi, hb⟩ := info_of h
  have hu3 := (und_of hu2).1
  have hbig : ¬ (((n + m : Nat) : Int) > IntKind.i64.max ∧ (False ∨ i.bytes = 0)) := fun hh => by
    have : IntKind.i64.max = 9223372036854775807 := by decide
    have := hh.1
    omega
  have hnx : ¬ Builtin.nextslicecap (n + m) c * i.bytes > 2 ^ 48 := by
    have := Nat.mul_le_mul (next_le (l := n + m) (c := c) h3 (by omega)) hb
    omega
  have hf1 : (Question.appendCap (n + m) c e).forced = false := rfl
  refine ⟨(Question.appendCap (n + m) c e).cut (w.tape w.drawn (Question.appendCap (n + m) c e)), by simp [Question.cut], cut_lt (by omega) _, ?_⟩
  simp only [Builtin.append_, List.getElem?_toArray, List.getElem?_cons_zero, List.getElem?_cons_succ, Sem.run_bind, run_und hu, run_und hu3, Result.andThen_ok, Sem.run_pure, hs, Builtin.lenOf, if_true, Bool.not_false, Bool.false_eq_true, if_false, hi, hgt, fst_src, hld { w with drawn := w.drawn + 1 } rfl, hz, hc, zero_rep, hbig, hnx, run_choose, hf1, run_askRoom, hol { w with drawn := w.drawn + 1 } rfl, newRow, run_newObj]
  rw [arr3]; rfl
end
end Go.Proofs.YtiegapnfbeemcaaGreatDoor.X

namespace Go.Proofs.YtiegapnfbeemcaaGreatDoor.X
set_option maxRecDepth 100000
open Go.RowKit

/-- Block g alone has turned. -/
structure OneG (g : Nat) (w w' : World) : Prop where
  os : w'.os = w.os
  tape : w'.tape = w.tape
  output : w'.output = w.output
  size : w'.heap.size = w.heap.size
  block : ∀ k, k ≠ g → w'.heap[k]? = w.heap[k]?
theorem store_row {g : Nat} {t : TypeId} {base : Nat} : ∀ (us : List Value) (i : Nat) (cs : Array Value) (w : World), Go.Proofs.YtiegapnfbeemcaaGreatDoor.Blk w g t cs → base + i + us.length ≤ cs.size → (∀ v ∈ us, v.oneCell' = true) →
    ∃ w' ds, (storeCells ⟨g, base, none⟩ us i).run Tryz.prog w = .ok () w' ∧ Go.Proofs.YtiegapnfbeemcaaGreatDoor.Blk w' g t ds ∧ ds.size = cs.size ∧ (∀ j, j < base + i → ds[j]? = cs[j]?) ∧ (∀ (j : Nat) (v : Value), us[j]? = some v → ds[base + i + j]? = some v) ∧ OneG g w w'
  | [], i, cs, w, hb, _, _ => ⟨w, cs, rfl, hb, rfl, fun _ _ => rfl, fun j v hv => by simp at hv, ⟨rfl, rfl, rfl, rfl, fun _ _ => rfl⟩⟩
  | v :: us, i, cs, w, hb, hl, h1 => by
    simp only [List.length_cons] at hl
    have hb' := hb.set_ (base + i) v
    obtain ⟨w', ds, e1, e2, e3, e4, e5, e6⟩ := store_row (base := base) us (i + 1) _ _ hb' (by simp; omega) (fun x hx => h1 x (List.mem_cons_of_mem _ hx))
    have hc : w.cell? ⟨g, base + i, none⟩ = some cs[base + i] := by rw [hb.cell]; exact Array.getElem?_eq_getElem (by omega)
    refine ⟨w', ds, ?_, e2, by rw [e3]; simp, fun j hj => ?_, fun j x hx => ?_, ⟨e6.os.trans rfl, e6.tape.trans rfl, e6.output.trans rfl, ?_, fun k hk => (e6.block k hk).trans (Below.heap_setCell w ⟨g, base + i, none⟩ v k hk)⟩⟩
    · unfold storeCells
      rw [Sem.run_bind, add_off]
      simp only [run_store _ _ _ _ _ (h1 v List.mem_cons_self), hc, hb.frozen, Bool.false_eq_true, if_false]
      exact e1
    · rw [e4 j (by omega), Array.getElem?_setIfInBounds, if_neg (by omega)]
    · cases j with
      | zero =>
        rw [List.getElem?_cons_zero] at hx
        rw [Nat.add_zero, e4 (base + i) (by omega), Array.getElem?_setIfInBounds, if_pos rfl, if_pos (by omega)]
        exact hx
      | succ j =>
        rw [List.getElem?_cons_succ] at hx
        rw [show base + i + (j + 1) = base + (i + 1) + j by omega]
        exact e5 j x hx
    · rw [e6.size]; simp [World.setCell]

section
variable {φ : Env} {H : Heap} {w : World}
theorem WR.kill (h : WR φ H w) {b : Nat} {B : X.Blk} (hB : H[b]? = some B) : WR φ (H.set b ⟨B.ty, [], false⟩) w := by
  have hbl : b < H.length := (List.getElem?_eq_some_iff.1 hB).1
  have hcase : ∀ (i : Nat) (C : X.Blk), (H.set b ⟨B.ty, [], false⟩)[i]? = some C → (i ≠ b ∧ H[i]? = some C) ∨ (i = b ∧ C = ⟨B.ty, [], false⟩) := fun i C hC => by
    by_cases hib : b = i
    · subst hib
      rw [List.getElem?_set_self hbl] at hC
      exact .inr ⟨rfl, (Option.some.inj hC).symm⟩
    · rw [List.getElem?_set_ne hib] at hC
      exact .inl ⟨fun e => hib e.symm, hC⟩
  refine ⟨by simp [h.len], h.low, h.cap, fun C hC => ?_, by simpa using h.len4, fun i C hC hl => ?_, fun i C hC hl => ?_, fun i j C D q r hC hD hlC hlD hq hr e => ?_, h.g2, h.g5, h.g6⟩
  · rcases hcase 3 C hC with ⟨_, hC⟩ | ⟨_, rfl⟩
    · exact h.g3 C hC
    · rfl
  · rcases hcase i C hC with ⟨_, hC⟩ | ⟨_, rfl⟩
    · exact h.blk i C hC hl
    · cases hl
  · rcases hcase i C hC with ⟨_, hC⟩ | ⟨_, rfl⟩
    · exact h.dead i C hC hl
    · rfl
  · rcases hcase i C hC with ⟨_, hC⟩ | ⟨_, rfl⟩ <;> rcases hcase j D hD with ⟨_, hD⟩ | ⟨_, rfl⟩
    · exact h.inj i j C D q r hC hD hlC hlD hq hr e
    · cases hlD
    · cases hlC
    · cases hlC
/-- The same block once more, under a new name. -/
theorem WR.again (h : WR φ H w) {b : Nat} {B : X.Blk} {p : Nat × Nat} (hB : H[b]? = some B) (hl : B.live = true) (hp : φ[b]? = some p) {w' : World} (ho : OneG p.1 w w') {ds : Array Value} (hb : Go.Proofs.YtiegapnfbeemcaaGreatDoor.Blk w' p.1 B.ty ds) (hs : ds.size = p.2) {xs : List Value}
    (hc : ∀ (j : Nat) (x : Value), xs[j]? = some x → one x = true ∧ ∃ y, ds[j]? = some y ∧ mv1 φ x = some y) :
    WR (φ ++ [p]) (H.set b ⟨B.ty, [], false⟩ ++ [⟨B.ty, xs, true⟩]) w' ∧ FR φ w w' ∧ EX φ (φ ++ [p]) w ∧ (φ ++ [p])[(H.set b ⟨B.ty, [], false⟩).length]? = some p := by
  have hk := h.kill hB
  have hbl : b < H.length := (List.getElem?_eq_some_iff.1 hB).1
  have hpre : φ <+: φ ++ [p] := List.prefix_append _ _
  have hlen : (H.set b ⟨B.ty, [], false⟩).length = φ.length := hk.len.symm
  have hat : (φ ++ [p])[(H.set b ⟨B.ty, [], false⟩).length]? = some p := by rw [hlen]; simp
  have hold : ∀ (i : Nat) (q : Nat × Nat), i < φ.length → (φ ++ [p])[i]? = some q → φ[i]? = some q := fun i q hi hq => by
    rw [List.getElem?_append_left hi] at hq; exact hq
  have hcase : ∀ (i : Nat) (C : X.Blk), (H.set b ⟨B.ty, [], false⟩ ++ [⟨B.ty, xs, true⟩])[i]? = some C → (i < φ.length ∧ (H.set b ⟨B.ty, [], false⟩)[i]? = some C) ∨ (i = φ.length ∧ C = ⟨B.ty, xs, true⟩) := fun i C hC => by
    by_cases hi : i < φ.length
    · rw [List.getElem?_append_left (by rw [hlen]; exact hi)] at hC; exact .inl ⟨hi, hC⟩
    · rw [List.getElem?_append_right (by omega)] at hC
      have : i - (H.set b ⟨B.ty, [], false⟩).length = 0 := by
        rcases Nat.eq_zero_or_pos (i - (H.set b ⟨B.ty, [], false⟩).length) with h | h
        · exact h
        · rw [List.getElem?_eq_none (by simp only [List.length_cons, List.length_nil]; omega)] at hC; cases hC
      rw [this] at hC
      exact .inr ⟨by omega, (Option.some.inj hC).symm⟩
  have hat2 : (φ ++ [p])[φ.length]? = some p := by simp
  have hne : ∀ (i : Nat) (C : X.Blk) (q : Nat × Nat), (H.set b ⟨B.ty, [], false⟩)[i]? = some C → C.live = true → φ[i]? = some q → q.1 ≠ p.1 := fun i C q hC hlC hq e => by
    by_cases hib : b = i
    · subst hib
      rw [List.getElem?_set_self hbl] at hC
      rw [← Option.some.inj hC] at hlC; cases hlC
    · rw [List.getElem?_set_ne hib] at hC
      exact hib (h.inj b i B C p q hB hC hl hlC hp hq e.symm)
  refine ⟨⟨by simp [hlen], fun i q hq => ?_, fun i q h3 hq => ?_, fun C hC => ?_, by have := h.len4; simp; omega, fun i C hC hlC => ?_, fun i C hC hlC => ?_, fun i j C D q r hC hD hlC hlD hq hr e => ?_, ?_, ?_, ?_⟩, ⟨ho.os, ho.tape, ho.output, by rw [ho.size]; exact Nat.le_refl _, fun k hk hn => ho.block k fun e => hn b p hp e.symm⟩, ⟨hpre, fun i q hq => ?_⟩, hat⟩
  · rw [ho.size]
    by_cases hi : i < φ.length
    · exact h.low i q (hold i q hi hq)
    · have hi2 : i = φ.length := by
        have := (List.getElem?_eq_some_iff.1 hq).1
        simp at this; omega
      subst hi2
      rw [hat2] at hq
      rw [← Option.some.inj hq]
      exact h.low b p hp
  · by_cases hi : i < φ.length
    · exact h.cap i q h3 (hold i q hi hq)
    · have hi2 : i = φ.length := by
        have := (List.getElem?_eq_some_iff.1 hq).1
        simp at this; omega
      subst hi2
      rw [hat2] at hq
      rw [← Option.some.inj hq]
      exact h.cap b p (fun e => by subst e; have := h.g3 B hB; rw [hl] at this; cases this) hp
  · rcases hcase 3 C hC with ⟨_, hC⟩ | ⟨h3, _⟩
    · exact hk.g3 C hC
    · have := h.len4; have := h.len; omega
  · rcases hcase i C hC with ⟨hi, hC⟩ | ⟨rfl, rfl⟩
    · obtain ⟨q, es, hq, hb', hs', hcc⟩ := hk.blk i C hC hlC
      have hnq := hne i C q hC hlC hq
      exact ⟨q, es, at_mono hpre hq, (ho.block q.1 hnq).trans hb', hs', fun j x hx => let ⟨a, y, b, c⟩ := hcc j x hx; ⟨a, y, b, mv1_mono hpre c⟩⟩
    · exact ⟨p, ds, hat2, hb, hs, fun j x hx => let ⟨a, y, b, c⟩ := hc j x hx; ⟨a, y, b, mv1_mono hpre c⟩⟩
  · rcases hcase i C hC with ⟨hi, hC⟩ | ⟨rfl, rfl⟩
    · exact hk.dead i C hC hlC
    · cases hlC
  · rcases hcase i C hC with ⟨hi, hC⟩ | ⟨rfl, rfl⟩ <;> rcases hcase j D hD with ⟨hj, hD⟩ | ⟨rfl, rfl⟩
    · exact hk.inj i j C D q r hC hD hlC hlD (hold i q hi hq) (hold j r hj hr) e
    · rw [hat2] at hr
      have hr := Option.some.inj hr
      subst hr
      exact absurd e (hne i C q hC hlC (hold i q hi hq))
    · rw [hat2] at hq
      have hq := Option.some.inj hq
      subst hq
      exact absurd e.symm (hne j D r hD hlD (hold j r hj hr))
    · rfl
  · obtain ⟨q, hq, e⟩ := h.g2; exact ⟨q, at_mono hpre hq, e⟩
  · obtain ⟨q, hq, e⟩ := h.g5; exact ⟨q, at_mono hpre hq, e⟩
  · obtain ⟨q, hq, e⟩ := h.g6; exact ⟨q, at_mono hpre hq, e⟩
  · by_cases hi : i < φ.length
    · exact .inl ⟨i, hold i q hi hq⟩
    · have hi2 : i = φ.length := by
        have := (List.getElem?_eq_some_iff.1 hq).1
        simp at this; omega
      subst hi2
      rw [hat2] at hq
      rw [← Option.some.inj hq]
      exact .inl ⟨b, hp⟩
end
end Go.Proofs.YtiegapnfbeemcaaGreatDoor.X

namespace Go.Proofs.YtiegapnfbeemcaaGreatDoor.X
set_option maxRecDepth 100000
open Go.RowKit

section
variable {φ : Env} {H : Heap} {w : World}
theorem cell_heap {w w1 : World} (h : w1.heap = w.heap) (a : Addr) : w1.cell? a = w.cell? a := by
  unfold World.cell?; rw [h]
theorem mv_len {b o n m c : Nat} {v' : Value} (h : mv φ (.slice (some ⟨b, o, none⟩) n c) = some v') {p : Nat × Nat} (hp : φ[b]? = some p) {c' : Nat} (e : v' = .slice (some ⟨p.1, o, none⟩) n c') : mv φ (.slice (some ⟨b, o, none⟩) m c) = some (.slice (some ⟨p.1, o, none⟩) m c') := by
  obtain ⟨q, d, hq, e', hc⟩ := mv_slice h
  rw [hp] at hq
  have hq := Option.some.inj hq
  subst hq
  rw [e] at e'
  injection e' with _ _ e3
  subst e3
  rcases hc with ⟨h1, rfl⟩ | ⟨h1, rfl, h2⟩
  · exact mv_slice' hp h1
  · exact mv_sliceB hp h1 h2
theorem all_app {xs ys : List Value} (h1 : xs.all one = true) (h2 : ys.all one = true) : (xs ++ ys).all one = true := by
  rw [List.all_append, h1, h2]; rfl
theorem ones_of {xs us : List Value} (h : mvs φ xs = some us) (h1 : xs.all one = true) : ∀ u ∈ us, u.oneCell' = true := fun u hu => by
  obtain ⟨i, hi⟩ := List.getElem?_of_mem hu
  have hlt : i < xs.length := by rw [← mvs_len h]; exact (List.getElem?_eq_some_iff.1 hi).1
  obtain ⟨v, hv, hm⟩ := mvs_at h (List.getElem?_eq_getElem hlt)
  rw [hi] at hv
  have hv := Option.some.inj hv
  subst hv
  exact (one_cell (List.all_eq_true.1 h1 _ (List.getElem_mem hlt)) hm).2
theorem grow_ok {β : Type} (hW : WR φ H w) {e : Nat} {z : Value} {a : Option Addr} {n c : Nat} {s' : Value} (hs : mv φ (.slice a n c) = some s') {ys us : List Value} (hm : mvs φ ys = some us) (h1 : ys.all one = true) (hpos : 0 < ys.length) {k : Value → Heap → Option β} {r : β} (h : growX H e a n c ys k = some r) {X : Sem Value}
    (hin : ∀ g o n' c' w', s' = .slice (some ⟨g, o, none⟩) n' c' → n' + us.length ≤ c' → (storeCells ⟨g, o + n', none⟩ us 0).run Tryz.prog w = .ok () w' → X.run Tryz.prog w = .ok (.slice (some ⟨g, o, none⟩) (n' + us.length) c') w')
    (hnew : ∀ A n' c' ol, s' = .slice A n' c' → ¬ n' + us.length ≤ c' → n' + us.length ≤ 1000 → (∀ w1 : World, w1.heap = w.heap → (Builtin.firstCells 1 n' (.slice A n' c')).run Tryz.prog w1 = .ok ⟨ol⟩ w1) →
      ∃ nc, n' + us.length ≤ nc ∧ nc < 9223372036854775808 ∧ X.run Tryz.prog w = .ok (.slice (some ⟨w.heap.size, 0, none⟩) (n' + us.length) nc) (({ w with drawn := w.drawn + 1 } : World).alloc (.cells ⟨ol ++ us ++ List.replicate (nc - (n' + us.length)) z⟩ e))) :
    ∃ v v' ψ H' w', X.run Tryz.prog w = .ok v' w' ∧ k v H' = some r ∧ EX φ ψ w ∧ WR ψ H' w' ∧ FR φ w w' ∧ mv ψ v = some v' := by
  have hul := mvs_len hm
  unfold growX at h
  split at h
  · rename_i hle
    have hle := Nat.le_of_ble_eq_true hle
    split at h
    · rename_i b o
      obtain ⟨p, c', hp, rfl, hc⟩ := mv_slice hs
      have hcl := lowC_le hc
      obtain ⟨H', w', e1, e2, e3, e4⟩ := write_ok (base := o + n) hp ys us (o + n) 0 H w hW rfl h hm h1
      have hx := hin p.1 o n c' w' rfl (by omega) e2
      rw [hul] at hx
      exact ⟨_, _, φ, H', w', hx, e1, EX.refl _ _, e3, e4, mv_len hs hp rfl⟩
    · cases h
  · split at h
    case isFalse => cases h
    rename_i hneed
    have hneed := Nat.le_of_ble_eq_true hneed
    split at h
    · rename_i b
      split at h
      · rename_i xs hbig hxs
        have hbig := Nat.le_of_ble_eq_true hbig
        unfold moveX at h
        rw [getL_eq] at h
        split at h
        case h_2 => cases h
        rename_i B hB
        split at h
        case isFalse => cases h
        rename_i hBB
        rw [Bool.and_eq_true] at hBB
        have hty := Nat.eq_of_beq_eq_true hBB.2
        rw [setLK_eq] at h
        obtain ⟨p, c', hp, rfl, hc⟩ := mv_slice hs
        rcases hc with ⟨hc, _⟩ | ⟨_, rfl, hc2⟩
        · omega
        obtain ⟨zs, z1, z2, z3, z4, z5⟩ := read_ok hW hp n 0 xs hxs
        obtain ⟨q, cs, hq, hb, hcs, _⟩ := hW.blk b B hB hBB.1
        rw [hp] at hq
        have hq := Option.some.inj hq
        subst hq
        have hmm := mvs_app z1 hm
        by_cases hle : n + us.length ≤ p.2 - 0
        · obtain ⟨w', ds, e1, e2, e3, e4, e5, e6⟩ := store_row (base := 0 + n) us 0 cs w hb (by omega) (ones_of hm h1)
          have hx := hin p.1 0 n (p.2 - 0) w' rfl hle e1
          obtain ⟨a1, a2, a3, a4⟩ := hW.again hB hBB.1 hp e6 e2 (by omega) (xs := xs ++ ys) (fun j x hx => by
            obtain ⟨o1, y, hy, hm1⟩ := mvs_one hmm (all_app z5 h1) j x hx
            refine ⟨o1, y, ?_, hm1⟩
            by_cases hj : j < n
            · rw [List.getElem?_append_left (by omega)] at hy
              have := z4 j y hy
              rw [hb.cell, Nat.zero_add] at this
              rw [e4 j (by omega)]; exact this
            · rw [List.getElem?_append_right (by omega)] at hy
              have := e5 _ _ hy
              rw [show 0 + n + 0 + (j - zs.length) = j by omega] at this
              exact this)
          unfold newX at h
          rw [natK_eq, pushK_eq, ← hty] at h
          refine ⟨_, _, _, _, w', hx, h, a3, a1, a2, ?_⟩
          rw [mv_sliceB a4 (by omega) (by omega), hul]
        · have hload : ∀ w1 : World, w1.heap = w.heap → (Builtin.firstCells 1 n (.slice (some ⟨p.1, 0, none⟩) n (p.2 - 0))).run Tryz.prog w1 = .ok ⟨zs⟩ w1 := fun w1 hw1 => by
            rw [fst_src]
            have := run_loadCells_list (P := Tryz.prog) w1 ⟨p.1, 0, none⟩ zs (fun j v hv => by rw [add_off, cell_heap hw1]; exact z4 j v hv)
            rw [z3] at this; exact this
          obtain ⟨nc, hnc, hnc2, hx⟩ := hnew _ n (p.2 - 0) zs rfl hle (by omega) hload
          obtain ⟨ψ, g1, g2, g3, g4, g5⟩ := new_ok ((hW.kill hB).drew) h hmm (all_app z5 h1) (List.replicate (nc - (n + us.length)) z) (by simp; omega)
          refine ⟨_, _, ψ, _, _, hx, g1, g2, g3, (FR.drew w).trans (EX.refl _ _) g4, ?_⟩
          have e5 : (zs ++ us).length + (List.replicate (nc - (n + us.length)) z).length = nc := by simp; omega
          rw [e5] at g5
          rw [mv_sliceB g5 (by omega) (by simp only; omega), hul]
          simp only [Nat.sub_zero]
      · cases h
    · split at h
      · rename_i h0
        rw [Bool.and_eq_true] at h0
        have hn := Nat.eq_of_beq_eq_true h0.1
        have hc := Nat.eq_of_beq_eq_true h0.2
        subst hn; subst hc
        have e := (Option.some.inj hs).symm
        subst e
        obtain ⟨nc, hnc, hnc2, hx⟩ := hnew none 0 0 [] rfl (by omega) (by omega) (fun w1 _ => by simp [Builtin.firstCells])
        obtain ⟨ψ, g1, g2, g3, g4, g5⟩ := new_ok hW.drew h hm h1 (List.replicate (nc - (0 + us.length)) z) (by simp; omega)
        refine ⟨_, _, ψ, _, _, hx, g1, g2, g3, (FR.drew w).trans (EX.refl _ _) g4, ?_⟩
        have e5 : us.length + (List.replicate (nc - (0 + us.length)) z).length = nc := by simp; omega
        rw [e5] at g5
        rw [mv_sliceB g5 (by omega) (by simp only; omega), hul]
        simp only [Nat.sub_zero, Nat.zero_add]
      · cases h
    · cases h
end
end Go.Proofs.YtiegapnfbeemcaaGreatDoor.X

namespace Go.Proofs.YtiegapnfbeemcaaGreatDoor.X
set_option maxRecDepth 100000
open Go.RowKit

section
variable {φ : Env} {H : Heap} {w : World}
theorem mvs_1 {v : Value} {us : List Value} (h : mvs φ [v] = some us) : ∃ u, us = [u] ∧ mv1 φ v = some u := by
  unfold mvs at h
  split at h
  · rename_i y ys hy hys
    have hys := (Option.some.inj hys).symm
    have h := (Option.some.inj h).symm
    subst hys
    exact ⟨y, h, hy⟩
  · cases h
theorem mvs_2 {v x : Value} {us : List Value} (h : mvs φ [v, x] = some us) : ∃ u y, us = [u, y] ∧ mv1 φ v = some u ∧ mv1 φ x = some y := by
  unfold mvs at h
  split at h
  · rename_i y ys hy hys
    obtain ⟨u, rfl, hu⟩ := mvs_1 hys
    have h := (Option.some.inj h).symm
    exact ⟨y, u, h, hy, hu⟩
  · cases h
theorem sl_of {A : Option Addr} {n c : Nat} {u : Value} (h : mv1 φ (.slice A n c) = some u) : ∃ A' c', u = .slice A' n c' ∧ (A = none → A' = none ∧ c' = c) := by
  cases A with
  | none => exact ⟨none, c, (Option.some.inj h).symm, fun _ => ⟨rfl, rfl⟩⟩
  | some a =>
    obtain ⟨b, o, s⟩ := a
    cases s with
    | some s => cases h
    | none =>
      obtain ⟨p, c', _, e, _⟩ := mv_slice (φ := φ) h
      exact ⟨_, c', e, fun e => by cases e⟩
theorem mvk_int (k : IntKind) (n : Int) : mv φ (.int k n) = some (.int k n) := rfl
theorem pure_ok {b : Builtin} {ts : Array TypeId} {vs us : List Value} {v : Value} (h : pureB b ts.toList vs = some v) (hm : mvs φ vs = some us) (ty : TypeId) (cs : Array Bool) :
    (builtin b ts ty cs ⟨us⟩).run Tryz.prog w = .ok (.value v) w ∧ mv φ v = some v := by
  obtain ⟨tl⟩ := ts
  simp only at h
  unfold pureB at h
  split at h
  · rename_i t A n c
    split at h
    · rename_i e he
      obtain ⟨u, rfl, hu⟩ := mvs_1 hm
      obtain ⟨A', c', rfl, _⟩ := sl_of hu
      have h := Option.some.inj h
      subst h
      exact ⟨run_v (run_len (e := e.1) (z := e.2) he A' n c' ty), mvk_int _ _⟩
    · cases h
  · rename_i t s
    split at h
    · rename_i ht
      have ht := Nat.eq_of_beq_eq_true ht
      subst ht
      obtain ⟨u, rfl, hu⟩ := mvs_1 hm
      have hu := (Option.some.inj hu).symm
      subst hu
      have h := Option.some.inj h
      subst h
      exact ⟨run_v (run_lenS s ty), mvk_int _ _⟩
    · cases h
  · rename_i t A n c
    split at h
    · rename_i e he
      split at h
      · rename_i hc
        have hc := blt_of hc
        obtain ⟨u, rfl, hu⟩ := mvs_1 hm
        have : ∃ A', u = .slice A' n c := by
          cases A with
          | none => exact ⟨none, (Option.some.inj hu).symm⟩
          | some a =>
            obtain ⟨b, o, s⟩ := a
            cases s with
            | some s => cases hu
            | none =>
              obtain ⟨p, c', _, e, hcc⟩ := mv_slice (φ := φ) hu
              rcases hcc with ⟨_, rfl⟩ | ⟨h2, _⟩
              · exact ⟨_, e⟩
              · omega
        obtain ⟨A', rfl⟩ := this
        have h := Option.some.inj h
        subst h
        exact ⟨run_v (run_cap (e := e.1) (z := e.2) he A' n c ty), mvk_int _ _⟩
      · cases h
    · cases h
  · rename_i x y
    obtain ⟨u1, u2, rfl, h1, h2⟩ := mvs_2 hm
    have h1 := (Option.some.inj h1).symm
    have h2 := (Option.some.inj h2).symm
    subst h1; subst h2
    have h := Option.some.inj h
    subst h
    refine ⟨(run_v (run_min x y _ ty)).trans ?_, mvk_int _ _⟩
    rw [ltI_eq]
    by_cases hyx : y < x <;> simp [hyx]
  · cases h
theorem built_ok {β : Type} (hW : WR φ H w) {b : Builtin} {ts : Array TypeId} {vs us : List Value} {k : Value → Heap → Option β} {r : β} (h : builtX b ts.toList vs H k = some r) (hm : mvs φ vs = some us) (ty : TypeId) (cs : Array Bool) :
    ∃ v v' ψ H' w', (builtin b ts ty cs ⟨us⟩).run Tryz.prog w = .ok (.value v') w' ∧ k v H' = some r ∧ EX φ ψ w ∧ WR ψ H' w' ∧ FR φ w w' ∧ mv ψ v = some v' := by
  obtain ⟨tl⟩ := ts
  simp only at h
  unfold builtX at h
  split at h
  · split at h
    · rename_i v hv
      exact ⟨v, v, φ, H, w, (pure_ok hv hm ty cs).1, h, EX.refl _ _, hW, FR.refl _ _, (pure_ok (w := w) hv hm ty cs).2⟩
    · cases h
  · split at h
    · rename_i v hv
      exact ⟨v, v, φ, H, w, (pure_ok hv hm ty cs).1, h, EX.refl _ _, hW, FR.refl _ _, (pure_ok (w := w) hv hm ty cs).2⟩
    · cases h
  · split at h
    · rename_i v hv
      exact ⟨v, v, φ, H, w, (pure_ok hv hm ty cs).1, h, EX.refl _ _, hW, FR.refl _ _, (pure_ok (w := w) hv hm ty cs).2⟩
    · cases h
  · rename_i t u b o n c d i m f
    split at h
    · rename_i e xs he hxs
      obtain ⟨u1, u2, rfl, h1, h2⟩ := mvs_2 hm
      obtain ⟨p, c', hp, rfl, _⟩ := mv_slice (φ := φ) h1
      obtain ⟨q, f', hq, rfl, _⟩ := mv_slice (φ := φ) h2
      obtain ⟨ys, hy, _, _, hl, ha⟩ := load_ok hW hq hxs
      obtain ⟨H', w', e1, e2, e3, e4⟩ := write_ok (base := o) hp xs ys o 0 H w hW rfl h hy ha
      exact ⟨_, _, φ, H', w', run_v (run_copy (e := e.1) (z := e.2) he ty hl e2), e1, EX.refl _ _, e3, e4, mvk_int _ _⟩
    · cases h
  · rename_i t c
    split at h
    · rename_i e he
      obtain ⟨u, rfl, hu⟩ := mvs_1 hm
      obtain ⟨A', c', rfl, hA⟩ := sl_of hu
      obtain ⟨rfl, rfl⟩ := hA rfl
      exact ⟨_, _, φ, H, w, run_v (run_clear0 (e := e.1) (z := e.2) he _ ty), h, EX.refl _ _, hW, FR.refl _ _, rfl⟩
    · cases h
  · rename_i t b o n c
    split at h
    · rename_i e z he
      rw [repK_eq, List.append_nil] at h
      obtain ⟨u, rfl, hu⟩ := mvs_1 hm
      obtain ⟨p, c', hp, rfl, _⟩ := mv_slice (φ := φ) hu
      have hz := (und_of he).2.2.2.1
      obtain ⟨H', w', e1, e2, e3, e4⟩ := write_ok (base := o) hp _ _ o 0 H w hW rfl h (mvs_rep hz n) (all_rep hz n)
      exact ⟨_, _, φ, H', w', run_v (run_clear he ty e2), e1, EX.refl _ _, e3, e4, rfl⟩
    · cases h
  · rename_i t u A n c m
    split at h
    · rename_i e z he
      split at h
      · rename_i hc
        rw [Bool.and_eq_true, Bool.and_eq_true] at hc
        have hu3 := Nat.eq_of_beq_eq_true hc.1.1
        have hm0 := blt_of hc.1.2
        have hm1 := Nat.le_of_ble_eq_true hc.2
        subst hu3
        rw [repK_eq, List.append_nil] at h
        obtain ⟨u1, u2, rfl, h1, h2⟩ := mvs_2 hm
        have h2 := (Option.some.inj h2).symm
        subst h2
        have hz := (und_of he).2.2.2.1
        have hln : (List.replicate m z).length = m := by simp
        obtain ⟨v, v', ψ, H', w', r1, r2⟩ := grow_ok (z := z) hW (s' := u1) h1 (mvs_rep hz m) (all_rep hz m) (by simp; exact hm0) h (X := Builtin.append_ #[t, 3] ty #[u1, .int .i64 (m : Int)])
          (fun g o n' c' w' e1 e2 e3 => by
            subst e1
            rw [hln] at e2 ⊢
            exact run_appZ_in he ty hm0 hm1 e2 e3)
          (fun A' n' c' ol e1 e2 e3 e4 => by
            subst e1
            rw [hln] at e2 e3 ⊢
            exact run_appZ_new he ty hm0 hm1 e2 e3 e4)
        exact ⟨v, v', ψ, H', w', run_v r1, r2⟩
      · cases h
    · cases h
  · rename_i t u A n c d i m f
    split at h
    · rename_i e z0 e2 ys he hu hys
      split at h
      · rename_i hm0
        have hm0 := blt_of hm0
        obtain ⟨u1, u2, rfl, h1, h2⟩ := mvs_2 hm
        obtain ⟨q, f', hq, rfl, _⟩ := mv_slice (φ := φ) h2
        obtain ⟨zs, z1, z2, z3, z4, z5⟩ := read_ok hW hq m i ys hys
        have hld : ∀ w1 : World, w1.heap = w.heap → (loadCells ⟨q.1, i, none⟩ m).run Tryz.prog w1 = .ok ⟨zs⟩ w1 := fun w1 hw1 => by
          have := run_loadCells_list (P := Tryz.prog) w1 ⟨q.1, i, none⟩ zs (fun j v hv => by rw [add_off, cell_heap hw1]; exact z4 j v hv)
          rw [z3] at this; exact this
        obtain ⟨v, v', ψ, H', w', r1, r2⟩ := grow_ok (z := z0) hW (s' := u1) h1 z1 z5 (by omega) h (X := Builtin.append_ #[t, u] ty #[u1, .slice (some ⟨q.1, i, none⟩) m f'])
          (fun g o n' c' w' e1 e2 e3 => by
            subst e1
            rw [z3] at e2 ⊢
            exact run_appS_in he hu ty e2 (hld w rfl) e3)
          (fun A' n' c' ol e1 e2 e3 e4 => by
            subst e1
            rw [z3] at e2 e3 ⊢
            exact run_appS_new he hu ty e2 e3 hld e4)
        exact ⟨v, v', ψ, H', w', run_v r1, r2⟩
      · cases h
    · cases h
  · cases h
end
end Go.Proofs.YtiegapnfbeemcaaGreatDoor.X
