/- The reference's keys of the rounds. No condition but where the key lies. -/
import Derived.Test.YtkfagcpboehjjaaDoorSpb
import Derived.Test.YtkfagcpboehjjaaDoorSubk
import Derived.Test.YtkfagcpboehjjaaDoorMode
import Derived.Laws.Rows
import Derived.Test.YtkfagcpboehjjaaDoorAllo
import Derived.Laws.ResultCell
namespace Go.Proofs.YtkfagcpboehjjaaDoor
set_option maxRecDepth 100000
open Go.RowKit

theorem Src.four {w : World} {ad : Addr} {n : Nat} {f : Nat → Int} (h : Src w ad n f) (o : Nat) (ho : o + 4 ≤ n) : Src w (ad.add o) 4 (fun j => f (o + j)) := fun j hj => by
  have := h (o + j) (by omega)
  rw [← this]
  congr 1
  unfold Addr.add
  by_cases h1 : o = 0
  · subst h1; simp
  · by_cases h2 : j = 0
    · subst h2; simp [h1]
    · have : ¬ o + j = 0 := by omega
      simp [h1, h2, Nat.add_assoc]

theorem Src.four' {w : World} {ad : Addr} {n : Nat} {f : Nat → Int} (h : Src w ad n f) (o : Nat) (h0 : 0 < o) (ho : o + 4 ≤ n) : Src w ⟨ad.block, ad.off + o, none⟩ 4 (fun j => f (o + j)) := by
  have := h.four o ho
  unfold Addr.add at this
  rw [if_neg (by omega)] at this
  exact this

theorem Src.drewN' {w : World} {ad : Addr} {n : Nat} {f : Nat → Int} (h : Src w ad n f) (k : Nat) : Src (w.drewN k) ad n f := h
theorem zero47 (w : World) : (zeroValue 47).run Tryd.prog w = .ok (.agg (ZU 32)) w := by kernel_rfl
theorem zero64 (w : World) : (zeroValue 64).run Tryd.prog w = .ok (.agg (ZU 36)) w := by kernel_rfl
theorem ArrU.zeros (w : World) (n : Nat) (t : TypeId) : ArrU (w.alloc (.cells (ZU n) t)) w.heap.size t n (fun _ => 0) := ⟨ZU n, Blk.new w t _, by simp [ZU], fun j hj => by simp [ZU, hj]⟩
theorem info64 : (Tryd.prog.info? 64).map (·.size) = some 36 := by kernel_rfl
theorem info47 : (Tryd.prog.info? 47).map (·.size) = some 32 := by kernel_rfl

/-- Four words and zeros. -/
def x4F (a b c d : Int) (j : Nat) : Int := if j < 4 then q4 a b c d j else 0
def X4 (a b c d : Int) : Array Value := #[.int .u32 a, .int .u32 b, .int .u32 c, .int .u32 d] ++ ZU 32
theorem ZU_size (n : Nat) : (ZU n).size = n := by simp [ZU]
theorem X4_size (a b c d : Int) : (X4 a b c d).size = 36 := by unfold X4; rw [Array.size_append, ZU_size]; rfl
theorem x4_cells (a b c d : Int) (j : Nat) (hj : j < 36) : (X4 a b c d)[j]? = some (.int .u32 (x4F a b c d j)) := by
  unfold x4F X4
  by_cases h4 : j < 4
  · rw [if_pos h4]
    rw [Array.getElem?_append_left (by simp; omega)]
    rcases lt4 h4 with rfl | rfl | rfl | rfl <;> simp [q4]
  · rw [if_neg h4, Array.getElem?_append_right (by simp; omega)]
    unfold ZU
    rw [Array.getElem?_replicate, if_pos (by simp; omega)]
theorem cells_one {cs : Array Value} {n : Nat} {g : Nat → Int} (hs : cs.size = n) (h : ∀ j, j < n → cs[j]? = some (.int .u32 (g j))) : cs.all (·.oneCell') = true := by
  rw [Array.all_eq_true]
  intro j hj
  have h1 := h j (by omega)
  rw [Array.getElem?_eq_getElem hj] at h1
  injection h1 with h1
  rw [h1]
  rfl
theorem X4_one (a b c d : Int) : (X4 a b c d).all (·.oneCell') = true := cells_one (X4_size a b c d) (x4_cells a b c d)
theorem bodyPost_cell {P : Program} {fn : Func} {R : Ending → World → Prop} {a : Act} {w : World} {p : Tmp} {ty : TypeId} (h : fn.results = #[.cell p ty]) (hd0 : a.defers = []) (g : Nat) (t : TypeId) (cs : Array Value) (fr : Nat × Nat) (d : TypeDesc)
    (hp : a.tmps.getD p undef = .pointer (some ⟨g, 0, none⟩)) (hg : w.heap[g]? = some (.cells cs t fr)) (hu : P.underlying ty = some d) (hd : (match d with | .struct _ | .array _ _ => true | _ => false) = true) (hi : (P.info? ty).map (·.size) = some cs.size)
    (hR : R (.returned (.agg cs)) w) : bodyPost P fn R .ret a w :=
  ⟨hd0, .agg cs, results_cell_row h a.tmps w g t cs fr d hp hg hu hd hi, hR⟩
theorem store36 {w w1 : World} {a b c d : Int} {nq : Nat} (hw : w1 = w.alloc (.cells (ZU 36) 64)) :
    Only [] w ((w1.drewN nq).setRow w.heap.size (X4 a b c d)) ∧ ArrU ((w1.drewN nq).setRow w.heap.size (X4 a b c d)) w.heap.size 64 36 (x4F a b c d) ∧ ((w1.drewN nq).setRow w.heap.size (X4 a b c d)).heap.size = w.heap.size + 1 := by
  subst hw
  refine ⟨(((Only.refl [] w).alloc _).drewN nq).then_ (Only.setRow w.heap.size (X4 a b c d)) (by intro x hx hl; simp at hx; omega), ⟨X4 a b c d, setRow_heap _ _ (ZU 36) (X4 a b c d) 64 (0, 0) (heap_alloc_new w _), X4_size a b c d, x4_cells a b c d⟩, by simp⟩

/-- The constants of the keys. -/
def ckp (k : Nat) : Nat → Int
  | 0 => 0
  | j + 1 => bits .or .u32 (ckp k j * 256 % 4294967296) (((4 * k + j) * 7 % 256 : Nat) : Int)
theorem ckp_all : ((List.range 32).all fun k => decide (ckp k 4 = CK.getD k 0)) = true := by kernel_rfl
theorem ckp_eq (k : Nat) (h : k < 32) : ckp k 4 = CK.getD k 0 := of_decide_eq_true (List.all_eq_true.1 ckp_all k (List.mem_range.2 h))
theorem ckp_place (k j : Nat) (hk : k < 32) (hj : j < 4) : ∃ a b m r : Nat, IntKind.i64.wrap (4 * (k : Int)) = (a : Int) ∧ IntKind.i64.wrap ((a : Int) + (j : Int)) = (b : Int) ∧ IntKind.i64.wrap ((b : Int) * 7) = (m : Int) ∧ (m : Int) % 256 = (r : Int) ∧ (r : Int) ≤ 255 ∧ Hid (r = (4 * k + j) * 7 % 256) :=
  ⟨4 * k, 4 * k + j, (4 * k + j) * 7, (4 * k + j) * 7 % 256, by rw [IntWalk.i64_in _ (by omega)]; omega, by rw [IntWalk.i64_in _ (by omega)]; omega, by rw [IntWalk.i64_in _ (by omega)]; omega, by omega, by omega, Lib.hid rfl⟩
theorem quint (k : Nat) (hk : k < 32) : ∃ p1 p2 p3 p4 : Nat, IntKind.i64.wrap ((k : Int) + 1) = (p1 : Int) ∧ IntKind.i64.wrap ((k : Int) + 2) = (p2 : Int) ∧ IntKind.i64.wrap ((k : Int) + 3) = (p3 : Int) ∧ IntKind.i64.wrap ((k : Int) + 4) = (p4 : Int) ∧
    ((p1 : Int) < 36 ∧ (p2 : Int) < 36 ∧ (p3 : Int) < 36 ∧ (p4 : Int) < 36) ∧ Hid (p1 = k + 1 ∧ p2 = k + 2 ∧ p3 = k + 3 ∧ p4 = k + 4) :=
  ⟨k + 1, k + 2, k + 3, k + 4, by rw [IntWalk.i64_in _ (by omega)]; omega, by rw [IntWalk.i64_in _ (by omega)]; omega, by rw [IntWalk.i64_in _ (by omega)]; omega, by rw [IntWalk.i64_in _ (by omega)]; omega, by omega, Lib.hid ⟨rfl, rfl, rfl, rfl⟩⟩
def KS (f : Nat → Int) (j : Nat) : Int := fei keyS (k0F f) (fun i => CK.getD i 0) j
theorem KS_key (f : Nat → Int) (j : Nat) : KS f (j + 4) = keyF f j := (fei_congr (fun a _ _ _ _ => key_eq a _) (fun _ _ => rfl) _).symm
theorem KS_next (f : Nat → Int) (k : Nat) : KS f (k + 4) = keyS (KS f k) (xr (xr (xr (KS f (k + 1)) (KS f (k + 2))) (KS f (k + 3))) (CK.getD k 0)) := fei_next _ _ _ _
theorem KS_low (f : Nat → Int) (j : Nat) (h : j < 4) : KS f j = k0F f j := fei_low _ _ _ _ h

set_option maxHeartbeats 4000000 in
theorem rounds_any (ad : Addr) (n c : Nat) (f : Nat → Int) (w : World) (hn : 16 ≤ n) (hc : n ≤ c) (hs : Src w ad 16 f) (hf : Bf f) (hl : ad.block < w.heap.size) :
    Calls Tryd.prog 26 #[.slice (some ad) n c] w fun e w' => ∃ cs, e = .returned (.agg cs) ∧ cs.size = 32 ∧ (∀ j, j < 32 → cs[j]? = some (.int .u32 (keyF f j))) ∧ Only [] w w' := by
  have s0 : Src w ad 4 (fun j => f j) := fun j hj => hs j (by omega)
  have s1 := hs.four' 4 (by omega) (by omega)
  have s2 := hs.four' 8 (by omega) (by omega)
  have s3 := hs.four' 12 (by omega) (by omega)
  have n4 : (4 : Int) ≤ (n : Int) := by omega
  have n8 : (8 : Int) ≤ (n : Int) := by omega
  have n12 : (12 : Int) ≤ (n : Int) := by omega
  have c4 : ¬ c = 4 := by omega
  have c8 : ¬ c = 8 := by omega
  have c12 : ¬ c = 12 := by omega
  have hz47 := zero47
  have hz64 := zero64
  go_enter Tryd.func26, Tryd.ntmps26
  go_wp2_with fail
  obtain ⟨w1, hw1⟩ : ∃ w1, w1 = w.alloc (.cells (ZU 32) 47) := ⟨_, rfl⟩
  rw [← hw1]
  have ho1 : Only [] w w1 := by rw [hw1]; exact (Only.refl _ _).alloc _
  have hr1 : ArrU w1 w.heap.size 47 32 (fun _ => 0) := by rw [hw1]; exact ArrU.zeros w 32 47
  have hs1 : w1.heap.size = w.heap.size + 1 := by rw [hw1]; simp
  obtain ⟨Wb, hb0, hb1⟩ : ∃ Wb : Bool → World, Wb false = w1 ∧ Wb true = w1.alloc (.cells (ZU 36) 64) := ⟨fun b => if b then w1.alloc (.cells (ZU 36) 64) else w1, rfl, rfl⟩
  have t0 := s0.only ho1 hl (by simp)
  have u0 := s0.only (ho1.alloc (.cells (ZU 36) 64)) hl (by simp)
  have t1 := s1.only ho1 hl (by simp)
  have u1 := s1.only (ho1.alloc (.cells (ZU 36) 64)) hl (by simp)
  have t2 := s2.only ho1 hl (by simp)
  have u2 := s2.only (ho1.alloc (.cells (ZU 36) 64)) hl (by simp)
  have t3 := s3.only ho1 hl (by simp)
  have u3 := s3.only (ho1.alloc (.cells (ZU 36) 64)) hl (by simp)
  have k0 := fun W (h : Src W ad 4 (fun j => f j)) => word_any ad n c (fun j => f j) W (by omega) (fun j _ => hf _) h
  have k1 := fun W (h : Src W ⟨ad.block, ad.off + 4, none⟩ 4 (fun j => f (4 + j))) => word_any ⟨ad.block, ad.off + 4, none⟩ (n - 4) (c - 4) (fun j => f (4 + j)) W (by omega) (fun j _ => hf _) h
  have k2 := fun W (h : Src W ⟨ad.block, ad.off + 8, none⟩ 4 (fun j => f (8 + j))) => word_any ⟨ad.block, ad.off + 8, none⟩ (n - 8) (c - 8) (fun j => f (8 + j)) W (by omega) (fun j _ => hf _) h
  have k3 := fun W (h : Src W ⟨ad.block, ad.off + 12, none⟩ 4 (fun j => f (12 + j))) => word_any ⟨ad.block, ad.off + 12, none⟩ (n - 12) (c - 12) (fun j => f (12 + j)) W (by omega) (fun j _ => hf _) h
  clear s0 s1 s2 s3 hw1
  refine region_alloc_tail (C := fun b W => ∃ n, W = (Wb b).drewN n) 17 16 16 _ (.pointer (some ⟨w.heap.size + 1, 0, none⟩)) rfl (by kernel_rfl) (by kernel_rfl) rfl rfl rfl ⟨1, by rw [hb0]; rfl⟩ ?hal ?hrest
  case hal =>
    rintro a _ K ⟨nq, rfl⟩ hK
    rw [hb0]
    go_simp
    exact hK _ ⟨nq, by rw [hb1]; first | rfl | skip⟩
  case hrest =>
    simp only [List.take_succ_cons, List.take_zero, List.drop_succ_cons, List.drop_zero]
    repeat ((refine wpQuietB_step (fun K hK => ?_); go_simp; first | (refine hK _ ?_; clear hK K) | (apply Exists.intro; refine ⟨⟨fun _ => ?_, fun _ => ?_⟩, hK _ ?_⟩; ((go_at_call 46; with_reducible (first | exact Calls.quiet_of (k0 _ (t0.drewN' _)) | exact Calls.quiet_of (k0 _ (u0.drewN' _)) | exact Calls.quiet_of (k1 _ (t1.drewN' _)) | exact Calls.quiet_of (k1 _ (u1.drewN' _)) | exact Calls.quiet_of (k2 _ (t2.drewN' _)) | exact Calls.quiet_of (k2 _ (u2.drewN' _)) | exact Calls.quiet_of (k3 _ (t3.drewN' _)) | exact Calls.quiet_of (k3 _ (u3.drewN' _))))); ((go_at_call 46; with_reducible (first | exact Calls.quiet_of (k0 _ (t0.drewN' _)) | exact Calls.quiet_of (k0 _ (u0.drewN' _)) | exact Calls.quiet_of (k1 _ (t1.drewN' _)) | exact Calls.quiet_of (k1 _ (u1.drewN' _)) | exact Calls.quiet_of (k2 _ (t2.drewN' _)) | exact Calls.quiet_of (k2 _ (u2.drewN' _)) | exact Calls.quiet_of (k3 _ (t3.drewN' _)) | exact Calls.quiet_of (k3 _ (u3.drewN' _))))); clear hK K)))
    refine wpQuietB_build rfl 64 _ rfl (X4 (k0F f 0) (k0F f 1) (k0F f 2) (k0F f 3)) (by kernel_rfl) ?_
    refine wpQuietB_nil ?_
    rintro _ ⟨nq, rfl⟩
    have hrow : ((Wb true).drewN nq).heap[w.heap.size + 1]? = some (.cells (ZU 36) 64 (0, 0)) := by
      rw [hb1, ← hs1]
      exact (show (w1.alloc (.cells (ZU 36) 64)).heap[w1.heap.size]? = _ from heap_alloc_new w1 _)
    refine wpList_store_row rfl 64 _ _ rfl (w.heap.size + 1) (X4 (k0F f 0) (k0F f 1) (k0F f 2) (k0F f 3)) rfl rfl 64 (ZU 36) hrow (by rw [X4_size]; exact info64) (by rw [X4_size]; simp [ZU]) (X4_one _ _ _ _) ?_
    obtain ⟨ho2', hx2, hs2⟩ := store36 (a := k0F f 0) (b := k0F f 1) (c := k0F f 2) (d := k0F f 3) (nq := nq) hb1
    rw [hs1] at ho2' hx2 hs2
    generalize hW : ((Wb true).drewN nq).setRow (w.heap.size + 1) (X4 (k0F f 0) (k0F f 1) (k0F f 2) (k0F f 3)) = w2 at *
    have ho2 : Only [] w w2 := ho1.trans ho2'
    have hr2 : ArrU w2 w.heap.size 47 32 (fun _ => 0) := hr1.only ho2' (by simp)
    clear hW hb0 hb1 Wb t0 t1 t2 t3 u0 u1 u2 u3 k0 k1 k2 k3 hrow hr1 ho1 ho2' hs1
    have hx3 := hx2.alloc (.cells (ZU 32) 47)
    have hg3 := ArrU.zeros w2 32 47
    have hr3 := hr2.alloc (.cells (ZU 32) 47)
    have ho3 := ho2.alloc (.cells (ZU 32) 47)
    rw [hs2] at hg3
    obtain ⟨gr, hgr⟩ : ∃ gr, gr = w.heap.size := ⟨_, rfl⟩
    obtain ⟨gx, hgx⟩ : ∃ gx, gx = w.heap.size + 1 := ⟨_, rfl⟩
    obtain ⟨go, hgo⟩ : ∃ go, go = w.heap.size + 1 + 1 := ⟨_, rfl⟩
    rw [← hgo] at hg3
    rw [← hgx] at hx3
    rw [← hgr] at hr3
    clear hr2 hx2
    go_wp2_with fail
    rw [← hgo, ← hgx, ← hgr]
    have HGO := Lib.hid hgo
    have HGX := Lib.hid hgx
    have HGR := Lib.hid hgr
    clear hgo hgx hgr
    go_loopw [25] (fun i wr => ∃ k : Nat, k ≤ 32 ∧ i = .int .i64 k ∧ Only [] w wr ∧ ArrU wr gx 64 36 (fun j => if j < k + 4 then KS f j else 0) ∧ ArrU wr go 47 32 (fun j => if j < k then keyF f j else 0) ∧ ArrU wr gr 47 32 (fun _ => 0)) (fun i _ => 32 - (intOf i).toNat)
    case atStart =>
      refine ⟨0, by omega, rfl, ho3, hx3.congr fun j _ => ?_, hg3.congr fun j _ => by rw [if_neg (by omega)], hr3⟩
      unfold x4F
      by_cases h4 : j < 4
      · rw [if_pos h4, if_pos (by omega), KS_low f j h4]
        rcases lt4 h4 with rfl | rfl | rfl | rfl <;> rfl
      · rw [if_neg h4, if_neg (by omega)]
    case round =>
      clear hx3 hg3 hr3 ho3
      obtain ⟨k, hk, rfl, ho, hx, hg, hr⟩ := hrel
      by_cases hlt : k < 32
      · have l1 : (k : Int) < 32 := by omega
        obtain ⟨p1, p2, p3, p4, e1, e2, e3, e4, ⟨q1, q2, q3, q4⟩, HP⟩ := quint k hlt
        go_wp2_with fail
        go_loopw [28, 6] (fun i v wr' => ∃ j : Nat, j ≤ 4 ∧ i = .int .i64 j ∧ v = .int .u32 (ckp k j) ∧ wr' = wr) (fun i _ _ => 4 - (intOf i).toNat)
        case atStart => exact ⟨0, by omega, rfl, rfl, rfl⟩
        case round =>
          obtain ⟨j, hj, rfl, rfl, rfl⟩ := hrel
          by_cases hj4 : j < 4
          · obtain ⟨a, b, m, r, y1, y2, y3, y4, y5, HR⟩ := ckp_place k j hlt hj4
            have l2 : (j : Int) < 4 := by omega
            obtain ⟨z, ez, HZ⟩ : ∃ z, bits .or .u32 (ckp k j * 256 % 4294967296) (r : Int) = z ∧ Hid (z = ckp k (j + 1)) := ⟨_, rfl, Lib.hid (by rw [HR.out]; rfl)⟩
            go_wp2_with fail
            go_roundw
            case rel => exact ⟨j + 1, by omega, by go_num, by rw [HZ.out], by first | rfl | trivial⟩
            case measure => simp [intOf]; omega
          · obtain rfl : j = 4 := by omega
            obtain ⟨v0, c0, H0⟩ : ∃ x, wr.cell? ⟨gx, k, none⟩ = some (.int .u32 x) ∧ Hid (x = KS f k) := ⟨_, hx.cell (by omega), Lib.hid (by rw [if_pos (by omega)])⟩
            obtain ⟨v1, c1, H1⟩ : ∃ x, wr.cell? ⟨gx, p1, none⟩ = some (.int .u32 x) ∧ Hid (x = KS f (k + 1)) := ⟨_, hx.cell (by omega), Lib.hid (by rw [if_pos (by have := HP.out; omega), HP.out.1])⟩
            obtain ⟨v2, c2, H2⟩ : ∃ x, wr.cell? ⟨gx, p2, none⟩ = some (.int .u32 x) ∧ Hid (x = KS f (k + 2)) := ⟨_, hx.cell (by omega), Lib.hid (by rw [if_pos (by have := HP.out; omega), HP.out.2.1])⟩
            obtain ⟨v3, c3, H3⟩ : ∃ x, wr.cell? ⟨gx, p3, none⟩ = some (.int .u32 x) ∧ Hid (x = KS f (k + 3)) := ⟨_, hx.cell (by omega), Lib.hid (by rw [if_pos (by have := HP.out; omega), HP.out.2.2.1])⟩
            obtain ⟨v4, c4'⟩ : ∃ x, wr.cell? ⟨gx, p4, none⟩ = some (.int .u32 x) := ⟨_, hx.cell (by omega)⟩
            obtain ⟨v5, c5⟩ : ∃ x, wr.cell? ⟨go, k, none⟩ = some (.int .u32 x) := ⟨_, hg.cell (by omega)⟩
            have fz := hx.frozen p4
            have fz2 := hg.frozen k
            obtain ⟨ck, hck, HCK⟩ : ∃ x, ckp k 4 = x ∧ Hid (x = CK.getD k 0) := ⟨_, rfl, Lib.hid (ckp_eq k hlt)⟩
            obtain ⟨y, hy, ey, HY⟩ : ∃ y, U32 y ∧ bits .xor .u32 (bits .xor .u32 (bits .xor .u32 v1 v2) v3) ck = y ∧ Hid (y = xr (xr (xr v1 v2) v3) ck) := ⟨_, u32_bits _ _ _, rfl, Lib.hid rfl⟩
            have l3 : (k : Int) < 36 := by omega
            have hne : go ≠ gx := by have := HGO.out; have := HGX.out; omega
            have hbx : gx < w.heap.size → False := by have := HGX.out; omega
            have hbo : go < w.heap.size → False := by have := HGO.out; omega
            have hnr : gr ≠ gx ∧ gr ≠ go := by have := HGO.out; have := HGX.out; have := HGR.out; omega
            go_wp2_with fail
            go_quiet ((go_at_call 47; exact Calls.quiet_of (tau_any _ _ hy)))
            go_wp2_with fail
            have hoq := ho.drewN nq
            have hxq := hx.drewN nq
            have hgq := hg.drewN nq
            have hrq := hr.drewN nq
            have c0q : (wr.drewN nq).cell? ⟨gx, k, none⟩ = some (.int .u32 v0) := c0
            have c4q : (wr.drewN nq).cell? ⟨gx, p4, none⟩ = some (.int .u32 v4) := c4'
            have c5q : (wr.drewN nq).cell? ⟨go, k, none⟩ = some (.int .u32 v5) := c5
            have fzq : (wr.drewN nq).frozen? ⟨gx, p4, none⟩ = false := fz
            have fz2q : (wr.drewN nq).frozen? ⟨go, k, none⟩ = false := fz2
            clear ho hx hg hr c0 c1 c2 c3 c4' c5 fz fz2
            generalize wr.drewN nq = wq at *
            have r13 := fun (x : Int) (n : Nat) => Calls.quiet_of (rotate_any x 13 (wq.drewN n) (by decide))
            have r23 := fun (x : Int) (n : Nat) => Calls.quiet_of (rotate_any x 23 (wq.drewN n) (by decide))
            refine region_quiet_tail 14 (by kernel_rfl) (by kernel_rfl) ?_
            simp only [List.take_succ_cons, List.take_zero, List.drop_succ_cons, List.drop_zero]
            repeat (quiet_step ((go_at_call 48; with_reducible (first | exact r13 _ _ | exact r23 _ _))))
            refine wpQuiet_nil ?_
            intro _ hw'
            obtain ⟨nq2, rfl⟩ := hw'
            go_wp2_with fail
            have hz : keyS v0 y = KS f (k + 4) := by rw [KS_next, H0.out, HY.out, HCK.out, H1.out, H2.out, H3.out]
            obtain ⟨P1, _, _, P4⟩ := HP.out
            go_roundw
            case rel =>
              refine ⟨k + 1, by omega, by rw [P1], ((hoq.drewN nq2).setCell (p := ⟨gx, p4, none⟩) (fun h => (hbx h).elim) _).setCell (p := ⟨go, k, none⟩) (fun h => (hbo h).elim) _, ?_, ?_, ?_⟩
              · refine ((hxq.drewN nq2).set_ p4 (keyS v0 y) fun j hj => ?_).far (p := ⟨go, k, none⟩) (fun h => hne h.symm) _
                by_cases hj4 : j = p4
                · rw [if_pos hj4, if_pos (by omega), hz, hj4, P4]
                · rw [if_neg hj4]
                  by_cases h2 : j < k + 4
                  · rw [if_pos h2, if_pos (by omega)]
                  · rw [if_neg h2, if_neg (by omega)]
              · refine ((hgq.drewN nq2).far (p := ⟨gx, p4, none⟩) hne _).set_ k (keyS v0 y) fun j hj => ?_
                by_cases hj4 : j = k
                · rw [if_pos hj4, if_pos (by omega), hz, hj4, KS_key]
                · rw [if_neg hj4]
                  by_cases h2 : j < k
                  · rw [if_pos h2, if_pos (by omega)]
                  · rw [if_neg h2, if_neg (by omega)]
              · exact ((hrq.drewN nq2).far (p := ⟨gx, p4, none⟩) hnr.1 _).far (p := ⟨go, k, none⟩) hnr.2 _
            case measure => simp [intOf]; omega
      · obtain rfl : k = 32 := by omega
        obtain ⟨cs, hcs, hsz, hcell⟩ := hg
        obtain ⟨cr, hcr, hszr, _⟩ := hr
        have hone := cells_one hsz hcell
        go_wp2_with (first
          | (refine wpList_load_row rfl 47 _ rfl go rfl 47 cs (0, 0) _ hcs Tryd.underlying47 rfl (by rw [hsz]; exact info47) ?_)
          | (refine wpList_store_row rfl 47 _ _ rfl gr cs rfl rfl 47 cr hcr (by rw [hsz]; exact info47) (by rw [hszr, hsz]) hone ?_))
        refine bodyPost_cell rfl rfl gr 47 cs (0, 0) _ rfl (setRow_heap wr gr cr cs 47 (0, 0) hcr) Tryd.underlying47 rfl (by rw [hsz]; exact info47) ?_
        refine ⟨cs, rfl, hsz, fun j hj => by rw [hcell j hj, if_pos hj], ho.then_ (Only.setRow gr cs) (by intro x hx hl; simp at hx; have := HGR.out; omega)⟩
end Go.Proofs.YtkfagcpboehjjaaDoor
