/-
  (Suppressions).blocking: which of the three lists blocks.
-/
import Derived.Test.Qxb6629324aSmall
namespace Go.Proofs.Qxb6629324a
open Go.ChangeShapes Go.WideShapes Go.ChangeAt Go.RowKit

/-- which list blocks: 0, 1, 2; -1: none -/
def bw (z0 z1 z2 : Bool) (t : Int) : Int := if z0 = false then 0 else if z1 = false ∧ t = 0 then 1 else if z2 = false ∧ t = 1 then 2 else -1
/-- what stands of x in the answer at list i -/
def at_ (b i x : Int) : Int := if b = i then x else 0

theorem idx0 (n0 s0 n1 s1 n2 s2 : Int) : ∀ w : World, (Instr.index 48 (.agg #[.int .u64 n0, .int .i64 s0, .pointer none, .int .u64 n1, .int .i64 s1, .pointer none, .int .u64 n2, .int .i64 s2, .pointer none]) (.int .i64 0)).run Try.prog w = .ok (.agg #[.int .u64 n0, .int .i64 s0, .pointer none]) w := fun _ => by kernel_rfl
theorem idx1 (n0 s0 n1 s1 n2 s2 : Int) : ∀ w : World, (Instr.index 48 (.agg #[.int .u64 n0, .int .i64 s0, .pointer none, .int .u64 n1, .int .i64 s1, .pointer none, .int .u64 n2, .int .i64 s2, .pointer none]) (.int .i64 1)).run Try.prog w = .ok (.agg #[.int .u64 n1, .int .i64 s1, .pointer none]) w := fun _ => by kernel_rfl
theorem idx2 (n0 s0 n1 s1 n2 s2 : Int) : ∀ w : World, (Instr.index 48 (.agg #[.int .u64 n0, .int .i64 s0, .pointer none, .int .u64 n1, .int .i64 s1, .pointer none, .int .u64 n2, .int .i64 s2, .pointer none]) (.int .i64 2)).run Try.prog w = .ok (.agg #[.int .u64 n2, .int .i64 s2, .pointer none]) w := fun _ => by kernel_rfl

theorem results_pair_row {P : Program} {fn : Func} {p u : Tmp} {ty : TypeId} (h : fn.results = #[.cell p ty, .tmp u]) (tmps : Array Value) (w : World) (g : Nat) (t : TypeId) (cs : Array Value) (d : TypeDesc)
    (hp : tmps.getD p undef = .pointer (some ⟨g, 0, none⟩)) (hg : w.heap[g]? = some (.cells cs t (0, 0)))
    (hu : P.underlying ty = some d) (hd : (match d with | .struct _ | .array _ _ => true | _ => false) = true) (hi : (P.info? ty).map (·.size) = some cs.size) :
    (results fn tmps).run P w = .ok (.tuple #[.agg cs, tmps.getD u undef]) w := by
  rw [results_cell_tmp h, hp]
  simp [asAddr, run_loadVar_row w g t ty cs (0, 0) d hg hu hd hi]

theorem heap2_new (w : World) (A B : Obj) : ((w.alloc A).alloc B).heap[w.heap.size + 1]? = some B := heap_alloc2_new w A B
theorem below_blk {B k : Nat} {W w1 : World} {o : Obj} (hb : Below B W w1) (hk : k < B) (h : W.heap[k]? = some o) : w1.heap[k]? = some o := (hb.block k hk).trans h

set_option maxHeartbeats 2000000 in
theorem blocking_any (n0 s0 n1 s1 n2 s2 t : Int) (z0 z1 z2 : Bool) (w : World) (h0 : (n0 == 0 && s0 == 0) = z0) (h1 : (n1 == 0 && s1 == 0) = z1) (h2 : (n2 == 0 && s2 == 0) = z2) :
    Calls Try.prog 17 #[.agg #[.int .u64 n0, .int .i64 s0, .pointer none, .int .u64 n1, .int .i64 s1, .pointer none, .int .u64 n2, .int .i64 s2, .pointer none], .int .i64 t] w fun e w' =>
      e = .returned (.tuple #[.agg #[.int .u64 (at_ (bw z0 z1 z2 t) 0 n0), .int .i64 (at_ (bw z0 z1 z2 t) 0 s0), .pointer none, .int .u64 (at_ (bw z0 z1 z2 t) 1 n1), .int .i64 (at_ (bw z0 z1 z2 t) 1 s1), .pointer none, .int .u64 (at_ (bw z0 z1 z2 t) 2 n2), .int .i64 (at_ (bw z0 z1 z2 t) 2 s2), .pointer none], .bool (decide (0 ≤ bw z0 z1 z2 t))]) ∧ Below w.heap.size w w' := by
  have i0 := idx0 n0 s0 n1 s1 n2 s2
  have i1 := idx1 n0 s0 n1 s1 n2 s2
  have i2 := idx2 n0 s0 n1 s1 n2 s2
  have H0 : Hid ((n0 == 0 && s0 == 0) = z0) := h0
  have H1 : Hid ((n1 == 0 && s1 == 0) = z1) := h1
  have H2 : Hid ((n2 == 0 && s2 == 0) = z2) := h2
  clear h0 h1 h2
  obtain ⟨B, HB⟩ : ∃ B, Hid (bw z0 z1 z2 t = B) := ⟨_, rfl⟩
  rw [HB.out]
  go_enter Try.func17, Try.ntmps17
  go_wp2
  go_loopw [10] (fun i wr => ∃ k : Nat, k ≤ 3 ∧ i = .int .i64 k ∧ Below (w.heap.size + 1 + 1) ((w.alloc (.cells #[.int .u64 n0, .int .i64 s0, .pointer none, .int .u64 n1, .int .i64 s1, .pointer none, .int .u64 n2, .int .i64 s2, .pointer none] 48)).alloc (.cells #[.int .u64 0, .int .i64 0, .pointer none, .int .u64 0, .int .i64 0, .pointer none, .int .u64 0, .int .i64 0, .pointer none] 48)) wr ∧
      Hid ((1 ≤ k → z0 = true) ∧ (2 ≤ k → ¬ (z1 = false ∧ t = 0)) ∧ (3 ≤ k → ¬ (z2 = false ∧ t = 1)))) (fun i _ => 3 - (intOf i).toNat)
  case atStart => exact ⟨0, by omega, rfl, Below.refl _ _, ⟨by omega, by omega, by omega⟩⟩
  case round =>
    obtain ⟨k, hk, rfl, hbw, HP⟩ := hrel
    have hrz := hbw.size
    simp at hrz
    have hr : Hid (wr.heap[w.heap.size + 1]? = some (.cells #[.int .u64 0, .int .i64 0, .pointer none, .int .u64 0, .int .i64 0, .pointer none, .int .u64 0, .int .i64 0, .pointer none] 48 (0, 0))) := below_blk hbw (by omega) (heap2_new _ _ _)
    have HW : Hid (Below w.heap.size w wr) := (((Below.refl _ w).alloc (Nat.le_refl _) _).alloc (by simp) _).trans (hbw.mono (by omega))
    have HWB := hbw
    clear hbw
    have HWB : Hid (Below (w.heap.size + 1 + 1) ((w.alloc (.cells #[.int .u64 n0, .int .i64 s0, .pointer none, .int .u64 n1, .int .i64 s1, .pointer none, .int .u64 n2, .int .i64 s2, .pointer none] 48)).alloc (.cells #[.int .u64 0, .int .i64 0, .pointer none, .int .u64 0, .int .i64 0, .pointer none, .int .u64 0, .int .i64 0, .pointer none] 48)) wr) := HWB
    rcases (by omega : k = 0 ∨ k = 1 ∨ k = 2 ∨ k = 3) with rfl | rfl | rfl | rfl
    · cases z0
      · have HB0 : Hid (B = 0) := by show B = 0; rw [← HB.out]; simp [bw]
        go_wp2_with (first
          | (go_at_call 27; refine (isZero_raw _ _ _ H0.out _).mono ?_; rintro e w1 ⟨rfl, hb1⟩; obtain ⟨hc1, hf1⟩ := bcell hb1; have hz1 : wr.heap.size < w1.heap.size := (by have := hb1.size; simp at this; omega))
          | (go_at_call 28; refine (blocks0 _ _).mono ?_; rintro e w' ⟨rfl, rfl⟩)
          | (refine wpList_store_blk rfl 48 _ _ rfl rfl rfl #[.int .u64 0, .int .i64 0, .pointer none, .int .u64 0, .int .i64 0, .pointer none, .int .u64 0, .int .i64 0, .pointer none] 48 ?_ (by exact Try.size48) (by rfl) (by rfl) ?_; (refine (heap_alloc_old _ _ ?_).trans (below_blk hb1 ?_ ((heap_alloc_old _ _ ?_).trans hr.out)); omega; (simp; omega); omega)))
        refine bodyPost_ret (v := .tuple #[.agg #[.int .u64 n0, .int .i64 s0, .pointer none, .int .u64 0, .int .i64 0, .pointer none, .int .u64 0, .int .i64 0, .pointer none], .bool true]) ?_ rfl ⟨?_, ?_⟩
        · exact results_pair_row Try.results17 _ _ _ 48 _ _ rfl (heap_setRow_same _ _ #[.int .u64 0, .int .i64 0, .pointer none, .int .u64 0, .int .i64 0, .pointer none, .int .u64 0, .int .i64 0, .pointer none] _ _ ((heap_alloc_old _ _ (by omega)).trans (below_blk hb1 (by simp; omega) ((heap_alloc_old _ _ (by omega)).trans hr.out)))) Try.underlying48 rfl Try.size48
        · rw [HB0.out]; rfl
        · exact Below.setRow (((HW.out.trans (((Below.refl _ wr).alloc (by omega) _).trans (hb1.mono (by simp; omega)))).alloc (by omega) _)) (by omega) _
      · go_wp2_with (first
          | (go_at_call 27; refine (isZero_raw _ _ _ H0.out _).mono ?_; rintro e w1 ⟨rfl, hb1⟩; obtain ⟨hc1, hf1⟩ := bcell hb1; have hz1 : wr.heap.size < w1.heap.size := (by have := hb1.size; simp at this; omega)))
        go_roundw
        case rel => exact ⟨1, by omega, rfl, (HWB.out.alloc (by omega) _).trans (hb1.mono (by simp; omega)), ⟨fun _ => by first | rfl | trivial, by omega, by omega⟩⟩
        case measure => simp [intOf]
    · have P0 := HP.out.1 (by omega)
      subst P0
      cases z1
      · cases ht : (t == 0)
        · go_wp2_with (first
            | (go_at_call 27; refine (isZero_raw _ _ _ H1.out _).mono ?_; rintro e w1 ⟨rfl, hb1⟩; obtain ⟨hc1, hf1⟩ := bcell hb1; have hz1 : wr.heap.size < w1.heap.size := (by have := hb1.size; simp at this; omega))
            | (go_at_call 28; refine (blocks1 _ _).mono ?_; rintro e w' ⟨rfl, rfl⟩))
          go_roundw
          case rel => exact ⟨2, by omega, rfl, (HWB.out.alloc (by omega) _).trans (hb1.mono (by simp; omega)), ⟨fun _ => by first | rfl | trivial, fun _ h => (by have := h.2; subst this; exact Bool.noConfusion ht), by omega⟩⟩
          case measure => simp [intOf]
        · have HB0 : Hid (B = 1) := by show B = 1; rw [← HB.out]; simp [bw, beq_iff_eq.1 ht]
          go_wp2_with (first
            | (go_at_call 27; refine (isZero_raw _ _ _ H1.out _).mono ?_; rintro e w1 ⟨rfl, hb1⟩; obtain ⟨hc1, hf1⟩ := bcell hb1; have hz1 : wr.heap.size < w1.heap.size := (by have := hb1.size; simp at this; omega))
            | (go_at_call 28; refine (blocks1 _ _).mono ?_; rintro e w' ⟨rfl, rfl⟩)
            | (refine wpList_store_blk rfl 48 _ _ rfl rfl rfl #[.int .u64 0, .int .i64 0, .pointer none, .int .u64 0, .int .i64 0, .pointer none, .int .u64 0, .int .i64 0, .pointer none] 48 ?_ (by exact Try.size48) (by rfl) (by rfl) ?_; (refine (heap_alloc_old _ _ ?_).trans (below_blk hb1 ?_ ((heap_alloc_old _ _ ?_).trans hr.out)); omega; (simp; omega); omega)))
          refine bodyPost_ret (v := .tuple #[.agg #[.int .u64 0, .int .i64 0, .pointer none, .int .u64 n1, .int .i64 s1, .pointer none, .int .u64 0, .int .i64 0, .pointer none], .bool true]) ?_ rfl ⟨?_, ?_⟩
          · exact results_pair_row Try.results17 _ _ _ 48 _ _ rfl (heap_setRow_same _ _ #[.int .u64 0, .int .i64 0, .pointer none, .int .u64 0, .int .i64 0, .pointer none, .int .u64 0, .int .i64 0, .pointer none] _ _ ((heap_alloc_old _ _ (by omega)).trans (below_blk hb1 (by simp; omega) ((heap_alloc_old _ _ (by omega)).trans hr.out)))) Try.underlying48 rfl Try.size48
          · rw [HB0.out]; rfl
          · exact Below.setRow (((HW.out.trans (((Below.refl _ wr).alloc (by omega) _).trans (hb1.mono (by simp; omega)))).alloc (by omega) _)) (by omega) _
      · go_wp2_with (first
          | (go_at_call 27; refine (isZero_raw _ _ _ H1.out _).mono ?_; rintro e w1 ⟨rfl, hb1⟩; obtain ⟨hc1, hf1⟩ := bcell hb1; have hz1 : wr.heap.size < w1.heap.size := (by have := hb1.size; simp at this; omega)))
        go_roundw
        case rel => exact ⟨2, by omega, rfl, (HWB.out.alloc (by omega) _).trans (hb1.mono (by simp; omega)), ⟨fun _ => by first | rfl | trivial, fun _ h => Bool.noConfusion h.1, by omega⟩⟩
        case measure => simp [intOf]
    · have P0 := HP.out.1 (by omega)
      subst P0
      have P1 := HP.out.2.1 (by omega)
      cases z2
      · cases ht : (t == 1)
        · go_wp2_with (first
            | (go_at_call 27; refine (isZero_raw _ _ _ H2.out _).mono ?_; rintro e w1 ⟨rfl, hb1⟩; obtain ⟨hc1, hf1⟩ := bcell hb1; have hz1 : wr.heap.size < w1.heap.size := (by have := hb1.size; simp at this; omega))
            | (go_at_call 28; refine (blocks2 _ _).mono ?_; rintro e w' ⟨rfl, rfl⟩))
          go_roundw
          case rel => exact ⟨3, by omega, rfl, (HWB.out.alloc (by omega) _).trans (hb1.mono (by simp; omega)), ⟨fun _ => by first | rfl | trivial, fun _ => P1, fun _ h => (by have := h.2; subst this; exact Bool.noConfusion ht)⟩⟩
          case measure => simp [intOf]
        · have HB0 : Hid (B = 2) := by show B = 2; rw [← HB.out]; simp [bw, beq_iff_eq.1 ht]
          go_wp2_with (first
            | (go_at_call 27; refine (isZero_raw _ _ _ H2.out _).mono ?_; rintro e w1 ⟨rfl, hb1⟩; obtain ⟨hc1, hf1⟩ := bcell hb1; have hz1 : wr.heap.size < w1.heap.size := (by have := hb1.size; simp at this; omega))
            | (go_at_call 28; refine (blocks2 _ _).mono ?_; rintro e w' ⟨rfl, rfl⟩)
            | (refine wpList_store_blk rfl 48 _ _ rfl rfl rfl #[.int .u64 0, .int .i64 0, .pointer none, .int .u64 0, .int .i64 0, .pointer none, .int .u64 0, .int .i64 0, .pointer none] 48 ?_ (by exact Try.size48) (by rfl) (by rfl) ?_; (refine (heap_alloc_old _ _ ?_).trans (below_blk hb1 ?_ ((heap_alloc_old _ _ ?_).trans hr.out)); omega; (simp; omega); omega)))
          refine bodyPost_ret (v := .tuple #[.agg #[.int .u64 0, .int .i64 0, .pointer none, .int .u64 0, .int .i64 0, .pointer none, .int .u64 n2, .int .i64 s2, .pointer none], .bool true]) ?_ rfl ⟨?_, ?_⟩
          · exact results_pair_row Try.results17 _ _ _ 48 _ _ rfl (heap_setRow_same _ _ #[.int .u64 0, .int .i64 0, .pointer none, .int .u64 0, .int .i64 0, .pointer none, .int .u64 0, .int .i64 0, .pointer none] _ _ ((heap_alloc_old _ _ (by omega)).trans (below_blk hb1 (by simp; omega) ((heap_alloc_old _ _ (by omega)).trans hr.out)))) Try.underlying48 rfl Try.size48
          · rw [HB0.out]; rfl
          · exact Below.setRow (((HW.out.trans (((Below.refl _ wr).alloc (by omega) _).trans (hb1.mono (by simp; omega)))).alloc (by omega) _)) (by omega) _
      · go_wp2_with (first
          | (go_at_call 27; refine (isZero_raw _ _ _ H2.out _).mono ?_; rintro e w1 ⟨rfl, hb1⟩; obtain ⟨hc1, hf1⟩ := bcell hb1; have hz1 : wr.heap.size < w1.heap.size := (by have := hb1.size; simp at this; omega)))
        go_roundw
        case rel => exact ⟨3, by omega, rfl, (HWB.out.alloc (by omega) _).trans (hb1.mono (by simp; omega)), ⟨fun _ => by first | rfl | trivial, fun _ => P1, fun _ h => Bool.noConfusion h.1⟩⟩
        case measure => simp [intOf]
    · have P0 := HP.out.1 (by omega)
      subst P0
      have HB0 : Hid (B = -1) := by
        show B = -1
        rw [← HB.out]
        simp only [bw, HP.out.2.1 (by omega), HP.out.2.2 (by omega), if_false]
        rfl
      go_wp2_with (refine wpList_store_blk rfl 48 _ _ rfl rfl rfl #[.int .u64 0, .int .i64 0, .pointer none, .int .u64 0, .int .i64 0, .pointer none, .int .u64 0, .int .i64 0, .pointer none] 48 ?_ (by exact Try.size48) (by rfl) (by rfl) ?_; exact hr.out)
      refine bodyPost_ret (v := .tuple #[.agg #[.int .u64 0, .int .i64 0, .pointer none, .int .u64 0, .int .i64 0, .pointer none, .int .u64 0, .int .i64 0, .pointer none], .bool false]) ?_ rfl ⟨?_, ?_⟩
      · exact results_pair_row Try.results17 _ _ _ 48 _ _ rfl (heap_setRow_same _ _ #[.int .u64 0, .int .i64 0, .pointer none, .int .u64 0, .int .i64 0, .pointer none, .int .u64 0, .int .i64 0, .pointer none] _ _ hr.out) Try.underlying48 rfl Try.size48
      · rw [HB0.out]; rfl
      · exact Below.setRow HW.out (by omega) _
end Go.Proofs.Qxb6629324a
