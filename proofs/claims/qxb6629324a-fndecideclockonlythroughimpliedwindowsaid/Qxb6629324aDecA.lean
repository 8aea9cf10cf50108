/-
  Decide: a list blocks.
-/
import Derived.Test.Qxb6629324aDecEnv
namespace Go.Proofs.Qxb6629324a
open Go.ChangeShapes Go.WideShapes Go.ChangeAt Go.RowKit

set_option maxRecDepth 20000 in
set_option maxHeartbeats 1000000 in
theorem decide_blocked (nm lb : ByteArray) (ty md : Int) (smsP : Option Addr) (ta : Option Addr) (tl tc : Nat) (hrsP : Option Addr) (ch ad : ByteArray) (ps p1 p2 ts t1 t2 n0 s0 n1 s1 n2 s2 inb mo : Int) (ich iad : ByteArray) (w : World) (B : Int) (hB : 0 ≤ B) (hbw : bw (n0 == 0 && s0 == 0) (n1 == 0 && s1 == 0) (n2 == 0 && s2 == 0) ty = B) :
    Calls Try.prog 10 #[.agg #[.string nm, .string lb, .int .i64 ty, .int .i64 md, .pointer smsP, .slice ta tl tc, .pointer hrsP], .agg #[.string ch, .string ad], .agg #[.int .i64 ps, .int .u64 p1, .int .i64 p2, .pointer none, .int .i64 ts, .int .u64 t1, .int .i64 t2, .pointer none, .int .u64 n0, .int .i64 s0, .pointer none, .int .u64 n1, .int .i64 s1, .pointer none, .int .u64 n2, .int .i64 s2, .pointer none, .string ich, .string iad, .int .u64 (ns inb), .int .i64 (sc inb), .pointer none], .agg #[.int .u64 (ns mo), .int .i64 (sc mo), .pointer none]] w fun e w' =>
      e = .returned (.agg #[.bool false, .int .i64 4, .int .i64 0, .int .u64 0, .int .i64 0, .pointer none, .int .i64 0, .int .u64 0, .int .i64 0, .pointer none, .int .u64 (at_ B 0 n0), .int .i64 (at_ B 0 s0), .pointer none, .int .u64 (at_ B 1 n1), .int .i64 (at_ B 1 s1), .pointer none, .int .u64 (at_ B 2 n2), .int .i64 (at_ B 2 s2), .pointer none, .string ⟨#[]⟩, .string ⟨#[]⟩, .int .u64 0, .int .i64 0, .pointer none]) ∧ Below w.heap.size w w' := by
  have hbl := fun w => blocking_any n0 s0 n1 s1 n2 s2 ty _ _ _ w rfl rfl rfl
  rw [hbw] at hbl
  rw [decide_eq_true hB] at hbl
  have HBL := hide hbl
  clear hbl hbw
  go_enter Try.func10, Try.ntmps10
  go_wp2_with (first
    | (go_at_call 17; refine (HBL.out _).mono ?_; rintro e w1 ⟨rfl, hb1⟩; obtain ⟨hc1, hf1⟩ := bcell hb1; have hz1 : w.heap.size + 1 + 1 + 1 + 1 < w1.heap.size := (by have := hb1.size; simp at this; omega))
    | (refine wpList_store_last rfl 48 _ _ rfl rfl rfl ?_ (by exact Try.size48) (by rfl) (by rfl) ?_; (simp))
    | (refine wpList_store_blk rfl 57 _ _ rfl rfl rfl #[.bool false, .int .i64 0, .int .i64 0, .int .u64 0, .int .i64 0, .pointer none, .int .i64 0, .int .u64 0, .int .i64 0, .pointer none, .int .u64 0, .int .i64 0, .pointer none, .int .u64 0, .int .i64 0, .pointer none, .int .u64 0, .int .i64 0, .pointer none, .string ⟨#[]⟩, .string ⟨#[]⟩, .int .u64 0, .int .i64 0, .pointer none] 57 ?_ (by exact Try.size57) (by rfl) (by rfl) ?_; (refine (heap_alloc_old _ _ ?_).trans (below_blk hb1 ?_ (heap_at _ _ _ ?_)); omega; (simp); (simp))))
  refine bodyPost_ret (v := .agg #[.bool false, .int .i64 4, .int .i64 0, .int .u64 0, .int .i64 0, .pointer none, .int .i64 0, .int .u64 0, .int .i64 0, .pointer none, .int .u64 (at_ B 0 n0), .int .i64 (at_ B 0 s0), .pointer none, .int .u64 (at_ B 1 n1), .int .i64 (at_ B 1 s1), .pointer none, .int .u64 (at_ B 2 n2), .int .i64 (at_ B 2 s2), .pointer none, .string ⟨#[]⟩, .string ⟨#[]⟩, .int .u64 0, .int .i64 0, .pointer none]) ?_ rfl ⟨rfl, ?_⟩
  · exact results_cell_row Try.results10 _ _ _ 57 _ (0, 0) _ rfl (heap_setRow_same _ _ #[.bool false, .int .i64 0, .int .i64 0, .int .u64 0, .int .i64 0, .pointer none, .int .i64 0, .int .u64 0, .int .i64 0, .pointer none, .int .u64 0, .int .i64 0, .pointer none, .int .u64 0, .int .i64 0, .pointer none, .int .u64 0, .int .i64 0, .pointer none, .string ⟨#[]⟩, .string ⟨#[]⟩, .int .u64 0, .int .i64 0, .pointer none] _ _ ((heap_alloc_old _ _ (by omega)).trans (below_blk hb1 (by simp) (heap_at _ _ _ (by simp))))) Try.underlying57 rfl Try.size57
  · exact Below.setRow ((((((((Below.refl _ _).alloc (Nat.le_refl _) _).alloc (by simp) _).alloc (by simp; omega) _).alloc (by simp; omega) _).alloc (by simp; omega) _).trans (hb1.mono (B' := w.heap.size) (by simp; omega))).alloc (by omega) _) (by omega) _
end Go.Proofs.Qxb6629324a
