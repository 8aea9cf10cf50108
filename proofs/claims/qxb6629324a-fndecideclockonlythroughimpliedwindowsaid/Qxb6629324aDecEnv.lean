/-
  Decide, way by way.
-/
import Derived.Test.Qxb6629324aEnds
namespace Go.Proofs.Qxb6629324a
open Go.ChangeShapes Go.WideShapes Go.ChangeAt Go.RowKit

/-- what stays true of Decide's own five blocks while it runs -/
structure DEnv (w wk : World) (PU PT R AT Z : Array Value) : Prop where
  hz : w.heap.size + 1 + 1 + 1 + 1 < wk.heap.size
  pur : wk.heap[w.heap.size]? = some (.cells PU 36 (0, 0))
  poi : wk.heap[w.heap.size + 1]? = some (.cells PT 39 (0, 0))
  rcd : wk.heap[w.heap.size + 1 + 1]? = some (.cells R 52 (0, 0))
  tim : wk.heap[w.heap.size + 1 + 1 + 1]? = some (.cells AT 44 (0, 0))
  res : wk.heap[w.heap.size + 1 + 1 + 1 + 1]? = some (.cells Z 57 (0, 0))
  below : Below w.heap.size w wk
theorem DEnv.start (w : World) (PU PT R AT Z : Array Value) : DEnv w (((((w.alloc (.cells PU 36)).alloc (.cells PT 39)).alloc (.cells R 52)).alloc (.cells AT 44)).alloc (.cells Z 57)) PU PT R AT Z where
  hz := by simp
  pur := by
    rw [heap_alloc_old _ _ (by simp <;> omega), heap_alloc_old _ _ (by simp <;> omega), heap_alloc_old _ _ (by simp <;> omega), heap_alloc_old _ _ (by simp)]
    exact heap_at _ _ _ rfl
  poi := by
    rw [heap_alloc_old _ _ (by simp <;> omega), heap_alloc_old _ _ (by simp <;> omega), heap_alloc_old _ _ (by simp)]
    exact heap_at _ _ _ (by simp)
  rcd := by
    rw [heap_alloc_old _ _ (by simp <;> omega), heap_alloc_old _ _ (by simp)]
    exact heap_at _ _ _ (by simp)
  tim := by
    rw [heap_alloc_old _ _ (by simp)]
    exact heap_at _ _ _ (by simp)
  res := heap_at _ _ _ (by simp)
  below := (((((Below.refl _ _).alloc (Nat.le_refl _) _).alloc (by simp) _).alloc (by simp <;> omega) _).alloc (by simp <;> omega) _).alloc (by simp <;> omega) _
theorem DEnv.alloc {w wk : World} {PU PT R AT Z : Array Value} (h : DEnv w wk PU PT R AT Z) (o : Obj) : DEnv w (wk.alloc o) PU PT R AT Z where
  hz := by have := h.hz; simp; omega
  pur := (heap_alloc_old _ _ (by have := h.hz; omega)).trans h.pur
  poi := (heap_alloc_old _ _ (by have := h.hz; omega)).trans h.poi
  rcd := (heap_alloc_old _ _ (by have := h.hz; omega)).trans h.rcd
  tim := (heap_alloc_old _ _ (by have := h.hz; omega)).trans h.tim
  res := (heap_alloc_old _ _ (by have := h.hz; omega)).trans h.res
  below := h.below.alloc (by have := h.hz; omega) _
theorem DEnv.step {w wk w' : World} {PU PT R AT Z : Array Value} (h : DEnv w wk PU PT R AT Z) (hb : Below wk.heap.size wk w') : DEnv w w' PU PT R AT Z where
  hz := Nat.lt_of_lt_of_le h.hz hb.size
  pur := below_blk hb (by have := h.hz; omega) h.pur
  poi := below_blk hb (by have := h.hz; omega) h.poi
  rcd := below_blk hb (by have := h.hz; omega) h.rcd
  tim := below_blk hb (by have := h.hz; omega) h.tim
  res := below_blk hb (by have := h.hz; omega) h.res
  below := h.below.trans (hb.mono (by have := h.hz; omega))
theorem PtrIs.mono {w w' : World} {p : Option Addr} {o : Option Int} (h : PtrIs w p o) (hb : Below w.heap.size w w') : PtrIs w' p o := h.below hb

theorem Try.size36 : (Try.prog.info? 36).map (·.size) = some 7 := by kernel_rfl
theorem Try.size39 : (Try.prog.info? 39).map (·.size) = some 2 := by kernel_rfl

/-- no list blocks -/
theorem blocking_none (n0 s0 n1 s1 n2 s2 ty : Int) (hbw : bw (n0 == 0 && s0 == 0) (n1 == 0 && s1 == 0) (n2 == 0 && s2 == 0) ty = -1) (w : World) :
    Calls Try.prog 17 #[.agg #[.int .u64 n0, .int .i64 s0, .pointer none, .int .u64 n1, .int .i64 s1, .pointer none, .int .u64 n2, .int .i64 s2, .pointer none], .int .i64 ty] w fun e w' =>
      e = .returned (.tuple #[.agg #[.int .u64 0, .int .i64 0, .pointer none, .int .u64 0, .int .i64 0, .pointer none, .int .u64 0, .int .i64 0, .pointer none], .bool false]) ∧ Below w.heap.size w w' := by
  have hbl := blocking_any n0 s0 n1 s1 n2 s2 ty _ _ _ w rfl rfl rfl
  rw [hbw] at hbl
  exact hbl

end Go.Proofs.Qxb6629324a
