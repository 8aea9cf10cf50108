/-
  consentB1Recorded: what is recorded, handed over.
-/
import Derived.Test.Qxb6629324aDecEnv
import Derived.Deep.RegionHeld3
import Derived.Deep.DeepCutAuto
namespace Go.Proofs.Qxb6629324a
open Go.ChangeShapes Go.WideShapes Go.ChangeAt Go.RowKit

/-- the three blocks that consentB1Recorded lays at its start -/
structure REnv (w wk : World) (RC SC : Array Value) : Prop where
  hz : w.heap.size + 1 + 1 < wk.heap.size
  box : wk.heap[w.heap.size]? = some (.cells RC 28 (0, 0))
  res : wk.heap[w.heap.size + 1]? = some (.cells #[.int .i64 0, .int .u64 0, .int .i64 0, .pointer none, .int .i64 0, .int .u64 0, .int .i64 0, .pointer none, .int .u64 0, .int .i64 0, .pointer none, .int .u64 0, .int .i64 0, .pointer none, .int .u64 0, .int .i64 0, .pointer none, .string ⟨#[]⟩, .string ⟨#[]⟩, .int .u64 0, .int .i64 0, .pointer none] 52 (0, 0))
  sup : wk.heap[w.heap.size + 1 + 1]? = some (.cells SC 48 (0, 0))
  below : Below w.heap.size w wk
theorem REnv.start (w : World) (RC : Array Value) : REnv w (((w.alloc (.cells RC 28)).alloc (.cells #[.int .i64 0, .int .u64 0, .int .i64 0, .pointer none, .int .i64 0, .int .u64 0, .int .i64 0, .pointer none, .int .u64 0, .int .i64 0, .pointer none, .int .u64 0, .int .i64 0, .pointer none, .int .u64 0, .int .i64 0, .pointer none, .string ⟨#[]⟩, .string ⟨#[]⟩, .int .u64 0, .int .i64 0, .pointer none] 52)).alloc (.cells #[.int .u64 0, .int .i64 0, .pointer none, .int .u64 0, .int .i64 0, .pointer none, .int .u64 0, .int .i64 0, .pointer none] 48)) RC #[.int .u64 0, .int .i64 0, .pointer none, .int .u64 0, .int .i64 0, .pointer none, .int .u64 0, .int .i64 0, .pointer none] where
  hz := by simp
  box := by
    rw [heap_alloc_old _ _ (by simp; omega), heap_alloc_old _ _ (by simp)]
    exact heap_at _ _ _ rfl
  res := by
    rw [heap_alloc_old _ _ (by simp)]
    exact heap_at _ _ _ (by simp)
  sup := heap_at _ _ _ (by simp)
  below := (((Below.refl _ _).alloc (Nat.le_refl _) _).alloc (by simp) _).alloc (by simp; omega) _
theorem REnv.step {w wk w' : World} {RC SC : Array Value} (h : REnv w wk RC SC) (hb : Below wk.heap.size wk w') : REnv w w' RC SC where
  hz := Nat.lt_of_lt_of_le h.hz hb.size
  box := below_blk hb (by have := h.hz; omega) h.box
  res := below_blk hb (by have := h.hz; omega) h.res
  sup := below_blk hb (by have := h.hz; omega) h.sup
  below := h.below.trans (hb.mono (by have := h.hz; omega))
theorem REnv.drew {w wk : World} {RC SC : Array Value} (h : REnv w wk RC SC) : REnv w wk.drew RC SC := ⟨h.hz, h.box, h.res, h.sup, h.below.drew⟩
theorem REnv.set3 {w wk : World} {RC SC : Array Value} (h : REnv w wk RC SC) (i j k : Nat) (x y z : Value) (SC' : Array Value) (hS : ((SC.setIfInBounds i x).setIfInBounds j y).setIfInBounds k z = SC') :
    REnv w (((wk.setCell ⟨w.heap.size + 1 + 1, i, none⟩ x).setCell ⟨w.heap.size + 1 + 1, j, none⟩ y).setCell ⟨w.heap.size + 1 + 1, k, none⟩ z) RC SC' where
  hz := by simpa using h.hz
  box := by
    rw [heap_setCell_other _ _ _ _ (by show w.heap.size ≠ w.heap.size + 1 + 1; omega), heap_setCell_other _ _ _ _ (by show w.heap.size ≠ w.heap.size + 1 + 1; omega), heap_setCell_other _ _ _ _ (by show w.heap.size ≠ w.heap.size + 1 + 1; omega)]
    exact h.box
  res := by
    rw [heap_setCell_other _ _ _ _ (by show w.heap.size + 1 ≠ w.heap.size + 1 + 1; omega), heap_setCell_other _ _ _ _ (by show w.heap.size + 1 ≠ w.heap.size + 1 + 1; omega), heap_setCell_other _ _ _ _ (by show w.heap.size + 1 ≠ w.heap.size + 1 + 1; omega)]
    exact h.res
  sup := by
    rw [← hS]
    exact heap_setCell_same _ _ _ _ _ _ (heap_setCell_same _ _ _ _ _ _ (heap_setCell_same _ _ _ _ _ _ h.sup))
  below := ((h.below.setCell (by show w.heap.size ≤ w.heap.size + 1 + 1; omega) _).setCell (by show w.heap.size ≤ w.heap.size + 1 + 1; omega) _).setCell (by show w.heap.size ≤ w.heap.size + 1 + 1; omega) _
theorem cell_setRow_else (w : World) (g k o : Nat) (cells : Array Value) (h : k ≠ g) : (w.setRow g cells).cell? ⟨k, o, none⟩ = w.cell? ⟨k, o, none⟩ :=
  World.cell?_of_block (w := w) (heap_setRow_other w g k cells h)
theorem held_renv {w w' : World} {ps pa ts tA x0 x1 x2 inb : Int} {ich iad : ByteArray} (E : REnv w w' #[.int .i64 ps, .int .i64 pa, .int .i64 ts, .int .i64 tA, .int .i64 x0, .int .i64 x1, .int .i64 x2, .string ich, .string iad, .int .i64 inb] #[.int .u64 (ns x0), .int .i64 (sc x0), .pointer none, .int .u64 (ns x1), .int .i64 (sc x1), .pointer none, .int .u64 (ns x2), .int .i64 (sc x2), .pointer none]) :
    w'.cell? ⟨w.heap.size, 0, none⟩ = some (.int .i64 ps) ∧ w'.cell? ⟨w.heap.size, 1, none⟩ = some (.int .i64 pa) ∧ w'.cell? ⟨w.heap.size, 2, none⟩ = some (.int .i64 ts) ∧ w'.cell? ⟨w.heap.size, 3, none⟩ = some (.int .i64 tA) ∧ w'.cell? ⟨w.heap.size, 7, none⟩ = some (.string ich) ∧ w'.cell? ⟨w.heap.size, 8, none⟩ = some (.string iad) ∧ w'.cell? ⟨w.heap.size, 9, none⟩ = some (.int .i64 inb) ∧ w'.cell? ⟨w.heap.size + 1 + 1, 0, none⟩ = some (.int .u64 (ns x0)) ∧ w'.cell? ⟨w.heap.size + 1 + 1, 1, none⟩ = some (.int .i64 (sc x0)) ∧ w'.cell? ⟨w.heap.size + 1 + 1, 2, none⟩ = some (.pointer none) ∧ w'.cell? ⟨w.heap.size + 1 + 1, 3, none⟩ = some (.int .u64 (ns x1)) ∧ w'.cell? ⟨w.heap.size + 1 + 1, 4, none⟩ = some (.int .i64 (sc x1)) ∧ w'.cell? ⟨w.heap.size + 1 + 1, 5, none⟩ = some (.pointer none) ∧ w'.cell? ⟨w.heap.size + 1 + 1, 6, none⟩ = some (.int .u64 (ns x2)) ∧ w'.cell? ⟨w.heap.size + 1 + 1, 7, none⟩ = some (.int .i64 (sc x2)) ∧ w'.cell? ⟨w.heap.size + 1 + 1, 8, none⟩ = some (.pointer none) :=
  ⟨(cell_of_row w' _ 0 _ _ _ E.box).trans rfl, (cell_of_row w' _ 1 _ _ _ E.box).trans rfl, (cell_of_row w' _ 2 _ _ _ E.box).trans rfl, (cell_of_row w' _ 3 _ _ _ E.box).trans rfl, (cell_of_row w' _ 7 _ _ _ E.box).trans rfl, (cell_of_row w' _ 8 _ _ _ E.box).trans rfl, (cell_of_row w' _ 9 _ _ _ E.box).trans rfl, (cell_of_row w' _ 0 _ _ _ E.sup).trans rfl, (cell_of_row w' _ 1 _ _ _ E.sup).trans rfl, (cell_of_row w' _ 2 _ _ _ E.sup).trans rfl, (cell_of_row w' _ 3 _ _ _ E.sup).trans rfl, (cell_of_row w' _ 4 _ _ _ E.sup).trans rfl, (cell_of_row w' _ 5 _ _ _ E.sup).trans rfl, (cell_of_row w' _ 6 _ _ _ E.sup).trans rfl, (cell_of_row w' _ 7 _ _ _ E.sup).trans rfl, (cell_of_row w' _ 8 _ _ _ E.sup).trans rfl⟩

theorem cell_else (w : World) (g k i o : Nat) (x : Value) (h : k ≠ g) : (w.setCell ⟨g, i, none⟩ x).cell? ⟨k, o, none⟩ = w.cell? ⟨k, o, none⟩ :=
  World.cell?_of_block (w := w) (Below.heap_setCell w ⟨g, i, none⟩ x k h)

theorem store_row (w : World) (g : Nat) (t : TypeId) (old new : Array Value) (hg : w.heap[g]? = some (.cells old t (0, 0))) (hs : new.size = old.size) (h1 : new.toList.all (·.oneCell') = true) :
    (storeCells ⟨g, 0, none⟩ new.toList).run Try.prog w = .ok () (w.setRow g new) := by
  have h := run_storeCells_from (P := Try.prog) g t new.toList 0 old w hg (by simp [hs]) (fun v hv => by
    have := List.all_eq_true.1 h1 v hv
    exact this)
  simpa using h
set_option maxRecDepth 20000 in
set_option maxHeartbeats 2000000 in
theorem recorded_any (ps pa ts tA x0 x1 x2 inb : Int) (ich iad : ByteArray) (w : World) (hpa1 : -9223372036854775808 ≤ pa) (hpa2 : pa ≤ 9223372036854775807) (htA1 : -9223372036854775808 ≤ tA) (htA2 : tA ≤ 9223372036854775807) (hx01 : -9223372036854775808 ≤ x0) (hx02 : x0 ≤ 9223372036854775807) (hx11 : -9223372036854775808 ≤ x1) (hx12 : x1 ≤ 9223372036854775807) (hx21 : -9223372036854775808 ≤ x2) (hx22 : x2 ≤ 9223372036854775807) (hinb1 : -9223372036854775808 ≤ inb) (hinb2 : inb ≤ 9223372036854775807) :
    Calls Try.prog 8 #[.agg #[.int .i64 ps, .int .i64 pa, .int .i64 ts, .int .i64 tA, .int .i64 x0, .int .i64 x1, .int .i64 x2, .string ich, .string iad, .int .i64 inb]] w fun e w' => e = .returned (.agg #[.int .i64 ps, .int .u64 (ns pa), .int .i64 (sc pa), .pointer none, .int .i64 ts, .int .u64 (ns tA), .int .i64 (sc tA), .pointer none, .int .u64 (ns x0), .int .i64 (sc x0), .pointer none, .int .u64 (ns x1), .int .i64 (sc x1), .pointer none, .int .u64 (ns x2), .int .i64 (sc x2), .pointer none, .string ich, .string iad, .int .u64 (ns inb), .int .i64 (sc inb), .pointer none]) ∧ Below w.heap.size w w' := by
  go_enter Try.func8, Try.ntmps8
  go_upto_region 2 with fail
  go_cut [] (fun wx => Hid (REnv w wx #[.int .i64 ps, .int .i64 pa, .int .i64 ts, .int .i64 tA, .int .i64 x0, .int .i64 x1, .int .i64 x2, .string ich, .string iad, .int .i64 inb] #[.int .u64 (ns x0), .int .i64 (sc x0), .pointer none, .int .u64 0, .int .i64 0, .pointer none, .int .u64 0, .int .i64 0, .pointer none]))
  case first =>
    go_wp2_with (go_at_call 9; refine (time_any x0 hx01 hx02 _).mono ?_; rintro e w1 ⟨rfl, hb1⟩; have E := hide ((REnv.start w _).step hb1); have cs := fun i => cell_of_row w1 _ i _ _ _ E.out.sup; have fs := fun i => frozen_of_row w1 _ i _ _ E.out.sup)
    go_meet
    case rel => exact (E.out.set3 0 1 2 _ _ _ _ rfl)
  case rest =>
  have E1 := hide hcut.out
  clear hcut
  go_upto_region 3 with fail
  go_cut [] (fun wx => Hid (REnv w wx #[.int .i64 ps, .int .i64 pa, .int .i64 ts, .int .i64 tA, .int .i64 x0, .int .i64 x1, .int .i64 x2, .string ich, .string iad, .int .i64 inb] #[.int .u64 (ns x0), .int .i64 (sc x0), .pointer none, .int .u64 (ns x1), .int .i64 (sc x1), .pointer none, .int .u64 0, .int .i64 0, .pointer none]))
  case first =>
    have cb : wc.cell? ⟨w.heap.size, 5, none⟩ = some (.int .i64 x1) := (cell_of_row _ _ 5 _ _ _ E1.out.box).trans rfl
    go_wp2_with (go_at_call 9; refine (time_any x1 hx11 hx12 _).mono ?_; rintro e w1 ⟨rfl, hb1⟩; have E := hide ((E1.out).step hb1); have cs := fun i => cell_of_row w1 _ i _ _ _ E.out.sup; have fs := fun i => frozen_of_row w1 _ i _ _ E.out.sup)
    go_meet
    case rel => exact (E.out.set3 3 4 5 _ _ _ _ rfl)
  case rest =>
  have E2 := hide hcut.out
  clear hcut
  go_upto_region 4 with fail
  go_cut [] (fun wx => Hid (REnv w wx #[.int .i64 ps, .int .i64 pa, .int .i64 ts, .int .i64 tA, .int .i64 x0, .int .i64 x1, .int .i64 x2, .string ich, .string iad, .int .i64 inb] #[.int .u64 (ns x0), .int .i64 (sc x0), .pointer none, .int .u64 (ns x1), .int .i64 (sc x1), .pointer none, .int .u64 (ns x2), .int .i64 (sc x2), .pointer none]))
  case first =>
    have cb : wc.cell? ⟨w.heap.size, 6, none⟩ = some (.int .i64 x2) := (cell_of_row _ _ 6 _ _ _ E2.out.box).trans rfl
    go_wp2_with (go_at_call 9; refine (time_any x2 hx21 hx22 _).mono ?_; rintro e w1 ⟨rfl, hb1⟩; have E := hide ((E2.out).step hb1); have cs := fun i => cell_of_row w1 _ i _ _ _ E.out.sup; have fs := fun i => frozen_of_row w1 _ i _ _ E.out.sup)
    go_meet
    case rel => exact (E.out.set3 6 7 8 _ _ _ _ rfl)
  case rest =>
  have E3 := hide hcut.out
  clear hcut
  go_upto_region 5 with fail
  have E3d := hide E3.out.drew
  have m1 : w.heap.size ≠ w.heap.size + 1 := by omega
  have m2 : w.heap.size + 1 + 1 ≠ w.heap.size + 1 := by omega
  obtain ⟨OUTV, hO⟩ : ∃ O : Array Value, (#[.int .i64 ps, .int .u64 (ns pa), .int .i64 (sc pa), .pointer none, .int .i64 ts, .int .u64 (ns tA), .int .i64 (sc tA), .pointer none, .int .u64 (ns x0), .int .i64 (sc x0), .pointer none, .int .u64 (ns x1), .int .i64 (sc x1), .pointer none, .int .u64 (ns x2), .int .i64 (sc x2), .pointer none, .string ich, .string iad, .int .u64 (ns inb), .int .i64 (sc inb), .pointer none] : Array Value) = O := ⟨_, rfl⟩
  have HO := hide hO
  have hOs : OUTV.size = 22 := by rw [← hO]; rfl
  have hset : OUTV.setIfInBounds 21 (.pointer none) = OUTV := by rw [← hO]; rfl
  go_region_held3 (fun w' => w'.cell? ⟨w.heap.size, 0, none⟩ = some (.int .i64 ps) ∧ w'.cell? ⟨w.heap.size, 1, none⟩ = some (.int .i64 pa) ∧ w'.cell? ⟨w.heap.size, 2, none⟩ = some (.int .i64 ts) ∧ w'.cell? ⟨w.heap.size, 3, none⟩ = some (.int .i64 tA) ∧ w'.cell? ⟨w.heap.size, 7, none⟩ = some (.string ich) ∧ w'.cell? ⟨w.heap.size, 8, none⟩ = some (.string iad) ∧ w'.cell? ⟨w.heap.size, 9, none⟩ = some (.int .i64 inb) ∧ w'.cell? ⟨w.heap.size + 1 + 1, 0, none⟩ = some (.int .u64 (ns x0)) ∧ w'.cell? ⟨w.heap.size + 1 + 1, 1, none⟩ = some (.int .i64 (sc x0)) ∧ w'.cell? ⟨w.heap.size + 1 + 1, 2, none⟩ = some (.pointer none) ∧ w'.cell? ⟨w.heap.size + 1 + 1, 3, none⟩ = some (.int .u64 (ns x1)) ∧ w'.cell? ⟨w.heap.size + 1 + 1, 4, none⟩ = some (.int .i64 (sc x1)) ∧ w'.cell? ⟨w.heap.size + 1 + 1, 5, none⟩ = some (.pointer none) ∧ w'.cell? ⟨w.heap.size + 1 + 1, 6, none⟩ = some (.int .u64 (ns x2)) ∧ w'.cell? ⟨w.heap.size + 1 + 1, 7, none⟩ = some (.int .i64 (sc x2)) ∧ w'.cell? ⟨w.heap.size + 1 + 1, 8, none⟩ = some (.pointer none))
    (first | (simp only [cell_setRow_else _ _ _ _ _ m1, cell_setRow_else _ _ _ _ _ m2]; exact held_renv E6.out) | exact held_renv E6.out | exact held_renv E5.out | exact held_renv E4.out | exact held_renv E3d.out)
    (first
      | (go_at_call_of 9 (Value.int IntKind.i64 pa); refine (time_any pa hpa1 hpa2 _).mono ?_; rintro e w4 ⟨rfl, hb4⟩; have E4 := hide (E3d.out.step hb4))
      | (go_at_call_of 9 (Value.int IntKind.i64 tA); refine (time_any tA htA1 htA2 _).mono ?_; rintro e w5 ⟨rfl, hb5⟩; have E5 := hide (E4.out.step hb5))
      | (go_at_call_of 9 (Value.int IntKind.i64 inb); refine (time_any inb hinb1 hinb2 _).mono ?_; rintro e w6 ⟨rfl, hb6⟩; have E6 := hide (E5.out.step hb6); have hsc := store_row w6 (w.heap.size + 1) 52 #[.int .i64 0, .int .u64 0, .int .i64 0, .pointer none, .int .i64 0, .int .u64 0, .int .i64 0, .pointer none, .int .u64 0, .int .i64 0, .pointer none, .int .u64 0, .int .i64 0, .pointer none, .int .u64 0, .int .i64 0, .pointer none, .string ⟨#[]⟩, .string ⟨#[]⟩, .int .u64 0, .int .i64 0, .pointer none] OUTV E6.out.res (by rw [← HO.out]; rfl) (by rw [← HO.out]; rfl)))
  go_wp2
  refine bodyPost_ret (v := .agg #[.int .i64 ps, .int .u64 (ns pa), .int .i64 (sc pa), .pointer none, .int .i64 ts, .int .u64 (ns tA), .int .i64 (sc tA), .pointer none, .int .u64 (ns x0), .int .i64 (sc x0), .pointer none, .int .u64 (ns x1), .int .i64 (sc x1), .pointer none, .int .u64 (ns x2), .int .i64 (sc x2), .pointer none, .string ich, .string iad, .int .u64 (ns inb), .int .i64 (sc inb), .pointer none]) ?_ rfl ⟨rfl, ?_⟩
  · rw [hO]
    exact results_cell_row Try.results8 _ _ (w.heap.size + 1) 52 _ (0, 0) _ rfl (heap_setRow_same w6 (w.heap.size + 1) #[.int .i64 0, .int .u64 0, .int .i64 0, .pointer none, .int .i64 0, .int .u64 0, .int .i64 0, .pointer none, .int .u64 0, .int .i64 0, .pointer none, .int .u64 0, .int .i64 0, .pointer none, .int .u64 0, .int .i64 0, .pointer none, .string ⟨#[]⟩, .string ⟨#[]⟩, .int .u64 0, .int .i64 0, .pointer none] _ _ E6.out.res) Try.underlying52 rfl (by rw [hOs]; exact Try.size52)
  · exact Below.setRow E6.out.below (by omega) _
end Go.Proofs.Qxb6629324a
