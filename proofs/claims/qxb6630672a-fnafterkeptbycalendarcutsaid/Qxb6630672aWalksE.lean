/-
  WHAT BOTH LAWS' WALKS SHARE: the copy, the contracts spelt at a letter for the length, what a call keeps.
-/
import Derived.Test.Qxb6630672aPlain
import Derived.Test.Qxb6630672aWalksD
namespace Go.Proofs.Qxb6630672a
open Go.ChangeShapes Go.WideShapes Go.ChangeAt Go.RowKit

/-- the row of a slice that came in -/
def SRow (x : Addr) (zs : List Int) (w : World) : Prop := ∀ i, i < zs.length → w.cell? (x.add i) = some (.int .i64 (zs.getD i 0))

/-- 'copy(own, days)' into the row just made -/
theorem wpList_copied {w : World} {ops : Array Oper} {rest : List Oper} {o : Oper} {a : Act} {Q : Exit → Act → World → Prop} (hgd : o.guard = none) (D S : Operand)
    (ho : o.op = .call { callee := .builtin .copy, args := #[D, S], argTypes := #[22, 22] }) (x : Addr) (l c : Nat) (zs : List Int) (hl : l = zs.length) (hc : SRow x zs w)
    (hd : a.eval D = .slice (some ⟨w.heap.size, 0, none⟩) l l) (hs : a.eval S = .slice (some x) l c)
    (h : ∀ w', DRow w.heap.size zs w' → Below w.heap.size w w' → w.heap.size < w'.heap.size → wpList Try.prog ops Q rest (a.put o.dst (goInt l)) w') :
    wpList Try.prog ops Q (o :: rest) a (w.alloc (.cells (madeCells #[.int .i64 0] l) 2)) := by
  refine wpList_copy_splice (P := Try.prog) hgd D S 22 22 ho 2 Try.underlying22 (by kernel_rfl) (some ⟨w.heap.size, 0, none⟩) (some x) l l l c hd hs w.heap.size 0 (madeCells #[.int .i64 0] l).toList 2 ?_ (zs.map (.int .i64 ·)) ?_ ?_ ?_ ?_
    w.heap.size w ((Below.refl _ w).alloc (Nat.le_refl _) _) (Nat.le_refl _) ?_
  · simpa using heap_alloc_new w (.cells (madeCells #[.int .i64 0] l) 2)
  · rw [List.length_map, ← hl]
    exact (Nat.min_self l).symm
  · intro _
    refine ⟨rfl, x, rfl, fun j v hv => ?_⟩
    rw [List.getElem?_map] at hv
    obtain ⟨z, hz, rfl⟩ := Option.map_eq_some_iff.1 hv
    have hj : j < zs.length := (List.getElem?_eq_some_iff.1 hz).1
    have h1 := hc j hj
    rw [List.getD_eq_getElem?_getD, hz] at h1
    exact (((Below.refl _ w).alloc (Nat.le_refl _) _).cell (World.block_lt_of_cell? _ _ h1)).trans h1
  · simp [size_madeCells, hl]
  · intro v hv
    obtain ⟨z, _, rfl⟩ := List.mem_map.1 hv
    rfl
  · intro w' hg hb
    rw [List.length_map, ← hl]
    have hg := hg.out
    refine h w' (fun i hi => ?_) hb (Array.getElem?_eq_some_iff.1 hg).1
    refine cell_of hg ?_
    simp [splice, List.getElem?_append, hi]

theorem asc_of_steps {zs : List Int} (h : ∀ j, j + 1 < zs.length → zs.getD j 0 < zs.getD (j + 1) 0) : Asc zs := by
  intro i j hij
  induction j with
  | zero => omega
  | succ j ih =>
    intro hj
    have h1 := h j hj
    rcases Nat.lt_or_ge i j with h2 | h2
    · have := ih h2 (by omega)
      omega
    · obtain rfl : i = j := by omega
      exact h1

theorem newDays_l (g c l : Nat) (zs : List Int) (w : World) (hl : l = zs.length) (hg : g < w.heap.size) (hbig : l ≤ 1048576) (hcap : l ≤ c) (hc : DRow g zs w) :
    Calls Try.prog 6 #[.slice (some ⟨g, 0, none⟩) l c] w fun e w' =>
      (∃ g', e = .returned (.agg #[.slice (some ⟨g', 0, none⟩) l l]) ∧ w.heap.size ≤ g' ∧ g' < w'.heap.size ∧ DRow g' zs w') ∧ Below w.heap.size w w' := by
  subst hl
  exact newDays_any g c zs w hg hbig hcap hc

theorem after_l (g l : Nat) (zs : List Int) (d m : Int) (q : Nat) (AO : Bool) (AF : Int) (w : World) (hl : l = zs.length) (hasc : Asc zs) (hq : PartsLe zs d q) (hAO : aok zs q m = AO) (hAF : aft zs q m = AF) (hg : g < w.heap.size) (hbig : l ≤ 1048576) (hc : DRow g zs w) :
    Calls Try.prog 8 #[.agg #[.slice (some ⟨g, 0, none⟩) l l], .agg #[.int .i64 d], .int .i64 m] w fun e w' =>
      e = .returned (.tuple #[.agg #[.int .i64 AF], .bool AO]) ∧ Below w.heap.size w w' := by
  subst hl hAO hAF
  exact after_any g zs d m q w hasc hq hg hbig hc

theorem nth_l (g l : Nat) (zs : List Int) (d m : Int) (ok : Bool) (r : Int) (w : World) (hl : l = zs.length) (ht : nth zs d m ok r = true) (hbig : l ≤ 1048576) (hc : DRow g zs w) :
    Calls Try.prog 9 #[.slice (some ⟨g, 0, none⟩) l l, .int .i64 d, .int .i64 m, .bool ok, .int .i64 r] w fun e w' => e = .returned (.bool true) ∧ w' = w := by
  subst hl
  rw [← ht]
  exact nth_any g zs d m ok r w hbig hc

/-- what was there stays -/
def Keeps (w w' : World) : Prop := ∀ p v, w.cell? p = some v → w'.cell? p = some v
theorem Keeps.of {w w' : World} (h : Below w.heap.size w w') : Keeps w w' := fun _ _ hv => (h.cell (World.block_lt_of_cell? _ _ hv)).trans hv
theorem Keeps.alloc {w w' : World} {o : Obj} (h : Below (w.alloc o).heap.size (w.alloc o) w') : Keeps w w' := fun p v hv => by
  have h1 := World.block_lt_of_cell? _ _ hv
  exact (h.cell (by rw [size_alloc]; omega)).trans ((((Below.refl _ w).alloc (Nat.le_refl _) o).cell h1).trans hv)
theorem Keeps.row {w w' : World} (h : Keeps w w') {g : Nat} {zs : List Int} (hr : DRow g zs w) : DRow g zs w' := fun i hi => h _ _ (hr i hi)
theorem new_cell {w w' : World} {v : Value} {t : TypeId} (h : Below (w.alloc (.cells #[v] t)).heap.size (w.alloc (.cells #[v] t)) w') : w'.cell? ⟨w.heap.size, 0, none⟩ = some v :=
  (h.cell (p := ⟨w.heap.size, 0, none⟩) (by rw [size_alloc]; exact Nat.lt_succ_self _)).trans (cell_of (heap_alloc_new _ _) rfl)
theorem new_size {w w' : World} {o : Obj} (h : Below (w.alloc o).heap.size (w.alloc o) w') : w.heap.size < w'.heap.size := by
  have := h.size
  rw [size_alloc] at this
  omega
theorem new_below {B : Nat} {w0 w w' : World} {o : Obj} (h0 : Below B w0 w) (hB : B ≤ w.heap.size) (h : Below (w.alloc o).heap.size (w.alloc o) w') : Below B w0 w' :=
  (h0.alloc hB o).trans (h.mono (by rw [size_alloc]; omega))
theorem keep_below {B : Nat} {w0 w w' : World} (h0 : Below B w0 w) (hB : B ≤ w.heap.size) (h : Below w.heap.size w w') : Below B w0 w' := h0.trans (h.mono hB)
end Go.Proofs.Qxb6630672a
