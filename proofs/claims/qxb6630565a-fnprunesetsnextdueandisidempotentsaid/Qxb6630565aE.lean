/-
  WHAT A CALL TOUCHES; a row of versions; slices.Delete.
-/
import Derived.Test.Qxb6630565aD
import Derived.Maps.AppendAt
import Derived.Deep.AppendSrc
import Derived.Laws.MakeOwn
namespace Go.Proofs.Qxb6630565a
open Go.ChangeShapes Go.WideShapes Go.ChangeAt Go.RowKit

/-- of the old blocks those of B alone may have turned -/
structure Fr (B : Nat → Prop) (w w' : World) : Prop where
  os : w'.os = w.os
  tape : w'.tape = w.tape
  output : w'.output = w.output
  size : w.heap.size ≤ w'.heap.size
  block : ∀ k, k < w.heap.size → ¬ B k → w'.heap[k]? = w.heap[k]?

theorem Fr.refl (B : Nat → Prop) (w : World) : Fr B w w := ⟨rfl, rfl, rfl, Nat.le_refl _, fun _ _ _ => rfl⟩
theorem Fr.trans {B : Nat → Prop} {a b c : World} (h : Fr B a b) (k : Fr B b c) : Fr B a c :=
  ⟨k.os.trans h.os, k.tape.trans h.tape, k.output.trans h.output, Nat.le_trans h.size k.size, fun i hi hn => (k.block i (Nat.lt_of_lt_of_le hi h.size) hn).trans (h.block i hi hn)⟩
/-- the second may also turn blocks that are new -/
theorem Fr.trans' {B B' : Nat → Prop} {a b c : World} (h : Fr B a b) (k : Fr B' b c) (hB : ∀ i, B' i → B i ∨ a.heap.size ≤ i) : Fr B a c :=
  ⟨k.os.trans h.os, k.tape.trans h.tape, k.output.trans h.output, Nat.le_trans h.size k.size, fun i hi hn =>
    (k.block i (Nat.lt_of_lt_of_le hi h.size) (fun hb => by rcases hB i hb with h1 | h1; exact hn h1; omega)).trans (h.block i hi hn)⟩
theorem Fr.mono {B B' : Nat → Prop} {w w' : World} (h : Fr B w w') (hB : ∀ i, B i → B' i) : Fr B' w w' := ⟨h.os, h.tape, h.output, h.size, fun i hi hn => h.block i hi (fun hb => hn (hB i hb))⟩
theorem Fr.below {B : Nat → Prop} {w w' : World} (h : Below w.heap.size w w') : Fr B w w' := ⟨h.os, h.tape, h.output, h.size, fun i hi _ => h.block i hi⟩
theorem Fr.to {B : Nat → Prop} {w w' : World} (h : Fr B w w') (n : Nat) (hn : n ≤ w.heap.size) (hB : ∀ i, B i → n ≤ i) : Below n w w' :=
  ⟨h.os, h.tape, h.output, h.size, fun i hi => h.block i (by omega) (fun hb => by have := hB i hb; omega)⟩
theorem Fr.drew {B : Nat → Prop} {w0 w : World} (h : Fr B w0 w) : Fr B w0 w.drew := ⟨h.os, h.tape, h.output, h.size, h.block⟩
theorem Fr.drewN {B : Nat → Prop} {w0 w : World} (h : Fr B w0 w) (n : Nat) : Fr B w0 (w.drewN n) := ⟨h.os, h.tape, h.output, h.size, h.block⟩
theorem Fr.alloc {B : Nat → Prop} {w0 w : World} (h : Fr B w0 w) (o : Obj) : Fr B w0 (w.alloc o) := h.trans (Fr.below ((Below.refl _ w).alloc (Nat.le_refl _) o))
theorem Fr.setRow {B : Nat → Prop} {w0 w : World} (h : Fr B w0 w) {g : Nat} (hg : B g) (cs : Array Value) : Fr B w0 (w.setRow g cs) :=
  h.trans ⟨rfl, rfl, rfl, by simp, fun k _ hn => setRow_other w g k cs (fun e => hn (e ▸ hg))⟩
theorem setCell_other_heap (w : World) (p : Addr) (v : Value) (k : Nat) (h : k ≠ p.block) : (w.setCell p v).heap[k]? = w.heap[k]? := by
  simp [World.setCell, Array.getElem?_modify, Ne.symm h]
theorem Fr.setCell {B : Nat → Prop} {w0 w : World} (h : Fr B w0 w) {p : Addr} (hg : B p.block) (v : Value) : Fr B w0 (w.setCell p v) :=
  h.trans ⟨rfl, rfl, rfl, by simp, fun k _ hn => setCell_other_heap w p v k (fun e => hn (e ▸ hg))⟩
theorem Fr.grown {B : Nat → Prop} {w w' : World} {row : Option Nat} (h : w.grownBy w' row) (hB : ∀ g, row = some g → B g) : Fr B w w' :=
  ⟨h.os, h.tape, h.output, h.size, fun k hk hn => h.block k hk (fun e => hn (hB k e.symm))⟩
theorem Fr.cell {B : Nat → Prop} {w w' : World} (h : Fr B w w') {p : Addr} {v : Value} (hn : ¬ B p.block) (hv : w.cell? p = some v) : w'.cell? p = some v :=
  (World.cell?_of_block (h.block p.block (World.block_lt_of_cell? _ _ hv) hn)).trans hv
theorem Fr.heap {B : Nat → Prop} {w w' : World} (h : Fr B w w') {g : Nat} {o : Obj} (hn : ¬ B g) (hv : w.heap[g]? = some o) : w'.heap[g]? = some o :=
  (h.block g (Array.getElem?_eq_some_iff.1 hv).1 hn).trans hv

theorem info72 : (Try.prog.info? 72).map (fun i => (i.zero, i.size, i.bytes)) = some (some (.agg #[.int .u64 0, .int .u64 0, .int .i32 0, .int .i32 0, .int .i32 0, .int .i32 0]), 6, 32) := by kernel_rfl
theorem info49 : (Try.prog.info? 49).map (fun i => (i.zero, i.size, i.bytes)) = some (some (.agg #[.slice none 0 0, .int .i32 0, .int .u64 0, .int .u64 0, .int .i64 0, .slice none 0 0, .slice none 0 0, .int .u64 0]), 8, 112) := by kernel_rfl
theorem info42 : (Try.prog.info? 42).map (fun i => (i.zero, i.size, i.bytes)) = some (some (.int .u64 0), 1, 8) := by kernel_rfl
theorem info3 : (Try.prog.info? 3).map (fun i => (i.zero, i.size, i.bytes)) = some (some (.int .i64 0), 1, 8) := by kernel_rfl
theorem info_open {e : TypeId} {z : Value} {s b : Nat} (h : (Try.prog.info? e).map (fun i => (i.zero, i.size, i.bytes)) = some (some z, s, b)) : ∃ i, Try.prog.info? e = some i ∧ i.zero = some z ∧ i.size = s ∧ i.bytes = b := by
  obtain ⟨i, hi, hzz⟩ := Option.map_eq_some_iff.1 h
  simp only [Prod.mk.injEq] at hzz
  exact ⟨i, hi, hzz.1, hzz.2.1, hzz.2.2⟩

/-- a row of n versions, not nil -/
structure VR (w : World) (g cap n : Nat) (T X : Nat → Int) : Prop where
  row : ∃ cur, w.heap[g]? = some (.cells cur 72 (0, 0)) ∧ cur.size = cap * 6
  len : n ≤ cap
  cap : cap ≤ maxLen
  vc : VC g 0 n T X w
theorem VR.fr {w w' : World} {g cap n : Nat} {T X : Nat → Int} (h : VR w g cap n T X) {B : Nat → Prop} (f : Fr B w w') (hB : ¬ B g) : VR w' g cap n T X := by
  obtain ⟨cur, h1, h2⟩ := h.row
  refine ⟨⟨cur, f.heap hB h1, h2⟩, h.len, h.cap, fun i hi => ?_⟩
  obtain ⟨a, b, c, d, e, k⟩ := h.vc i hi
  exact ⟨f.cell hB a, f.cell hB b, f.cell hB c, f.cell hB d, f.cell hB e, f.cell hB k⟩

theorem cell_row {w : World} {g : Nat} {cur : Array Value} {t : TypeId} (h : w.heap[g]? = some (.cells cur t (0, 0))) (j : Nat) : w.cell? ⟨g, j, none⟩ = cur[j]? := by simp [World.cell?, h]
theorem fro_row {w : World} {g : Nat} {cur : Array Value} {t : TypeId} (h : w.heap[g]? = some (.cells cur t (0, 0))) (j : Nat) : w.frozen? ⟨g, j, none⟩ = false := by simp [World.frozen?, h]

theorem V6.at {g o : Nat} {t x : Int} {w : World} (h : V6 g o t x w) (r : Nat) (hr : r < 6) : ∃ v, w.cell? ⟨g, o + r, none⟩ = some v ∧ v.oneCell' = true := by
  obtain ⟨a, b, c, d, e, k⟩ := h
  match r, hr with
  | 0, _ => exact ⟨_, a, rfl⟩
  | 1, _ => exact ⟨_, b, rfl⟩
  | 2, _ => exact ⟨_, c, rfl⟩
  | 3, _ => exact ⟨_, d, rfl⟩
  | 4, _ => exact ⟨_, e, rfl⟩
  | 5, _ => exact ⟨_, k, rfl⟩
theorem VC.at {g n : Nat} {T X : Nat → Int} {w : World} (h : VC g 0 n T X w) (j : Nat) (hj : j < n * 6) : ∃ v, w.cell? ⟨g, j, none⟩ = some v ∧ v.oneCell' = true := by
  have := (h (j / 6) (by omega)).at (j % 6) (by omega)
  rwa [show 0 + j / 6 * 6 + j % 6 = j by omega] at this

/-- two rows of cells that agree on k versions -/
theorem VC.move {g g' o o' n : Nat} {T X T' X' : Nat → Int} {w w' : World} (h : VC g o n T X w) (hT : ∀ i, i < n → T' i = T i) (hX : ∀ i, i < n → X' i = X i)
    (hc : ∀ j v, j < n * 6 → w.cell? ⟨g, o + j, none⟩ = some v → w'.cell? ⟨g', o' + j, none⟩ = some v) : VC g' o' n T' X' w' := by
  intro i hi
  obtain ⟨a, b, c, d, e, k⟩ := h i hi
  rw [hT i hi, hX i hi]
  have f : ∀ r v, r < 6 → w.cell? ⟨g, o + i * 6 + r, none⟩ = some v → w'.cell? ⟨g', o' + i * 6 + r, none⟩ = some v := fun r v hr hv => by
    have := hc (i * 6 + r) v (by omega) (by rwa [← Nat.add_assoc])
    rwa [← Nat.add_assoc] at this
  exact ⟨f 0 _ (by omega) a, f 1 _ (by omega) b, f 2 _ (by omega) c, f 3 _ (by omega) d, f 4 _ (by omega) e, f 5 _ (by omega) k⟩
end Go.Proofs.Qxb6630565a
