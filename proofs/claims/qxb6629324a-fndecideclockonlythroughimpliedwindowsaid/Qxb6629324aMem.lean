/-
  WHOLE STRUCTS IN MEMORY: laws on loads and stores of a struct at a block's head, with no unrolling. No program in sight.
-/
import Derived.WalkKit
import Derived.WalkLawsBesides
import Derived.ProofKit
import Derived.Deep.WholeRow
import Derived.Deep.Light
namespace Go.Proofs.Qxb6629324a
open Go.ChangeShapes Go.WideShapes Go.ChangeAt Go.RowKit

theorem setRow_at (w : World) (c c' : Array Value) (t : TypeId) (n : Nat) (hn : n = w.heap.size) : (w.alloc (.cells c t)).setRow n c' = w.alloc (.cells c' t) := by
  subst hn; exact World.setRow_alloc_new w c c' t

/-- a whole struct into the block that was made last -/
theorem wpList_store_last {P : Program} {ops : Array Oper} {rest : List Oper} {o : Oper} {a : Act} {w : World} {Q : Exit → Act → World → Prop} {old : Array Value} {t : TypeId} (hgd : o.guard = none) (ty : TypeId) (x y : Operand) (ho : o.op = .store ty x y)
    {g : Nat} {cells : Array Value} (hx : a.eval x = .pointer (some ⟨g, 0, none⟩)) (hy : a.eval y = .agg cells)
    (hg : g = w.heap.size) (hi : (P.info? ty).map (·.size) = some cells.size)
    (hold : old.size = cells.size) (h1 : cells.toList.all (·.oneCell') = true)
    (h : wpList P ops Q rest (a.put o.dst undef) (w.alloc (.cells cells t))) : wpList P ops Q (o :: rest) a (w.alloc (.cells old t)) := by
  refine wpList_store_row hgd ty x y ho g cells hx hy t old (by rw [hg]; exact heap_alloc_last _ _) hi hold (by rw [← Array.all_toList]; exact h1) ?_
  rw [setRow_at _ _ _ _ _ hg]
  exact h

/-- a whole struct into a block that lies further down -/
theorem wpList_store_blk {P : Program} {ops : Array Oper} {rest : List Oper} {o : Oper} {a : Act} {w : World} {Q : Exit → Act → World → Prop} (hgd : o.guard = none) (ty : TypeId) (x y : Operand) (ho : o.op = .store ty x y)
    {g : Nat} {cells : Array Value} (hx : a.eval x = .pointer (some ⟨g, 0, none⟩)) (hy : a.eval y = .agg cells)
    (old : Array Value) (t : TypeId) (hg : w.heap[g]? = some (.cells old t (0, 0))) (hi : (P.info? ty).map (·.size) = some cells.size)
    (hold : old.size = cells.size) (h1 : cells.toList.all (·.oneCell') = true)
    (h : wpList P ops Q rest (a.put o.dst undef) (w.setRow g cells)) : wpList P ops Q (o :: rest) a w :=
  wpList_store_row hgd ty x y ho g cells hx hy t old hg hi hold (by rw [← Array.all_toList]; exact h1) h

/-- a whole struct out of a block -/
theorem wpList_load_blk {P : Program} {ops : Array Oper} {rest : List Oper} {o : Oper} {a : Act} {w : World} {Q : Exit → Act → World → Prop} (hgd : o.guard = none) (ty : TypeId) (x : Operand) (ho : o.op = .load ty x)
    {g : Nat} (hx : a.eval x = .pointer (some ⟨g, 0, none⟩)) (cs : Array Value) (t : TypeId) (d : TypeDesc) (hg : w.heap[g]? = some (.cells cs t (0, 0)))
    (hu : P.underlying ty = some d) (hd : (match d with | .struct _ | .array _ _ => true | _ => false) = true) (hi : (P.info? ty).map (·.size) = some cs.size)
    (h : wpList P ops Q rest (a.put o.dst (.agg cs)) w) : wpList P ops Q (o :: rest) a w :=
  wpList_load_row hgd ty x ho g hx t cs (0, 0) d hg hu hd hi h

theorem heap_setRow_same (w : World) (g : Nat) (old cells : Array Value) (t : TypeId) (hg : w.heap[g]? = some (.cells old t (0, 0))) : (w.setRow g cells).heap[g]? = some (.cells cells t (0, 0)) := by
  simp [World.setRow, Array.getElem?_modify, hg]
theorem heap_setRow_other (w : World) (g k : Nat) (cells : Array Value) (h : k ≠ g) : (w.setRow g cells).heap[k]? = w.heap[k]? := by
  have h' : ¬ g = k := fun e => h e.symm
  simp [World.setRow, Array.getElem?_modify, h']
theorem Below.setRow {B : Nat} {a w : World} (h : Below B a w) {g : Nat} (hg : B ≤ g) (cells : Array Value) : Below B a (w.setRow g cells) :=
  ⟨h.os, h.tape, h.output, by simpa using h.size, fun k hk => (heap_setRow_other w g k cells (by omega)).trans (h.block k hk)⟩

theorem bcell {W w1 : World} (hb : Below W.heap.size W w1) : (∀ b o, b < W.heap.size → w1.cell? ⟨b, o, none⟩ = W.cell? ⟨b, o, none⟩) ∧ (∀ b o, b < W.heap.size → w1.frozen? ⟨b, o, none⟩ = W.frozen? ⟨b, o, none⟩) :=
  ⟨fun b o h => hb.cell (p := ⟨b, o, none⟩) h, fun b o h => hb.frozen (p := ⟨b, o, none⟩) h⟩
theorem bcellB {B : Nat} {W w1 : World} (hb : Below B W w1) : (∀ b o, b < B → w1.cell? ⟨b, o, none⟩ = W.cell? ⟨b, o, none⟩) ∧ (∀ b o, b < B → w1.frozen? ⟨b, o, none⟩ = W.frozen? ⟨b, o, none⟩) :=
  ⟨fun b o h => hb.cell (p := ⟨b, o, none⟩) h, fun b o h => hb.frozen (p := ⟨b, o, none⟩) h⟩

theorem heap_at (w : World) (o : Obj) (n : Nat) (hn : n = w.heap.size) : (w.alloc o).heap[n]? = some o := by subst hn; exact heap_alloc_last w o
theorem hide {p : Prop} (h : p) : Hid p := h
theorem ret_bool {a b : Bool} (h : a = b) : Ending.returned (.bool a) = .returned (.bool b) := by rw [h]
theorem ret_int {k : IntKind} {a b : Int} (h : a = b) : Ending.returned (.int k a) = .returned (.int k b) := by rw [h]
end Go.Proofs.Qxb6629324a
