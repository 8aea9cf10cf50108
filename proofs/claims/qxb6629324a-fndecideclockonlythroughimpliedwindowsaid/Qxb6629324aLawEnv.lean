/-
  What the two laws hold of memory while they run: whole blocks, pointers to ints, and that nothing old has turned.
-/
import Derived.Test.Qxb6629324aDec
import Derived.Test.Qxb6629324aGuards
import Derived.Test.Qxb6629324aBlockB
import Derived.Test.Qxb6629324aRecd
namespace Go.Proofs.Qxb6629324a
open Go.ChangeShapes Go.WideShapes Go.ChangeAt Go.RowKit

structure LE (w wk : World) (l : List (Nat × Array Value × TypeId)) (q : List (Option Addr × Option Int)) : Prop where
  has : ∀ e ∈ l, wk.heap[e.1]? = some (.cells e.2.1 e.2.2 (0, 0))
  ptr : ∀ e ∈ q, PtrIs wk e.1 e.2
  below : Below w.heap.size w wk
theorem LE.get {w wk : World} {l : List (Nat × Array Value × TypeId)} {q : List (Option Addr × Option Int)} (h : LE w wk l q) (i : Nat) {b : Nat} {C : Array Value} {t : TypeId} (hi : l[i]? = some (b, C, t)) : wk.heap[b]? = some (.cells C t (0, 0)) :=
  h.has (b, C, t) (List.mem_of_getElem? hi)
theorem LE.pt {w wk : World} {l : List (Nat × Array Value × TypeId)} {q : List (Option Addr × Option Int)} (h : LE w wk l q) (i : Nat) {p : Option Addr} {o : Option Int} (hi : q[i]? = some (p, o)) : PtrIs wk p o :=
  h.ptr (p, o) (List.mem_of_getElem? hi)
theorem LE.step {w wk w' : World} {l : List (Nat × Array Value × TypeId)} {q : List (Option Addr × Option Int)} (h : LE w wk l q) (hb : Below wk.heap.size wk w') : LE w w' l q where
  has := fun e he => below_blk hb (lt_of_blk (h.has e he)) (h.has e he)
  ptr := fun e he => (h.ptr e he).below hb
  below := h.below.trans (hb.mono h.below.size)
theorem LE.alloc {w wk : World} {l : List (Nat × Array Value × TypeId)} {q : List (Option Addr × Option Int)} (h : LE w wk l q) (o : Obj) : LE w (wk.alloc o) l q :=
  h.step ((Below.refl _ _).alloc (Nat.le_refl _) _)
theorem LE.drew {w wk : World} {l : List (Nat × Array Value × TypeId)} {q : List (Option Addr × Option Int)} (h : LE w wk l q) : LE w wk.drew l q :=
  h.step (Below.refl _ _).drew
theorem LE.new {w wk : World} {l : List (Nat × Array Value × TypeId)} {q : List (Option Addr × Option Int)} (h : LE w wk l q) (C : Array Value) (t : TypeId) : LE w (wk.alloc (.cells C t)) ((wk.heap.size, C, t) :: l) q where
  has := fun e he => by
    rcases List.mem_cons.1 he with rfl | he
    · exact heap_at _ _ _ rfl
    · exact (h.alloc _).has e he
  ptr := (h.alloc _).ptr
  below := (h.alloc _).below
theorem LE.newAt {w wk : World} {l : List (Nat × Array Value × TypeId)} {q : List (Option Addr × Option Int)} (h : LE w wk l q) (C : Array Value) (t : TypeId) (n : Nat) (hn : n = wk.heap.size) : LE w (wk.alloc (.cells C t)) ((n, C, t) :: l) q := by
  subst hn; exact h.new C t
theorem LE.ptrs {w wk : World} {l : List (Nat × Array Value × TypeId)} {q q' : List (Option Addr × Option Int)} (h : LE w wk l q) (hq : ∀ e ∈ q', PtrIs wk e.1 e.2) : LE w wk l q' := ⟨h.has, hq, h.below⟩
theorem LE.start (w : World) (PU RC : Array Value) (q : List (Option Addr × Option Int)) (hq : ∀ e ∈ q, PtrIs w e.1 e.2) : LE w ((w.alloc (.cells PU 25)).alloc (.cells RC 28)) [(w.heap.size + 1, RC, 28), (w.heap.size, PU, 25)] q := by
  have h0 : LE w w [] q := ⟨fun e he => (by cases he), hq, Below.refl _ _⟩
  exact (h0.new PU 25).newAt RC 28 (w.heap.size + 1) (by simp)
theorem LE.cell {w wk : World} {l : List (Nat × Array Value × TypeId)} {q : List (Option Addr × Option Int)} (h : LE w wk l q) (i j : Nat) {b : Nat} {C : Array Value} {t : TypeId} {v : Value} (hi : l[i]? = some (b, C, t)) (hv : C[j]? = some v) : wk.cell? ⟨b, j, none⟩ = some v :=
  (cell_of_row wk b j C t _ (h.get i hi)).trans hv

/-- a row of cells from place o on -/
def setL (c : Array Value) : Nat → List Value → Array Value
  | _, [] => c
  | o, v :: r => setL (c.setIfInBounds o v) (o + 1) r
theorem setCells_alloc (w : World) (t : TypeId) : ∀ (vs : List Value) (c : Array Value) (o : Nat), (w.alloc (.cells c t)).setCells w.heap.size o vs = w.alloc (.cells (setL c o vs) t)
  | [], _, _ => rfl
  | v :: r, c, o => by
    show ((w.alloc (.cells c t)).setCell ⟨w.heap.size, o, none⟩ v).setCells _ _ _ = _
    rw [World.setCell_alloc_new c t o v]
    exact setCells_alloc w t r _ _
/-- a struct into a field of the block that was made last -/
theorem wpList_store_field {P : Program} {ops : Array Oper} {rest : List Oper} {o : Oper} {a : Act} {w : World} {Q : Exit → Act → World → Prop} {old : Array Value} {t : TypeId} (hgd : o.guard = none) (ty : TypeId) (x y : Operand) (ho : o.op = .store ty x y)
    {g k : Nat} {cells : Array Value} (hx : a.eval x = .pointer (some ⟨g, k, none⟩)) (hy : a.eval y = .agg cells) (new : Array Value)
    (hg : g = w.heap.size) (hi : (P.info? ty).map (·.size) = some cells.size)
    (hold : k + cells.size ≤ old.size) (h1 : cells.toList.all (·.oneCell') = true) (hnew : setL old k cells.toList = new)
    (h : wpList P ops Q rest (a.put o.dst undef) (w.alloc (.cells new t))) : wpList P ops Q (o :: rest) a (w.alloc (.cells old t)) := by
  subst hg
  refine wpList_store_mid hgd ty x y ho w.heap.size k cells hx hy (fun j hj => ⟨?_, ?_⟩) hi (by rw [← Array.all_toList]; exact h1) ?_
  · rw [World.cell?_alloc_new]
    rw [Array.getElem?_eq_getElem (by omega)]
    rfl
  · exact frozen_of_row _ _ _ _ _ (heap_alloc_last _ _)
  · rw [setCells_alloc, hnew]
    exact h

theorem Try.size25 : (Try.prog.info? 25).map (·.size) = some 7 := by kernel_rfl
theorem Try.size28 : (Try.prog.info? 28).map (·.size) = some 10 := by kernel_rfl
theorem Try.size44 : (Try.prog.info? 44).map (·.size) = some 3 := by kernel_rfl

/-- a time is the zero time exactly where its count is 0 -/
theorem zeq (x : Int) : (ns x == 0 && sc x == 0) = (x == 0) := by
  rw [Bool.eq_iff_iff]
  simp only [Bool.and_eq_true, beq_iff_eq]
  constructor
  · rintro ⟨h1, h2⟩; unfold ns sc at *; omega
  · rintro rfl; exact ⟨rfl, rfl⟩
theorem eqD (d : Dc) (w : World) : (binOp .eql 57 (.agg d.cells) (.agg d.cells)).run Try.prog w = .ok (.bool true) w := eq57 d.al d.re d.ps d.p1 d.p2 d.ts d.t1 d.t2 d.n0 d.s0 d.n1 d.s1 d.n2 d.s2 d.i1 d.i2 d.c d.a w
theorem neqD (d : Dc) (w : World) : (binOp .neq 57 (.agg d.cells) (.agg d.cells)).run Try.prog w = .ok (.bool false) w := neq57 d.al d.re d.ps d.p1 d.p2 d.ts d.t1 d.t2 d.n0 d.s0 d.n1 d.s1 d.n2 d.s2 d.i1 d.i2 d.c d.a w
end Go.Proofs.Qxb6629324a
