/-
  slices.Insert at the periods.
-/
import Derived.Test.Qxb6630565aP
import Derived.Lib.Overlaps
import Derived.Lib.AppendZeros
namespace Go.Proofs.Qxb6630565a
open Go.ChangeShapes Go.WideShapes Go.ChangeAt Go.RowKit

/-- cs laid over a row from place d on -/
def laid (cur : Array Value) (d : Nat) (cs : List Value) : Array Value := (cur.toList.take d ++ cs ++ cur.toList.drop (d + cs.length)).toArray
theorem laid_size (cur : Array Value) (d : Nat) (cs : List Value) (h : d + cs.length ≤ cur.size) : (laid cur d cs).size = cur.size := by
  unfold laid
  simp
  omega
theorem laid_at (cur : Array Value) (d : Nat) (cs : List Value) (h : d + cs.length ≤ cur.size) (j : Nat) : (laid cur d cs)[j]? = if d ≤ j ∧ j < d + cs.length then cs[j - d]? else cur[j]? := by
  unfold laid
  have hl : (cur.toList.take d).length = d := by simp; omega
  rw [List.getElem?_toArray, List.append_assoc]
  split
  · rw [List.getElem?_append_right (by omega), hl, List.getElem?_append_left (by omega)]
  · rcases Nat.lt_or_ge j d with h1 | h1
    · rw [List.getElem?_append_left (by omega), List.getElem?_take, if_pos h1, Array.getElem?_toList]
    · rw [List.getElem?_append_right (by omega), hl, List.getElem?_append_right (by omega), List.getElem?_drop, Array.getElem?_toList]
      congr 1
      omega

theorem size42 : (Try.prog.info? 42).map (·.size) = some 1 := by kernel_rfl
theorem add_at (P o j : Nat) : ((⟨P, o, none⟩ : Addr).add j) = ⟨P, o + j, none⟩ := by unfold Addr.add; split <;> simp_all

/-- copy of m numbers -/
theorem copy42 (w : World) (ty : TypeId) (G d dl dc S s sl sc : Nat) (cur : Array Value) (ys : List Int) (hg : w.heap[G]? = some (.cells cur 42 (0, 0))) (hm : ys.length = Nat.min sl dl) (hfit : d + ys.length ≤ cur.size)
    (hsrc : ∀ j, j < ys.length → w.cell? ⟨S, s + j, none⟩ = some (.int .u64 (ys.getD j 0))) :
    (Builtin.copy_ #[65, 65] ty #[.slice (some ⟨G, d, none⟩) dl dc, .slice (some ⟨S, s, none⟩) sl sc]).run Try.prog w = .ok (goInt ys.length) (w.setRow G (laid cur d (ys.map (Value.int .u64 ·)))) := by
  have hl : (ys.map (Value.int .u64 ·)).length = ys.length := List.length_map ..
  have hr := run_copy_row (P := Try.prog) w 65 65 ty 42 G d dl dc ⟨S, s, none⟩ sl sc cur 42 (ys.map (Value.int .u64 ·)) Try.underlying65 size42 hg (hl.trans hm) (fun j v hv => ?_) (by rw [hl]; exact hfit) (fun v hv => ?_)
  · rw [hl] at hr
    unfold laid
    rw [hl]
    exact hr
  · have hj : j < ys.length := by rw [← hl]; exact (List.getElem?_eq_some_iff.1 hv).1
    rw [add_at, hsrc j hj, ← hv, List.getElem?_map]
    simp [hj]
  · obtain ⟨y, _, rfl⟩ := List.mem_map.1 hv
    rfl

theorem overlaps_no (w : World) (V9 P q l1 l2 c2 : Nat) (cv cp : Array Value) (hV : w.heap[V9]? = some (.cells cv 42 (0, 0))) (hP : w.heap[P]? = some (.cells cp 42 (0, 0))) (hne : V9 ≠ P) (hc : cp.size ≠ 0) :
    (callFunc 56 #[.slice (some ⟨V9, 0, none⟩) l1 1, .slice (some ⟨P, q, none⟩) l2 c2]).run Try.prog w = .ok (.value (.bool false)) w := by
  rw [run_callFunc_extern Try.func56 (by kernel_rfl) (by kernel_rfl) (by kernel_rfl) (e := Extern.SlicesOverlaps.overlaps #[65, 65] #[4]) (by kernel_rfl),
    Lib.run_overlaps_apart w 65 4 42 Try.underlying65 1 Try.sizeOf42 ⟨V9, 0, none⟩ ⟨P, q, none⟩ l1 1 l2 c2 hne 42 42 cv.size cp.size (by simp [World.shape?, hV]) (by simp [World.shape?, hP]) hc (fro_row hV 0) (fro_row hV _)]
  rfl

/-- 'append(s[:i], make(S, m)...)' where there is no room -/
theorem appendZ (w : World) (ty : TypeId) (P o i m cap : Nat) (xs : List Int) (cur : Array Value) (hg : w.heap[P]? = some (.cells cur 42 (0, 0))) (hc : ∀ j, j < xs.length → cur[o + j]? = some (.int .u64 (xs.getD j 0))) (hi : i ≤ xs.length) (hm : 0 < m) (hcap : cap < i + m) (hbig : i + m ≤ 1048577) :
    ∃ arr : Array Value, arr.size = grownCap w (i + m) cap 42 ∧ (∀ j, j < i → arr[j]? = some (.int .u64 (xs.getD j 0))) ∧
      (Builtin.append_ #[65, 3] ty #[.slice (some ⟨P, o, none⟩) i cap, .int .i64 (m : Int)]).run Try.prog w = .ok (.slice (some ⟨w.heap.size, 0, none⟩) (i + m) (grownCap w (i + m) cap 42)) (w.drew.alloc (.cells arr 42)) := by
  obtain ⟨inf, hi2, hz, hs, hby⟩ := info_open info42
  obtain ⟨olds, ho⟩ : ∃ olds, olds = (xs.take i).map (Value.int .u64 ·) := ⟨_, rfl⟩
  have hol : olds.length = i := by rw [ho, List.length_map, List.length_take]; omega
  have hoa : ∀ j, j < i → olds[j]? = some (.int .u64 (xs.getD j 0)) := fun j hj => by
    rw [ho, List.getElem?_map, List.getElem?_take, if_pos hj]
    have : j < xs.length := by omega
    simp [this]
  have hfo := run_firstCells_some (P := Try.prog) w.drew 1 i ⟨P, o, none⟩ i cap olds (by rw [hol]; omega) (fun j u hu => by
    have hj : j < i := by rw [← hol]; exact (List.getElem?_eq_some_iff.1 hu).1
    rw [add_at]
    show w.cell? ⟨P, o + j, none⟩ = _
    rw [cell_row hg, hc j (by omega), ← hoa j hj]
    exact hu)
  have hge := grownCap_ge w (i + m) cap 42
  have hw : IntKind.i64.wrap (m : Int) = m := by rw [IntKind.wrap_i64]; omega
  have hm0 : m ≠ 0 := by omega
  have hn : ¬ (i + m ≤ cap) := by omega
  have h63' : ¬ (9223372036854775807 < ((i : Int) + (m : Int))) := by omega
  have hfit : Builtin.nextslicecap (i + m) cap * inf.bytes ≤ 281474976710656 := growslice_fits (by omega) (by rw [hby]; omega)
  have h48' : ¬ (281474976710656 < Builtin.nextslicecap (i + m) cap * inf.bytes) := by omega
  have h48i : ¬ (281474976710656 < (m : Int) * (inf.bytes : Int)) := by rw [hby]; omega
  have hneg : ¬ ((m : Int) < 0) := by omega
  refine ⟨olds.toArray ++ Builtin.zeroCells (Value.int .u64 0).cells m ++ Builtin.zeroCells (Value.int .u64 0).cells (grownCap w (i + m) cap 42 - (i + m)), ?_, ?_, ?_⟩
  · simp only [Array.size_append, List.size_toArray, size_zeroCells, hol]
    simp [Value.cells]
    omega
  · intro j hj
    rw [Array.getElem?_append_left (by simp only [Array.size_append, List.size_toArray, hol]; omega), Array.getElem?_append_left (by rw [List.size_toArray, hol]; exact hj), List.getElem?_toArray]
    exact hoa j hj
  · simp [Builtin.append_, run_underlying Try.underlying65, run_underlying Try.underlying3, sizeOf, typeInfo, zeroValue, hi2, hz, hs, asInt, asIntOf, hw, hm0, hneg, hn, h63', h48', h48i, Question.forced, hfo, newRow, grownCap]
end Go.Proofs.Qxb6630565a
