/-
  (*chain).prune.
-/
import Derived.Test.Qxb6630565aF
import Derived.Deep.RegionLaw
namespace Go.Proofs.Qxb6630565a
open Go.ChangeShapes Go.WideShapes Go.ChangeAt Go.RowKit

/-- the chain that begins at cell o of the chains' block; all other cells as in cur0 -/
def CH (w : World) (C o : Nat) (sv : Value) (fl : Int) (cur0 : Array Value) : Prop :=
  ∃ cur : Array Value, w.heap[C]? = some (.cells cur 49 (0, 0)) ∧ cur.size = cur0.size ∧ (∀ j, j < o ∨ o + 8 ≤ j → cur[j]? = cur0[j]?) ∧ cur[o]? = some sv ∧ cur[o + 1]? = some (.int .i32 0) ∧
    (∃ l0 l1 l2, cur[o + 2]? = some l0 ∧ cur[o + 3]? = some l1 ∧ cur[o + 4]? = some l2) ∧ cur[o + 5]? = some (.slice none 0 0) ∧ cur[o + 6]? = some (.slice none 0 0) ∧ cur[o + 7]? = some (.int .u64 fl)

theorem setCell_heap {w : World} {C i : Nat} {cur : Array Value} {t : TypeId} (h : w.heap[C]? = some (.cells cur t (0, 0))) (v : Value) : (w.setCell ⟨C, i, none⟩ v).heap[C]? = some (.cells (cur.setIfInBounds i v) t (0, 0)) := by
  rw [setCell_eq_setRow w C i cur t (0, 0) v h]
  exact setRow_heap w C cur _ t (0, 0) h
theorem set_ne {cur : Array Value} {i j : Nat} {v : Value} (h : i ≠ j) : (cur.setIfInBounds i v)[j]? = cur[j]? := Array.getElem?_setIfInBounds_ne h
theorem set_eq {cur : Array Value} {i : Nat} {v u : Value} (h : cur[i]? = some u) : (cur.setIfInBounds i v)[i]? = some v := by
  have := (Array.getElem?_eq_some_iff.1 h).1
  simp [this]

section
variable {w w' : World} {C o : Nat} {sv : Value} {fl : Int} {cur0 : Array Value}
theorem CH.c0 (h : CH w C o sv fl cur0) : w.cell? ⟨C, o, none⟩ = some sv := by obtain ⟨cur, h1, _, _, h4, _⟩ := h; rw [cell_row h1, h4]
theorem CH.c1 (h : CH w C o sv fl cur0) : w.cell? ⟨C, o + 1, none⟩ = some (.int .i32 0) := by obtain ⟨cur, h1, _, _, _, h4, _⟩ := h; rw [cell_row h1, h4]
theorem CH.c5 (h : CH w C o sv fl cur0) : w.cell? ⟨C, o + 5, none⟩ = some (.slice none 0 0) := by obtain ⟨cur, h1, _, _, _, _, _, h4, _⟩ := h; rw [cell_row h1, h4]
theorem CH.c6 (h : CH w C o sv fl cur0) : w.cell? ⟨C, o + 6, none⟩ = some (.slice none 0 0) := by obtain ⟨cur, h1, _, _, _, _, _, _, h4, _⟩ := h; rw [cell_row h1, h4]
theorem CH.c7 (h : CH w C o sv fl cur0) : w.cell? ⟨C, o + 7, none⟩ = some (.int .u64 fl) := by obtain ⟨cur, h1, _, _, _, _, _, _, _, h4⟩ := h; rw [cell_row h1, h4]
theorem CH.fro (h : CH w C o sv fl cur0) (j : Nat) : w.frozen? ⟨C, j, none⟩ = false := by obtain ⟨cur, h1, _⟩ := h; exact fro_row h1 j
theorem CH.lt (h : CH w C o sv fl cur0) : C < w.heap.size := by obtain ⟨cur, h1, _⟩ := h; exact (Array.getElem?_eq_some_iff.1 h1).1
theorem CH.fr (h : CH w C o sv fl cur0) {B : Nat → Prop} (f : Fr B w w') (hB : ¬ B C) : CH w' C o sv fl cur0 := by obtain ⟨cur, h1, h2⟩ := h; exact ⟨cur, f.heap hB h1, h2⟩
theorem CH.ne (h : CH w C o sv fl cur0) {g cap n : Nat} {T X : Nat → Int} (hv : VR w g cap n T X) : C ≠ g := by
  obtain ⟨cur, h1, _⟩ := h
  obtain ⟨c2, h2, _⟩ := hv.row
  intro e
  subst e
  rw [h1] at h2
  cases h2
theorem CH.set0 (h : CH w C o sv fl cur0) (sv' : Value) : CH (w.setCell ⟨C, o, none⟩ sv') C o sv' fl cur0 := by
  obtain ⟨cur, h1, h2, h3, h4, h5, ⟨l0, l1, l2, h6, h7, h8⟩, h9, h10, h11⟩ := h
  refine ⟨_, setCell_heap h1 sv', by simp [h2], fun j hj => (set_ne (by omega)).trans (h3 j hj), set_eq h4, (set_ne (by omega)).trans h5, ⟨l0, l1, l2, ?_, ?_, ?_⟩, ?_, ?_, ?_⟩ <;> (refine (set_ne (by omega)).trans ?_; assumption)
theorem CH.set1 (h : CH w C o sv fl cur0) : CH (w.setCell ⟨C, o + 1, none⟩ (.int .i32 0)) C o sv fl cur0 := by
  obtain ⟨cur, h1, h2, h3, h4, h5, ⟨l0, l1, l2, h6, h7, h8⟩, h9, h10, h11⟩ := h
  refine ⟨_, setCell_heap h1 _, by simp [h2], fun j hj => (set_ne (by omega)).trans (h3 j hj), (set_ne (by omega)).trans h4, set_eq h5, ⟨l0, l1, l2, ?_, ?_, ?_⟩, ?_, ?_, ?_⟩ <;> (refine (set_ne (by omega)).trans ?_; assumption)
theorem CH.set6 (h : CH w C o sv fl cur0) : CH (w.setCell ⟨C, o + 6, none⟩ (.slice none 0 0)) C o sv fl cur0 := by
  obtain ⟨cur, h1, h2, h3, h4, h5, ⟨l0, l1, l2, h6, h7, h8⟩, h9, h10, h11⟩ := h
  refine ⟨_, setCell_heap h1 _, by simp [h2], fun j hj => (set_ne (by omega)).trans (h3 j hj), (set_ne (by omega)).trans h4, (set_ne (by omega)).trans h5, ⟨l0, l1, l2, ?_, ?_, ?_⟩, ?_, set_eq h10, ?_⟩ <;> (refine (set_ne (by omega)).trans ?_; assumption)
theorem CH.set7 (h : CH w C o sv fl cur0) (fl' : Int) : CH (w.setCell ⟨C, o + 7, none⟩ (.int .u64 fl')) C o sv fl' cur0 := by
  obtain ⟨cur, h1, h2, h3, h4, h5, ⟨l0, l1, l2, h6, h7, h8⟩, h9, h10, h11⟩ := h
  refine ⟨_, setCell_heap h1 _, by simp [h2], fun j hj => (set_ne (by omega)).trans (h3 j hj), (set_ne (by omega)).trans h4, (set_ne (by omega)).trans h5, ⟨l0, l1, l2, ?_, ?_, ?_⟩, ?_, ?_, set_eq h11⟩ <;> (refine (set_ne (by omega)).trans ?_; assumption)
end

abbrev z72 : Array Value := #[.int .u64 0, .int .u64 0, .int .i32 0, .int .i32 0, .int .i32 0, .int .i32 0]
theorem make72 (m : Nat) (hm : m ≤ 1048576) (w : World) : (Instr.makeSlice 43 (.int .i64 0) (.int .i64 (2 * (m : Int) + 1))).run Try.prog w = .ok (.slice (some ⟨w.heap.size, 0, none⟩) 0 (2 * m + 1)) (w.alloc (.cells (madeCells z72 ((2 * m + 1) * 6)) 72)) := by
  obtain ⟨i, hi, hz, hs, hb⟩ := info_open info72
  have hr := run_make (P := Try.prog) w 43 72 i _ Try.underlying43 hi hz .i64 .i64 0 (2 * (m : Int) + 1) (by omega) (by omega) (by rw [hb]; omega) (by omega)
  rw [hs, show (2 * (m : Int) + 1).toNat = 2 * m + 1 by omega] at hr
  exact hr
theorem made_row (w : World) (m : Nat) : ∃ cur, (w.alloc (.cells (madeCells z72 (m * 6)) 72)).heap[w.heap.size]? = some (.cells cur 72 (0, 0)) ∧ cur.size = m * 6 := ⟨_, heap_alloc_new _ _, size_madeCells _ _⟩

/-- the versions appended to a new, empty row with room -/
theorem step_repack {w : World} {ops : Array Oper} {o : Oper} {a : Act} {K : Act → World → Prop} {Q : Exit → Act → World → Prop} {E : Prop} (s x : Operand) (hgd : o.guard = none) (ho : o.op = .call { callee := .builtin .append, args := #[s, x], argTypes := #[43, 43] })
    (G capG g m cap : Nat) (T X : Nat → Int) (hs : a.eval s = .slice (some ⟨G, 0, none⟩) 0 capG) (hx : a.eval x = .slice (some ⟨g, 0, none⟩) m cap) (hV : VR w g cap m T X)
    (hG : ∃ cur, w.heap[G]? = some (.cells cur 72 (0, 0)) ∧ cur.size = capG * 6) (hm : m ≤ capG) (hcG : capG ≤ maxLen)
    (h : ∀ w', VR w' G capG m T X → Fr (· = G) w w' → K (a.put o.dst (.slice (some ⟨G, 0, none⟩) m capG)) w') : if Region.wanted o (yielded ops a.tmps) = true then Oper.wp Try.prog o a w K Q else E := by
  obtain ⟨curG, hg, hsz⟩ := hG
  obtain ⟨cur, hgc, hsc⟩ := hV.row
  obtain ⟨i, hi, hz, hsi, hby⟩ := info_open info72
  have hlen := hV.len
  obtain ⟨news, hnews⟩ : ∃ news, news = cur.toList.take (m * 6) := ⟨_, rfl⟩
  have hnl : news.length = m * 6 := by rw [hnews, List.length_take, Array.length_toList, hsc]; omega
  have hna : ∀ j, j < m * 6 → news[j]? = cur[j]? := fun j hj => by
    rw [hnews, List.getElem?_take, if_pos hj, Array.getElem?_toList]
  have hadd : ∀ j, ((⟨g, 0, none⟩ : Addr).add j) = ⟨g, j, none⟩ := fun j => by unfold Addr.add; split <;> simp_all
  have hlt : ∀ j (u : Value), news[j]? = some u → j < m * 6 := fun j u hu => by rw [← hnl]; exact (List.getElem?_eq_some_iff.1 hu).1
  have hr := run_append_room (P := Try.prog) w 43 o.type 72 i Try.underlying43 hi G 0 capG curG hg ⟨g, 0, none⟩ m cap news (by rw [hsi]; exact hnl)
    (fun j u hu => by rw [hadd, cell_row hgc, ← hna j (hlt j u hu)]; exact hu)
    (fun u hu => by
      obtain ⟨j, hj, rfl⟩ := List.getElem_of_mem hu
      rw [hnl] at hj
      obtain ⟨v, hv, h1⟩ := hV.vc.at j hj
      have h2 := hna j hj
      rw [← cell_row hgc, hv, List.getElem?_eq_getElem (by omega)] at h2
      rw [Option.some.inj h2]
      exact h1)
    (by omega) (by rw [hnl, hsz]; omega)
  simp only [Nat.zero_mul, Nat.zero_add, List.take_zero, List.nil_append] at hr
  refine step_of hgd (wp_append2 s x 43 43 ho _ _ _ _ hs hx hr (h _ ?_ ?_))
  · have hg2 := setRow_heap w G curG (news ++ curG.toList.drop news.length).toArray 72 (0, 0) hg
    refine ⟨⟨_, hg2, ?_⟩, hm, hcG, hV.vc.move (fun _ _ => rfl) (fun _ _ => rfl) (fun j v hj hv => ?_)⟩
    · rw [List.size_toArray, List.length_append, hnl, List.length_drop, Array.length_toList, hsz]
      omega
    · rw [Nat.zero_add] at hv ⊢
      rw [cell_row hg2, List.getElem?_toArray, List.getElem?_append_left (by rw [hnl]; exact hj), hna j hj, ← cell_row hgc]
      exact hv
  · exact (Fr.refl (· = G) w).setRow (g := G) rfl _

end Go.Proofs.Qxb6630565a
