/-
  ROWS OF NUMBERS THAT MAY BEGIN ANYWHERE IN THEIR BLOCK (periods: uint64; groups: int); append at them.
-/
import Derived.Test.Qxb6630565aN
namespace Go.Proofs.Qxb6630565a
open Go.ChangeShapes Go.WideShapes Go.ChangeAt Go.RowKit

/-- what is told of the kinds of rows that these stores hold -/
structure Kd (t e : TypeId) (k : IntKind) : Prop where
  und : Try.prog.underlying t = some (.slice e)
  info : (Try.prog.info? e).map (fun i => (i.zero, i.size, i.bytes)) = some (some (.int k 0), 1, 8)
theorem kd65 : Kd 65 42 .u64 := ⟨Try.underlying65, info42⟩
theorem kd36 : Kd 36 3 .i64 := ⟨Try.underlying36, info3⟩

/-- a row of numbers -/
def RT (e : TypeId) (k : IntKind) (w : World) (B : Nat) (v : Value) (xs : List Int) : Prop :=
  (xs = [] ∧ v = .slice none 0 0) ∨ ∃ P o cap cur, v = .slice (some ⟨P, o, none⟩) xs.length cap ∧ B ≤ P ∧ w.heap[P]? = some (.cells cur e (0, 0)) ∧ o + cap ≤ cur.size ∧ xs.length ≤ cap ∧ cap ≤ maxLen ∧
    ∀ j, j < xs.length → cur[o + j]? = some (.int k (xs.getD j 0))

section
variable {e t : TypeId} {k : IntKind} {w w' : World} {B : Nat} {v : Value} {xs : List Int}
theorem RT.typ (h : RT e k w B v xs) {g : Nat} (hg : v.ownBlock = some g) : B ≤ g ∧ Typ w g e := by
  rcases h with ⟨_, rfl⟩ | ⟨P, o, cap, cur, rfl, hb, h1, _⟩
  · cases hg
  · cases hg
    exact ⟨hb, _, _, h1⟩
theorem RT.fr (h : RT e k w B v xs) {P : Nat → Prop} (f : Fr P w w') (hP : ∀ g, v.ownBlock = some g → ¬ P g) : RT e k w' B v xs := by
  rcases h with h | ⟨P', o, cap, cur, rfl, hb, h1, h2⟩
  · exact .inl h
  · exact .inr ⟨P', o, cap, cur, rfl, hb, f.heap (hP P' rfl) h1, h2⟩
theorem RT.len (h : RT e k w B v xs) : xs.length ≤ maxLen := by
  rcases h with ⟨rfl, _⟩ | ⟨P, o, cap, cur, rfl, _, _, _, h1, h2, _⟩
  · simp [maxLen]
  · omega

theorem getD_snoc (xs : List Int) (x : Int) (j : Nat) : (xs ++ [x]).getD j 0 = if j < xs.length then xs.getD j 0 else if j = xs.length then x else 0 := by
  simp only [List.getD_eq_getElem?_getD, List.getElem?_append]
  split
  · rfl
  · by_cases h : j = xs.length
    · simp [h]
    · rw [if_neg h, List.getElem?_eq_none (by simp; omega)]
      rfl

/-- 'append(s, x)', the one new element in a block of its own -/
theorem append1 (K : Kd t e k) (h : RT e k w B v xs) (x : Int) (V9 : Nat) (ty : TypeId) (hV : w.cell? ⟨V9, 0, none⟩ = some (.int k x)) (hl : xs.length ≤ 1048576) (hB : B ≤ w.heap.size) :
    ∃ v' w', (Builtin.append_ #[t, t] ty #[v, .slice (some ⟨V9, 0, none⟩) 1 1]).run Try.prog w = .ok v' w' ∧ RT e k w' B v' (xs ++ [x]) ∧ (v'.ownBlock = v.ownBlock ∨ v'.ownBlock = some w.heap.size) ∧ Fr (fun b => v.ownBlock = some b) w w' := by
  obtain ⟨i, hi, hz, hs, hby⟩ := info_open K.info
  have hadd : ((⟨V9, 0, none⟩ : Addr).add 0) = ⟨V9, 0, none⟩ := by unfold Addr.add; split <;> simp_all
  have hnews : ∀ j u, [Value.int k x][j]? = some u → w.cell? ((⟨V9, 0, none⟩ : Addr).add j) = some u := by
    intro j u hu
    match j with
    | 0 => cases hu; rw [hadd]; exact hV
    | j + 1 => cases hu
  have hone : ∀ u ∈ [Value.int k x], u.oneCell' = true := by
    intro u hu
    simp only [List.mem_singleton] at hu
    subst hu
    rfl
  rcases h with ⟨rfl, rfl⟩ | ⟨P, o, cap, cur, rfl, hb, hg, hfit, hlc, hcm, hc⟩
  · have hr := run_append_nil (P := Try.prog) w t ty e i _ K.und hi hz ⟨V9, 0, none⟩ 1 1 [.int k x] (by rw [hs]; rfl) hnews (by omega) (by omega) (by rw [hby]; omega)
    have hge := grownCap_ge w 1 0 e
    refine ⟨_, _, hr, .inr ⟨w.heap.size, 0, _, _, rfl, hB, heap_alloc_new w.drew _, ?_, hge, grownCap_le_maxLen w 1 0 e (by unfold maxLen; omega), ?_⟩, .inr rfl, ?_⟩
    · simp [size_zeroCells, Value.cells]
      omega
    · intro j hj
      have : j = 0 := by simpa using hj
      subst this
      rw [Nat.add_zero, Array.getElem?_append_left (by simp)]
      rfl
    · exact (Fr.refl _ w).drew.alloc _
  · by_cases hroom : xs.length + 1 ≤ cap
    · have hst := run_storeCells_at Try.prog P (o + xs.length) e [.int k x] 0 cur w hg (by simp; omega) hone
      have hf := run_firstCells_some (P := Try.prog) w 1 1 ⟨V9, 0, none⟩ 1 1 [.int k x] rfl hnews
      have hr : (Builtin.append_ #[t, t] ty #[.slice (some ⟨P, o, none⟩) xs.length cap, .slice (some ⟨V9, 0, none⟩) 1 1]).run Try.prog w = .ok (.slice (some ⟨P, o, none⟩) (xs.length + 1) cap) (w.setRow P (cur.toList.take (o + xs.length) ++ [Value.int k x] ++ cur.toList.drop (o + xs.length + 1)).toArray) := by
        simp only [Nat.add_zero] at hst
        simp [Builtin.append_, run_underlying K.und, sizeOf, typeInfo, hi, hs, Builtin.lenOf, hroom, hf, Addr.add_lit, hst]
      refine ⟨_, _, hr, .inr ⟨P, o, cap, _, by simp, hb, setRow_heap w P cur _ e (0, 0) hg, ?_, by simp; omega, hcm, fun j hj => ?_⟩, .inl rfl, ?_⟩
      · simp
        omega
      · rw [getD_snoc]
        have hj' : j < xs.length + 1 := by simpa using hj
        rw [List.getElem?_toArray, List.append_assoc]
        by_cases h1 : j < xs.length
        · rw [if_pos h1, List.getElem?_append_left (by simp; omega), List.getElem?_take, if_pos (by omega), Array.getElem?_toList]
          exact hc j h1
        · rw [if_neg h1, if_pos (by omega), List.getElem?_append_right (by simp; omega)]
          have : o + j - (cur.toList.take (o + xs.length)).length = 0 := by simp; omega
          rw [this]
          rfl
      · exact (Fr.refl (fun b => (Value.slice (some ⟨P, o, none⟩) xs.length cap).ownBlock = some b) w).setRow (g := P) rfl _
    · have hlen : xs.length = cap := by omega
      obtain ⟨olds, ho⟩ : ∃ olds, olds = xs.map (Value.int k ·) := ⟨_, rfl⟩
      have hol : olds.length = xs.length := by rw [ho, List.length_map]
      have hoa : ∀ j, j < xs.length → olds[j]? = some (.int k (xs.getD j 0)) := fun j hj => by
        rw [ho, List.getElem?_map]
        simp [hj]
      have hadd2 : ∀ j, ((⟨P, o, none⟩ : Addr).add j) = ⟨P, o + j, none⟩ := fun j => by unfold Addr.add; split <;> simp_all
      have hr := run_append_grow (P := Try.prog) w t ty e i _ K.und hi hz ⟨P, o, none⟩ xs.length cap olds (by rw [hs, hol]; omega)
        (fun j u hu => by
          have hj : j < xs.length := by rw [← hol]; exact (List.getElem?_eq_some_iff.1 hu).1
          rw [hadd2, cell_row hg, hc j hj, ← hoa j hj]
          exact hu)
        ⟨V9, 0, none⟩ 1 1 [.int k x] (by rw [hs]; rfl) hnews (by omega) (by omega) (growslice_fits (by omega) (by rw [hby]; omega))
      have hge := grownCap_ge w (xs.length + 1) cap e
      refine ⟨_, _, hr, .inr ⟨w.heap.size, 0, grownCap w (xs.length + 1) cap e, _, by simp, hB, heap_alloc_new w.drew _, ?_, by simp; exact hge, grownCap_le_maxLen w _ _ e (by unfold maxLen; omega), fun j hj => ?_⟩, .inr rfl, (Fr.refl _ w).drew.alloc _⟩
      · simp [size_zeroCells, Value.cells, hol]
        omega
      · rw [getD_snoc, Nat.zero_add]
        have hj' : j < xs.length + 1 := by simpa using hj
        rw [Array.getElem?_append_left (by rw [Array.size_append, List.size_toArray, hol]; simp; omega)]
        by_cases h1 : j < xs.length
        · rw [if_pos h1, Array.getElem?_append_left (by rw [List.size_toArray, hol]; exact h1), List.getElem?_toArray]
          exact hoa j h1
        · rw [if_neg h1, if_pos (by omega), Array.getElem?_append_right (by rw [List.size_toArray, hol]; omega), List.size_toArray, hol, show j - xs.length = 0 by omega]
          rfl
end
end Go.Proofs.Qxb6630565a
