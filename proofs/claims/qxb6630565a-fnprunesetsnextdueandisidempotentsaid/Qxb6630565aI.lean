/-
  THE STORE IN MEMORY: its block, the chains' row, the versions' rows; the laws of append at them.
-/
import Derived.Test.Qxb6630565aG
import Derived.Test.Qxb6630565aH
import Derived.Deep.AppendLies
namespace Go.Proofs.Qxb6630565a
open Go.ChangeShapes Go.WideShapes Go.ChangeAt Go.RowKit

/-! ### a versions' row, nil or not -/
def VV (w : World) (B : Nat) (sv : Value) (n : Nat) (T X : Nat → Int) : Prop :=
  (n = 0 ∧ sv = .slice none 0 0) ∨ ∃ g cap, sv = .slice (some ⟨g, 0, none⟩) n cap ∧ B ≤ g ∧ VR w g cap n T X

theorem VV.fr {w w' : World} {B n : Nat} {sv : Value} {T X : Nat → Int} (h : VV w B sv n T X) {P : Nat → Prop} (f : Fr P w w') (hP : ∀ g, sv.ownBlock = some g → ¬ P g) : VV w' B sv n T X := by
  rcases h with ⟨h1, h2⟩ | ⟨g, cap, rfl, hb, hv⟩
  · exact .inl ⟨h1, h2⟩
  · exact .inr ⟨g, cap, rfl, hb, hv.fr f (hP g rfl)⟩

/-- the cells of n versions -/
def Enc (xs : List Value) (n : Nat) (T X : Nat → Int) : Prop :=
  ∀ i, i < n → xs[i * 6]? = some (.int .u64 (T i)) ∧ xs[i * 6 + 1]? = some (.int .u64 (X i)) ∧ xs[i * 6 + 2]? = some (.int .i32 0) ∧ xs[i * 6 + 3]? = some (.int .i32 (-2)) ∧ xs[i * 6 + 4]? = some (.int .i32 0) ∧ xs[i * 6 + 5]? = some (.int .i32 0)

theorem VV.own {w : World} {B n : Nat} {sv : Value} {T X : Nat → Int} (h : VV w B sv n T X) : ∃ xs, w.ownsRow B 72 6 sv n xs ∧ Enc xs n T X := by
  rcases h with ⟨rfl, rfl⟩ | ⟨g, cap, rfl, hb, hv⟩
  · exact ⟨[], World.ownsRow_nil _ _ _ _, fun i hi => by omega⟩
  · obtain ⟨cur, hg, hsz⟩ := hv.row
    have hl := hv.len
    refine ⟨cur.toList.take (n * 6), ⟨by rw [List.length_take, Array.length_toList, hsz]; omega, .inr ⟨g, cap, cur, rfl, hb, hg, hl, hv.cap, hsz, rfl⟩⟩, fun i hi => ?_⟩
    obtain ⟨a, b, c, d, e, k⟩ := hv.vc i hi
    rw [Nat.zero_add, cell_row hg] at a b c d e k
    refine ⟨?_, ?_, ?_, ?_, ?_, ?_⟩ <;> (rw [List.getElem?_take, if_pos (by omega), Array.getElem?_toList]; assumption)

theorem VR.of_own {w : World} {B g cap n : Nat} {xs : List Value} {T X : Nat → Int} (h : w.ownsRow B 72 6 (.slice (some ⟨g, 0, none⟩) n cap) n xs) (he : Enc xs n T X) : VR w g cap n T X := by
  rcases h.2 with ⟨h1, _⟩ | ⟨g', cap', cur, h1, hb, hg, hl, hc, hsz, htk⟩
  · cases h1
  · cases h1
    refine ⟨⟨cur, hg, hsz⟩, hl, hc, fun i hi => ?_⟩
    obtain ⟨a, b, c, d, e, k⟩ := he i hi
    have f : ∀ j v, xs[j]? = some v → w.cell? ⟨g, j, none⟩ = some v := fun j v hv => by
      rw [← htk, List.getElem?_take] at hv
      split at hv
      · rw [cell_row hg, ← Array.getElem?_toList]
        exact hv
      · cases hv
    rw [Nat.zero_add]
    exact ⟨f _ _ a, f _ _ b, f _ _ c, f _ _ d, f _ _ e, f _ _ k⟩

theorem Enc.snoc {xs : List Value} {n : Nat} {T X : Nat → Int} (h : Enc xs n T X) (hl : xs.length = n * 6) : Enc (xs ++ (vcs (T n) (X n)).toList) (n + 1) T X := by
  intro i hi
  rcases Nat.lt_or_ge i n with h1 | h1
  · obtain ⟨a, b, c, d, e, k⟩ := h i h1
    refine ⟨?_, ?_, ?_, ?_, ?_, ?_⟩ <;> (rw [List.getElem?_append_left (by omega)]; assumption)
  · obtain rfl : i = n := by omega
    refine ⟨?_, ?_, ?_, ?_, ?_, ?_⟩ <;> (rw [List.getElem?_append_right (by omega), hl]; simp)

/-- 'append(c.versions, v)' -/
theorem step_appver {w : World} {ops : Array Oper} {o : Oper} {a : Act} {K : Act → World → Prop} {Q : Exit → Act → World → Prop} {E : Prop} (s x : Operand) (hgd : o.guard = none) (ho : o.op = .call { callee := .builtin .append, args := #[s, x], argTypes := #[43, 43] })
    (B m V9 : Nat) (sv : Value) (T X : Nat → Int) (hs : a.eval s = sv) (hx : a.eval x = .slice (some ⟨V9, 0, none⟩) 1 1) (hV : VV w B sv m T X) (hm : m ≤ 1048576) (hB : B ≤ w.heap.size)
    (hnew : w.heap[V9]? = some (.cells (vcs (T m) (X m)) 72 (0, 0)))
    (h : ∀ g cap w', VR w' g cap (m + 1) T X → B ≤ g → (sv.ownBlock = some g ∨ g = w.heap.size) → Fr (fun b => sv.ownBlock = some b) w w' → K (a.put o.dst (.slice (some ⟨g, 0, none⟩) (m + 1) cap)) w') :
    if Region.wanted o (yielded ops a.tmps) = true then Oper.wp Try.prog o a w K Q else E := by
  obtain ⟨xs, hown, henc⟩ := hV.own
  obtain ⟨i, hi, hz, hsi, hby⟩ := info_open info72
  refine step_append_lies w hgd s x 43 ho B 72 i _ 6 32 Try.underlying43 hi hz hsi hby rfl (by omega) sv m xs hs hown ⟨V9, 0, none⟩ 1 1 (vcs (T m) (X m)).toList hx rfl (World.news_of_block hnew) ?_ (by omega) (by unfold maxLen; omega) (by omega) hB w.heap.size rfl ?_
  · intro u hu
    simp only [List.mem_cons, List.not_mem_nil, or_false] at hu
    rcases hu with rfl | rfl | rfl | rfl | rfl | rfl <;> rfl
  · intro g cap w' h2 h3 h4 h5
    refine h g cap w' (VR.of_own h2 (henc.snoc hown.1)) ?_ h4 (Fr.grown h3 fun g hg => hg)
    rcases h2.2 with ⟨e, _⟩ | ⟨g', cap', cur, e, hb, _⟩
    · cases e
    · cases e
      exact hb
end Go.Proofs.Qxb6630565a
