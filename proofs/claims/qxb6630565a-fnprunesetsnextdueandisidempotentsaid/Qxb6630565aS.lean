/-
  queue.
-/
import Derived.Test.Qxb6630565aR
namespace Go.Proofs.Qxb6630565a
open Go.ChangeShapes Go.WideShapes Go.ChangeAt Go.RowKit

/-- the groups that wait, by the start of their period -/
def PDl (w : World) (B M : Nat) (pd : Int → Option (List Int)) (lk : Int → Option Value) : Prop :=
  MP w M lk ∧ (∀ p, lk p = none ↔ pd p = none) ∧ (∀ p v is, lk p = some v → pd p = some is → RT 3 .i64 w B v is) ∧
    ∀ p q v u g, lk p = some v → lk q = some u → v.ownBlock = some g → u.ownBlock = some g → p = q

/-- the blocks that queue and its kin turn -/
def Qb (w : World) (B S M b : Nat) : Prop := b = S ∨ b = M ∨ (B ≤ b ∧ (Typ w b 42 ∨ Typ w b 3))

theorem PDl.fr {w w' : World} {B M : Nat} {pd : Int → Option (List Int)} {lk : Int → Option Value} (h : PDl w B M pd lk) {P : Nat → Prop} (f : Fr P w w') (hM : ¬ P M) (hP : ∀ b, B ≤ b → Typ w b 3 → ¬ P b) : PDl w' B M pd lk := by
  obtain ⟨h1, h2, h3, h4⟩ := h
  refine ⟨h1.fr f hM, h2, fun p v is hv hp => (h3 p v is hv hp).fr f fun g hg => ?_, h4⟩
  have := (h3 p v is hv hp).typ hg
  exact hP g this.1 this.2

/-- the start of the period that holds a time -/
def per (t : Int) : Int := t - t % 67108864
theorem per_ok (t : Int) (h0 : 0 ≤ t) (h1 : t ≤ 18446744073709551615) : Per (per t) ∧ per t ≤ t := by
  unfold Per per
  omega

/-- the list of periods behind queue -/
def QP (pd : Int → Option (List Int)) (ps : List Int) (p : Int) (ps' : List Int) : Prop := (pd p ≠ none ∧ ps' = ps) ∨ (pd p = none ∧ ∃ j, Ins ps p j ∧ ps' = ins ps j p)

theorem group_row {w w' : World} {B M : Nat} {pd : Int → Option (List Int)} {lk : Int → Option Value} {p : Int} {v' : Value} {is : List Int} (h2 : ∀ p, lk p = none ↔ pd p = none) (h3 : ∀ p v is, lk p = some v → pd p = some is → RT 3 .i64 w B v is)
    (h4 : ∀ p q v u g, lk p = some v → lk q = some u → v.ownBlock = some g → u.ownBlock = some g → p = q) (hm : MP w' M (fun q => if q = p then some v' else lk q)) (hr : RT 3 .i64 w' B v' is)
    {P : Nat → Prop} (f : Fr P w w') (hP : ∀ b, P b → Typ w b 3 → ∃ v, lk p = some v ∧ v.ownBlock = some b) (hb : v'.ownBlock = ((lk p).getD (.slice none 0 0)).ownBlock ∨ ∃ g, v'.ownBlock = some g ∧ w.heap.size ≤ g) :
    PDl w' B M (fun q => if q = p then some is else pd q) (fun q => if q = p then some v' else lk q) := by
  have old : ∀ q u g, lk q = some u → u.ownBlock = some g → g < w.heap.size := fun q u g hu hg => by
    have hq : pd q ≠ none := fun e => by rw [(h2 q).2 e] at hu; cases hu
    obtain ⟨is', hi⟩ := Option.ne_none_iff_exists'.1 hq
    obtain ⟨_, c, r, h5⟩ := (h3 q u is' hu hi).typ hg
    exact (Array.getElem?_eq_some_iff.1 h5).1
  have same : ∀ g, v'.ownBlock = some g → (∃ v, lk p = some v ∧ v.ownBlock = some g) ∨ w.heap.size ≤ g := fun g hg => by
    rcases hb with h5 | ⟨g', h5, h6⟩
    · cases hk : lk p with
      | none =>
        rw [hk] at h5
        rw [h5] at hg
        cases hg
      | some v =>
        rw [hk] at h5
        exact .inl ⟨v, rfl, by rw [← hg, h5]; rfl⟩
    · rw [hg] at h5
      cases h5
      exact .inr h6
  refine ⟨hm, fun q => ?_, fun q v is2 hv hq => ?_, fun q q2 v u g hv hu hg hg2 => ?_⟩
  · by_cases e : q = p
    · simp [e]
    · simp only [if_neg e]
      exact h2 q
  · by_cases e : q = p
    · simp only [if_pos e, Option.some.injEq] at hv hq
      subst hv hq
      exact hr
    · simp only [if_neg e] at hv hq
      refine (h3 q v is2 hv hq).fr f fun g hg hp => ?_
      obtain ⟨v2, h5, h6⟩ := hP g hp ((h3 q v is2 hv hq).typ hg).2
      exact e (h4 q p v v2 g hv h5 hg h6)
  · by_cases e : q = p
    · by_cases e2 : q2 = p
      · rw [e, e2]
      · simp only [if_pos e, if_neg e2, Option.some.injEq] at hv hu
        subst hv
        rcases same g hg with ⟨v2, h5, h6⟩ | h5
        · exact absurd (h4 q2 p u v2 g hu h5 hg2 h6) e2
        · have := old q2 u g hu hg2
          omega
    · by_cases e2 : q2 = p
      · simp only [if_neg e, if_pos e2, Option.some.injEq] at hv hu
        subst hu
        rcases same g hg2 with ⟨v2, h5, h6⟩ | h5
        · exact absurd (h4 q p v v2 g hv h5 hg h6) e
        · have := old q v g hv hg
          omega
      · simp only [if_neg e, if_neg e2] at hv hu
        exact h4 q q2 v u g hv hu hg hg2
end Go.Proofs.Qxb6630565a
