/-
  THE PLAIN STATE OF A STORE: which chain waits in which period. No Go in sight.
-/
import Derived.Test.Qxb6630565aU
namespace Go.Proofs.Qxb6630565a

/-- the middle version's time -/
def mid (len : Nat → Nat) (t : Nat → Nat → Int) (st : Nat → Nat) (i : Nat) : Int := t i (st i + (len i - st i) / 2)
/-- chain i waits, in the period p -/
def Waits (len : Nat → Nat) (t : Nat → Nat → Int) (st : Nat → Nat) (i : Nat) (p : Int) : Prop := 1 < len i - st i ∧ per (mid len t st i) = p
/-- chain i is due at h -/
def Due (len : Nat → Nat) (t : Nat → Nat → Int) (st : Nat → Nat) (h : Int) (i : Nat) : Prop := 1 < len i - st i ∧ per (mid len t st i) + 67108863 ≤ h

def pdx (pd : Int → Option (List Int)) (p0 : Int) (js : List Int) : Int → Option (List Int) := fun q => if q = p0 then some js else pd q

theorem pdx_same (pd : Int → Option (List Int)) (p : Int) (js : List Int) : pdx pd p js p = some js := if_pos rfl
theorem pdx_ne (pd : Int → Option (List Int)) {p q : Int} (js : List Int) (h : q ≠ p) : pdx pd p js q = pd q := if_neg h

/-- the groups hold just the chains that wait -/
structure PG (N : Nat) (len : Nat → Nat) (t : Nat → Nat → Int) (st : Nat → Nat) (pd : Int → Option (List Int)) : Prop where
  mem : ∀ q js, pd q = some js → ∀ x ∈ js, ∃ i : Nat, x = i ∧ i < N ∧ Waits len t st i q
  all : ∀ i, i < N → 1 < len i - st i → ∃ js, pd (per (mid len t st i)) = some js ∧ (i : Int) ∈ js
  nodup : ∀ q js, pd q = some js → js.Nodup
/-- the periods are the groups' keys, in order -/
structure PK (pd : Int → Option (List Int)) (ps : List Int) : Prop where
  sor : Sor ps
  per : ∀ p ∈ ps, Per p
  keys : ∀ q, q ∈ ps ↔ pd q ≠ none
structure PI (N : Nat) (len : Nat → Nat) (t : Nat → Nat → Int) (st : Nat → Nat) (pd : Int → Option (List Int)) (ps : List Int) : Prop where
  g : PG N len t st pd
  k : PK pd ps
  ne : ∀ q js, pd q = some js → js ≠ []

/-- where the chains may have gone at h -/
def Went (N : Nat) (len : Nat → Nat) (t : Nat → Nat → Int) (h : Int) (s0 st : Nat → Nat) : Prop :=
  ∀ i, i < N → st i = s0 i ∨ (Due len t s0 h i ∧ ∃ k, 1 ≤ k ∧ k < len i - s0 i ∧ Cut (fun a => t i (s0 i + a)) (len i - s0 i) h (k + 1) ∧ st i = s0 i + k)

theorem upd_same (st : Nat → Nat) (i k : Nat) : upd st i k i = k := if_pos rfl
theorem upd_ne (st : Nat → Nat) {i j : Nat} (k : Nat) (h : j ≠ i) : upd st i k j = st j := if_neg h

/-- a pruned chain is no longer due -/
theorem not_due {len : Nat → Nat} {t : Nat → Nat → Int} {st : Nat → Nat} {h : Int} {i k : Nat} (hk : k < len i - st i) (hc : Cut (fun a => t i (st i + a)) (len i - st i) h (k + 1)) (h1 : 1 < len i - (st i + k)) : h < mid len t (upd st i (st i + k)) i := by
  unfold mid
  rw [upd_same]
  have h2 : h < t i (st i + (k + (len i - (st i + k)) / 2)) := hc.2.2 (k + (len i - (st i + k)) / 2) (by omega) (by omega)
  rwa [← Nat.add_assoc] at h2

theorem per_le (x : Int) : x ≤ per x + 67108863 := by
  unfold per
  omega

theorem waits_ne {len : Nat → Nat} {t : Nat → Nat → Int} {st : Nat → Nat} {i j k : Nat} {q : Int} (h : j ≠ i) : Waits len t (upd st i k) j q ↔ Waits len t st j q := by
  unfold Waits mid
  rw [upd_ne st k h]

theorem mem_drop_cons {is : List Int} {d : Nat} {x : Int} (h : is[d]? = some x) : is.drop d = x :: is.drop (d + 1) := by
  have hlt := (List.getElem?_eq_some_iff.1 h).1
  rw [List.drop_eq_getElem_cons hlt]
  rw [List.getElem?_eq_getElem hlt] at h
  rw [Option.some.inj h]

/-- one chain taken off the head of its group, not queued again -/
theorem PG.drop {N : Nat} {len : Nat → Nat} {t : Nat → Nat → Int} {st : Nat → Nat} {pd : Int → Option (List Int)} {p0 : Int} {is : List Int} {d i k : Nat} (h : PG N len t st (pdx pd p0 (is.drop d))) (hx : is[d]? = some (i : Int)) (hk : len i - (st i + k) ≤ 1) :
    PG N len t (upd st i (st i + k)) (pdx pd p0 (is.drop (d + 1))) := by
  have hcons := mem_drop_cons hx
  have h0 : pdx pd p0 (is.drop d) p0 = some ((i : Int) :: is.drop (d + 1)) := by rw [pdx_same, hcons]
  have hnd := h.nodup _ _ h0
  obtain ⟨i', hi', hiN, hiw⟩ := h.mem _ _ h0 (i : Int) (List.mem_cons_self ..)
  have : i' = i := by omega
  subst this
  have sub : ∀ q js, pdx pd p0 (is.drop (d + 1)) q = some js → ∃ js', pdx pd p0 (is.drop d) q = some js' ∧ (∀ x ∈ js, x ∈ js') ∧ js.Nodup ∧ (i' : Int) ∉ js := fun q js hq => by
    by_cases e : q = p0
    · subst e
      rw [pdx_same] at hq
      cases hq
      exact ⟨_, h0, fun x hx => List.mem_cons_of_mem _ hx, (List.nodup_cons.1 hnd).2, (List.nodup_cons.1 hnd).1⟩
    · have hq' : pdx pd p0 (is.drop d) q = some js := by
        rw [pdx_ne _ _ e] at hq ⊢
        exact hq
      refine ⟨js, hq', fun _ hx => hx, h.nodup _ _ hq', fun hm => ?_⟩
      obtain ⟨j, hj, _, hw⟩ := h.mem _ _ hq' _ hm
      have : j = i' := by omega
      subst this
      exact e (hw.2.symm.trans hiw.2)
  refine ⟨fun q js hq x hx => ?_, fun j hj hw => ?_, fun q js hq => ?_⟩
  · obtain ⟨js', h1, h2, _, h4⟩ := sub q js hq
    obtain ⟨j, rfl, hjN, hw⟩ := h.mem _ _ h1 x (h2 x hx)
    have hji : j ≠ i' := fun e => h4 (by rw [← e]; exact hx)
    exact ⟨j, rfl, hjN, (waits_ne hji).2 hw⟩
  · by_cases e : j = i'
    · subst e
      rw [upd_same] at hw
      omega
    · rw [upd_ne st _ e] at hw
      obtain ⟨js, h1, h2⟩ := h.all j hj hw
      have hm : mid len t (upd st i' (st i' + k)) j = mid len t st j := by
        unfold mid
        rw [upd_ne st _ e]
      rw [hm]
      by_cases e2 : per (mid len t st j) = p0
      · rw [e2] at h1 ⊢
        rw [h0] at h1
        cases h1
        refine ⟨is.drop (d + 1), pdx_same _ _ _, ?_⟩
        rcases List.mem_cons.1 h2 with h3 | h3
        · exact absurd (by omega) e
        · exact h3
      · refine ⟨js, ?_, h2⟩
        rw [pdx_ne _ _ e2] at h1 ⊢
        exact h1
  · obtain ⟨_, _, _, h3, _⟩ := sub q js hq
    exact h3

/-- .. and queued again, in another period -/
theorem PG.requeue {N : Nat} {len : Nat → Nat} {t : Nat → Nat → Int} {st : Nat → Nat} {pd : Int → Option (List Int)} {p0 q1 : Int} {is : List Int} {d i k : Nat} (h : PG N len t st (pdx pd p0 (is.drop d))) (hx : is[d]? = some (i : Int)) (hk : 1 < len i - (st i + k))
    (hq1 : per (mid len t (upd st i (st i + k)) i) = q1) (hne : q1 ≠ p0) :
    PG N len t (upd st i (st i + k)) (pdx (pdx pd q1 ((pd q1).getD [] ++ [(i : Int)])) p0 (is.drop (d + 1))) := by
  have hcons := mem_drop_cons hx
  have h0 : pdx pd p0 (is.drop d) p0 = some ((i : Int) :: is.drop (d + 1)) := by rw [pdx_same, hcons]
  have hnd := h.nodup _ _ h0
  obtain ⟨i', hi', hiN, hiw⟩ := h.mem _ _ h0 (i : Int) (List.mem_cons_self ..)
  have : i' = i := by omega
  subst this
  have old : ∀ q js, q ≠ p0 → pd q = some js → pdx pd p0 (is.drop d) q = some js := fun q js e hq => by
    rw [pdx_ne _ _ e]
    exact hq
  have noti : ∀ q js, q ≠ p0 → pd q = some js → (i' : Int) ∉ js := fun q js e hq hm => by
    obtain ⟨j, hj, _, hw⟩ := h.mem _ _ (old q js e hq) _ hm
    have : j = i' := by omega
    subst this
    exact e (hw.2.symm.trans hiw.2)
  have keep : ∀ q js x, q ≠ p0 → pd q = some js → x ∈ js → ∃ j : Nat, x = j ∧ j < N ∧ Waits len t (upd st i' (st i' + k)) j q := fun q js x e hq hm => by
    obtain ⟨j, rfl, hjN, hw⟩ := h.mem _ _ (old q js e hq) x hm
    have hji : j ≠ i' := fun e2 => noti q js e hq (by rw [← e2]; exact hm)
    exact ⟨j, rfl, hjN, (waits_ne hji).2 hw⟩
  refine ⟨fun q js hq x hx => ?_, fun j hj hw => ?_, fun q js hq => ?_⟩
  · by_cases e : q = p0
    · subst e
      rw [pdx_same] at hq
      cases hq
      obtain ⟨j, rfl, hjN, hw⟩ := h.mem _ _ h0 x (List.mem_cons_of_mem _ hx)
      have hji : j ≠ i' := fun e2 => (List.nodup_cons.1 hnd).1 (by rw [← e2]; exact hx)
      exact ⟨j, rfl, hjN, (waits_ne hji).2 hw⟩
    · rw [pdx_ne _ _ e] at hq
      by_cases e1 : q = q1
      · rw [e1, pdx_same] at hq
        cases hq
        rcases List.mem_append.1 hx with h3 | h3
        · cases hp : pd q1 with
          | none => rw [hp] at h3; cases h3
          | some js0 =>
            rw [hp] at h3
            subst e1
            exact keep q js0 x e hp h3
        · rw [List.mem_singleton] at h3
          subst h3
          exact ⟨i', rfl, hiN, by rw [upd_same]; exact hk, by rw [e1]; exact hq1⟩
      · rw [pdx_ne _ _ e1] at hq
        exact keep q js x e hq hx
  · by_cases e : j = i'
    · subst e
      refine ⟨(pd q1).getD [] ++ [(j : Int)], ?_, List.mem_append_right _ (List.mem_singleton.2 rfl)⟩
      rw [hq1, pdx_ne _ _ hne, pdx_same]
    · rw [upd_ne st _ e] at hw
      obtain ⟨js, h1, h2⟩ := h.all j hj hw
      have hm : mid len t (upd st i' (st i' + k)) j = mid len t st j := by
        unfold mid
        rw [upd_ne st _ e]
      rw [hm]
      by_cases e2 : per (mid len t st j) = p0
      · rw [e2] at h1 ⊢
        rw [h0] at h1
        cases h1
        refine ⟨is.drop (d + 1), pdx_same _ _ _, ?_⟩
        rcases List.mem_cons.1 h2 with h3 | h3
        · exact absurd (by omega) e
        · exact h3
      · rw [pdx_ne _ _ e2] at h1
        rw [pdx_ne _ _ e2]
        by_cases e1 : per (mid len t st j) = q1
        · rw [e1, pdx_same]
          rw [e1] at h1
          exact ⟨_, rfl, List.mem_append_left _ (by rw [h1]; exact h2)⟩
        · rw [pdx_ne _ _ e1]
          exact ⟨js, h1, h2⟩
  · by_cases e : q = p0
    · subst e
      rw [pdx_same] at hq
      cases hq
      exact (List.nodup_cons.1 hnd).2
    · rw [pdx_ne _ _ e] at hq
      by_cases e1 : q = q1
      · rw [e1, pdx_same] at hq
        cases hq
        subst e1
        cases hp : pd q with
        | none => simp
        | some js0 =>
          show (js0 ++ [(i' : Int)]).Nodup
          rw [List.nodup_append]
          refine ⟨h.nodup _ _ (old q js0 e hp), by simp, fun a ha b hb => ?_⟩
          rw [List.mem_singleton] at hb
          rw [hb]
          exact fun e3 => noti q js0 e hp (by rw [← e3]; exact ha)
      · rw [pdx_ne _ _ e1] at hq
        exact h.nodup _ _ (old q js e hq)
end Go.Proofs.Qxb6630565a
