/-
  THE PLAIN STATE OF A STORE: its periods; how many chains are due.
-/
import Derived.Test.Qxb6630565aV
namespace Go.Proofs.Qxb6630565a

def pdn (pd : Int → Option (List Int)) (p0 : Int) : Int → Option (List Int) := fun q => if q = p0 then none else pd q
theorem pdn_same (pd : Int → Option (List Int)) (p : Int) : pdn pd p p = none := if_pos rfl
theorem pdn_ne (pd : Int → Option (List Int)) {p q : Int} (h : q ≠ p) : pdn pd p q = pd q := if_neg h

theorem sor_cons {p : Int} {ps : List Int} (h : Sor (p :: ps)) : Sor ps ∧ ∀ q ∈ ps, p < q := by
  refine ⟨fun i j hij hj => ?_, fun q hq => ?_⟩
  · have := h (i + 1) (j + 1) (by omega) (by simpa using hj)
    simpa using this
  · obtain ⟨i, hi, rfl⟩ := List.getElem_of_mem hq
    have := h 0 (i + 1) (by omega) (by simpa using hi)
    simpa [hi] using this

theorem ins_mem {ps : List Int} {i : Nat} {p q : Int} : q ∈ ins ps i p ↔ q = p ∨ q ∈ ps := by
  unfold ins
  rw [List.mem_append, List.mem_cons]
  constructor
  · rintro (h | h | h)
    · exact .inr (List.mem_of_mem_take h)
    · exact .inl h
    · exact .inr (List.mem_of_mem_drop h)
  · rintro (h | h)
    · exact .inr (.inl h)
    · rw [← List.take_append_drop i ps, List.mem_append] at h
      rcases h with h | h
      · exact .inl h
      · exact .inr (.inr h)

theorem mem_getD {ps : List Int} {j : Nat} (h : j < ps.length) : ps.getD j 0 ∈ ps := by
  simp only [List.getD_eq_getElem?_getD, List.getElem?_eq_getElem h, Option.getD_some]
  exact List.getElem_mem h

theorem ins_sor {ps : List Int} {i : Nat} {p : Int} (h : Sor ps) (hi : Ins ps p i) (hn : p ∉ ps) : Sor (ins ps i p) := by
  intro a b hab hb
  rw [ins_len ps i p hi.1] at hb
  rw [ins_at ps i p hi.1, ins_at ps i p hi.1]
  have hlt : ∀ j, i ≤ j → j < ps.length → p < ps.getD j 0 := fun j h1 h2 => by
    have h3 := hi.2.2 j h1 h2
    have h4 : ps.getD j 0 ≠ p := fun e => hn (by rw [← e]; exact mem_getD h2)
    omega
  by_cases h1 : a < i
  · rw [if_pos h1]
    by_cases h2 : b < i
    · rw [if_pos h2]
      exact h a b hab (by have := hi.1; omega)
    · rw [if_neg h2]
      by_cases h3 : b = i
      · rw [if_pos h3]
        exact hi.2.1 a h1
      · rw [if_neg h3]
        have h4 := hi.2.1 a h1
        have h5 := hlt (b - 1) (by omega) (by omega)
        omega
  · rw [if_neg h1, if_neg (show ¬ b < i by omega), if_neg (show ¬ b = i by omega)]
    by_cases h2 : a = i
    · rw [if_pos h2]
      exact hlt (b - 1) (by omega) (by omega)
    · rw [if_neg h2]
      exact h (a - 1) (b - 1) (by omega) (by omega)

theorem PK.queue {pd : Int → Option (List Int)} {ps ps' : List Int} {q1 : Int} {js : List Int} (h : PK pd ps) (hq : QP pd ps q1 ps') (hp : Per q1) : PK (pdx pd q1 js) ps' := by
  rcases hq with ⟨hne, rfl⟩ | ⟨hn, j, hj, rfl⟩
  · refine ⟨h.sor, h.per, fun q => ?_⟩
    by_cases e : q = q1
    · subst e
      rw [pdx_same]
      exact ⟨fun _ e => (by cases e), fun _ => (h.keys q).2 hne⟩
    · rw [pdx_ne _ _ e]
      exact h.keys q
  · have hnm : q1 ∉ ps := fun hm => (h.keys q1).1 hm hn
    refine ⟨ins_sor h.sor hj hnm, fun p hm => ?_, fun q => ?_⟩
    · rcases ins_mem.1 hm with rfl | hm
      · exact hp
      · exact h.per p hm
    · rw [ins_mem]
      by_cases e : q = q1
      · subst e
        rw [pdx_same]
        exact ⟨fun _ e => (by cases e), fun _ => .inl rfl⟩
      · rw [pdx_ne _ _ e, ← h.keys q]
        exact ⟨fun h => h.resolve_left e, .inr⟩

theorem QP.head {pd : Int → Option (List Int)} {rest : List Int} {p0 q1 : Int} {ps' : List Int} (hq : QP pd (p0 :: rest) q1 ps') (h : p0 < q1) : ∃ rest', ps' = p0 :: rest' := by
  rcases hq with ⟨_, rfl⟩ | ⟨_, j, hj, rfl⟩
  · exact ⟨rest, rfl⟩
  · cases j with
    | zero =>
      have := hj.2.2 0 (Nat.le_refl _) (by simp)
      simp at this
      omega
    | succ j => exact ⟨_, rfl⟩

theorem QP.len {pd : Int → Option (List Int)} {ps ps' : List Int} {q1 : Int} (hq : QP pd ps q1 ps') : ps'.length ≤ ps.length + 1 := by
  rcases hq with ⟨_, rfl⟩ | ⟨_, j, hj, rfl⟩
  · omega
  · rw [ins_len _ _ _ hj.1]
    exact Nat.le_refl _

theorem PK.tail {pd : Int → Option (List Int)} {p0 : Int} {rest : List Int} (h : PK pd (p0 :: rest)) : PK (pdn pd p0) rest := by
  obtain ⟨h1, h2⟩ := sor_cons h.sor
  refine ⟨h1, fun p hp => h.per p (List.mem_cons_of_mem _ hp), fun q => ?_⟩
  by_cases e : q = p0
  · subst e
    rw [pdn_same]
    exact ⟨fun hm => absurd (h2 q hm) (by omega), fun e => absurd rfl e⟩
  · rw [pdn_ne _ e, ← h.keys q, List.mem_cons]
    exact ⟨.inr, fun h => h.resolve_left e⟩

theorem PK.same {pd : Int → Option (List Int)} {ps : List Int} {p0 : Int} {js : List Int} (h : PK pd ps) (hp : pd p0 ≠ none) : PK (pdx pd p0 js) ps := by
  refine ⟨h.sor, h.per, fun q => ?_⟩
  by_cases e : q = p0
  · subst e
    rw [pdx_same]
    exact ⟨fun _ e => (by cases e), fun _ => (h.keys q).2 hp⟩
  · rw [pdx_ne _ _ e]
    exact h.keys q

theorem PG.none {N : Nat} {len : Nat → Nat} {t : Nat → Nat → Int} {st : Nat → Nat} {pd : Int → Option (List Int)} {p0 : Int} (h : PG N len t st (pdx pd p0 [])) : PG N len t st (pdn pd p0) := by
  refine ⟨fun q js hq => ?_, fun i hi hw => ?_, fun q js hq => ?_⟩
  · by_cases e : q = p0
    · subst e
      rw [pdn_same] at hq
      cases hq
    · rw [pdn_ne _ e] at hq
      exact h.mem q js (by rw [pdx_ne _ _ e]; exact hq)
  · obtain ⟨js, h1, h2⟩ := h.all i hi hw
    by_cases e : per (mid len t st i) = p0
    · rw [e, pdx_same] at h1
      cases h1
      cases h2
    · rw [pdx_ne _ _ e] at h1
      exact ⟨js, by rw [pdn_ne _ e]; exact h1, h2⟩
  · by_cases e : q = p0
    · subst e
      rw [pdn_same] at hq
      cases hq
    · rw [pdn_ne _ e] at hq
      exact h.nodup q js (by rw [pdx_ne _ _ e]; exact hq)

theorem PG.ext {N : Nat} {len : Nat → Nat} {t : Nat → Nat → Int} {st : Nat → Nat} {pd pd' : Int → Option (List Int)} (h : PG N len t st pd) (e : ∀ q, pd' q = pd q) : PG N len t st pd' := by
  have : pd' = pd := funext e
  rw [this]
  exact h

/-! ### how many chains are due -/
open Classical in
noncomputable def cntD (len : Nat → Nat) (t : Nat → Nat → Int) (h : Int) (st : Nat → Nat) : Nat → Nat
  | 0 => 0
  | n + 1 => cntD len t h st n + if Due len t st h n then 1 else 0

theorem due_ne {len : Nat → Nat} {t : Nat → Nat → Int} {h : Int} {st : Nat → Nat} {i j k : Nat} (hn : j ≠ i) : Due len t (upd st i k) h j ↔ Due len t st h j := by
  unfold Due mid
  rw [upd_ne st k hn]

open Classical in
theorem cntD_upd {len : Nat → Nat} {t : Nat → Nat → Int} {h : Int} {st : Nat → Nat} {i k : Nat} (hd : Due len t st h i) (hn : ¬ Due len t (upd st i k) h i) : ∀ N, cntD len t h (upd st i k) N + (if i < N then 1 else 0) = cntD len t h st N
  | 0 => rfl
  | N + 1 => by
    have ih := cntD_upd hd hn N
    unfold cntD
    by_cases e : N = i
    · subst e
      rw [if_neg hn, if_pos hd]
      rw [if_neg (Nat.lt_irrefl _)] at ih
      rw [if_pos (Nat.lt_succ_self _)]
      omega
    · have hiff := due_ne (len := len) (t := t) (h := h) (st := st) (k := k) e
      have : (if Due len t (upd st i k) h N then 1 else 0) = if Due len t st h N then 1 else 0 := by
        by_cases hx : Due len t st h N
        · rw [if_pos hx, if_pos (hiff.2 hx)]
        · rw [if_neg hx, if_neg (fun hy => hx (hiff.1 hy))]
      rw [this]
      by_cases hi : i < N
      · have e2 : (if i < N + 1 then (1 : Nat) else 0) = 1 := if_pos (by omega)
        rw [if_pos hi] at ih
        rw [e2]
        omega
      · have e2 : (if i < N + 1 then (1 : Nat) else 0) = 0 := if_neg (by omega)
        rw [if_neg hi] at ih
        rw [e2]
        omega
end Go.Proofs.Qxb6630565a
