/-
  THE PLAIN STEPS OF Prune.
-/
import Derived.Test.Qxb6630565aW
namespace Go.Proofs.Qxb6630565a

theorem nodup_len : ∀ (N : Nat) (l : List Nat), l.Nodup → (∀ x ∈ l, x < N) → l.length ≤ N
  | 0, l, _, h => by
    cases l with
    | nil => exact Nat.le_refl _
    | cons a l => exact absurd (h a (List.mem_cons_self ..)) (by omega)
  | N + 1, l, hn, h => by
    by_cases hm : N ∈ l
    · have h1 := nodup_len N (l.erase N) (hn.erase N) (fun x hx => by
        have h2 := h x (List.mem_of_mem_erase hx)
        have h3 : x ≠ N := fun e => by
          subst e
          exact (List.Nodup.not_mem_erase hn) hx
        omega)
      rw [List.length_erase_of_mem hm] at h1
      omega
    · have := nodup_len N l hn (fun x hx => by
        have h2 := h x hx
        have h3 : x ≠ N := fun e => hm (e ▸ hx)
        omega)
      omega

theorem sor_nodup {ps : List Int} (h : Sor ps) : ps.Nodup := by
  induction ps with
  | nil => exact List.nodup_nil
  | cons p ps ih =>
    obtain ⟨h1, h2⟩ := sor_cons h
    rw [List.nodup_cons]
    exact ⟨fun hm => absurd (h2 p hm) (by omega), ih h1⟩

theorem int_len {N : Nat} {js : List Int} (hn : js.Nodup) (h : ∀ x ∈ js, ∃ i : Nat, x = i ∧ i < N) : js.length ≤ N := by
  have := nodup_len N (js.map Int.toNat) (by
    rw [List.nodup_iff_pairwise_ne, List.pairwise_map]
    rw [List.nodup_iff_pairwise_ne] at hn
    refine hn.imp_of_mem fun {a b} ha hb hab => ?_
    obtain ⟨i, rfl, _⟩ := h a ha
    obtain ⟨j, rfl, _⟩ := h b hb
    simp only [Int.toNat_natCast]
    omega) (fun x hx => by
    obtain ⟨y, hy, rfl⟩ := List.mem_map.1 hx
    obtain ⟨i, rfl, hi⟩ := h y hy
    simpa using hi)
  rwa [List.length_map] at this

open Classical in
theorem inj_len {N : Nat} {ps : List Int} (hn : ps.Nodup) (P : Int → Nat → Prop) (h : ∀ p ∈ ps, ∃ i, i < N ∧ P p i) (hinj : ∀ p q i, P p i → P q i → p = q) : ps.length ≤ N := by
  let f : Int → Nat := fun p => if hp : ∃ i, i < N ∧ P p i then hp.choose else 0
  have hf : ∀ p ∈ ps, f p < N ∧ P p (f p) := fun p hp => by
    have := h p hp
    simp only [f, dif_pos this]
    exact this.choose_spec
  have := nodup_len N (ps.map f) (by
    rw [List.nodup_iff_pairwise_ne, List.pairwise_map]
    rw [List.nodup_iff_pairwise_ne] at hn
    refine hn.imp_of_mem fun {a b} ha hb hab e => ?_
    have h1 := (hf a ha).2
    rw [e] at h1
    exact hab (hinj a b _ h1 (hf b hb).2)) (fun x hx => by
    obtain ⟨p, hp, rfl⟩ := List.mem_map.1 hx
    exact (hf p hp).1)
  rwa [List.length_map] at this

structure PX (N : Nat) (len : Nat → Nat) (t : Nat → Nat → Int) (h : Int) (st : Nat → Nat) (pd : Int → Option (List Int)) (ps : List Int) (p0 : Int) (is : List Int) (d : Nat) : Prop where
  g : PG N len t st (pdx pd p0 (is.drop d))
  k : PK pd ps
  ne : ∀ q js, q ≠ p0 → pd q = some js → js ≠ []
  at0 : pd p0 = some is
  hd : ∃ rest, ps = p0 :: rest
  due : p0 + 67108863 ≤ h

section
variable {N : Nat} {len : Nat → Nat} {t : Nat → Nat → Int} {h : Int} {st : Nat → Nat} {pd : Int → Option (List Int)} {ps : List Int} {p0 : Int} {is : List Int} {d : Nat}

theorem PX.start {rest : List Int} (hp : PI N len t st pd (p0 :: rest)) (hi : pd p0 = some is) (hd : p0 + 67108863 ≤ h) : PX N len t h st pd (p0 :: rest) p0 is 0 := by
  refine ⟨hp.g.ext fun q => ?_, hp.k, fun q js _ hq => hp.ne q js hq, hi, ⟨rest, rfl⟩, hd⟩
  by_cases e : q = p0
  · subst e
    rw [pdx_same, hi]
    rfl
  · rw [pdx_ne _ _ e]

theorem PX.psLen (hx : PX N len t h st pd ps p0 is d) : ps.length ≤ N + 1 := by
  obtain ⟨rest, rfl⟩ := hx.hd
  obtain ⟨h1, h2⟩ := sor_cons hx.k.sor
  have := inj_len (N := N) (sor_nodup h1) (fun q i => i < N ∧ Waits len t st i q) (fun q hq => ?_) (fun p q i hp hq => hp.2.2.symm.trans hq.2.2)
  · rw [List.length_cons]
    omega
  · have hne : q ≠ p0 := fun e => absurd (h2 q hq) (by omega)
    have hk := (hx.k.keys q).1 (List.mem_cons_of_mem _ hq)
    obtain ⟨js, hjs⟩ := Option.ne_none_iff_exists'.1 hk
    obtain ⟨x, hxm⟩ := List.exists_mem_of_ne_nil js (hx.ne q js hne hjs)
    obtain ⟨i, _, hi, hw⟩ := hx.g.mem q js (by rw [pdx_ne _ _ hne]; exact hjs) x hxm
    exact ⟨i, hi, hi, hw⟩

theorem PX.grpLen (hx : PX N len t h st pd ps p0 is d) {q : Int} (hq : q ≠ p0) {js : List Int} (hj : pd q = some js) : js.length ≤ N := by
  have h1 : pdx pd p0 (is.drop d) q = some js := by rw [pdx_ne _ _ hq]; exact hj
  exact int_len (hx.g.nodup q js h1) fun x hm => by
    obtain ⟨i, e, hi, _⟩ := hx.g.mem q js h1 x hm
    exact ⟨i, e, hi⟩

/-- the chain that comes next -/
theorem PX.next (hx : PX N len t h st pd ps p0 is d) (hd : d < is.length) : ∃ i : Nat, is[d]? = some (i : Int) ∧ i < N ∧ Waits len t st i p0 := by
  obtain ⟨x, hxd⟩ : ∃ x, is[d]? = some x := ⟨_, List.getElem?_eq_getElem hd⟩
  have hc := mem_drop_cons hxd
  obtain ⟨i, rfl, hi, hw⟩ := hx.g.mem p0 (is.drop d) (pdx_same _ _ _) x (by rw [hc]; exact List.mem_cons_self ..)
  exact ⟨i, hxd, hi, hw⟩

theorem waits_due {i : Nat} (hw : Waits len t st i p0) (hd : p0 + 67108863 ≤ h) : Due len t st h i := ⟨hw.1, by rw [hw.2]; exact hd⟩
theorem due_first (hR : Rows N len t) {i : Nat} (hi : i < N) (hw : Due len t st h i) : t i (st i + 1) ≤ h := by
  have h1 := hw.1
  have h2 := per_le (mid len t st i)
  have h3 := hw.2
  have h4 : t i (st i + 1) ≤ mid len t st i := hR.mono i hi _ _ (by omega) (by omega)
  omega

theorem PX.done1 (hx : PX N len t h st pd ps p0 is d) {i k : Nat} (hi : is[d]? = some (i : Int)) (hk : len i - (st i + k) ≤ 1) : PX N len t h (upd st i (st i + k)) pd ps p0 is (d + 1) :=
  ⟨hx.g.drop hi hk, hx.k, hx.ne, hx.at0, hx.hd, hx.due⟩

theorem again_gt (hx : PX N len t h st pd ps p0 is d) {i k : Nat} (hk : k < len i - st i) (hc : Cut (fun a => t i (st i + a)) (len i - st i) h (k + 1)) (h1 : 1 < len i - (st i + k)) : p0 < per (mid len t (upd st i (st i + k)) i) := by
  have h2 := not_due hk hc h1
  have h3 := per_le (mid len t (upd st i (st i + k)) i)
  have h4 := hx.due
  omega

theorem PX.done2 (hx : PX N len t h st pd ps p0 is d) {i k : Nat} (hi : is[d]? = some (i : Int)) (hk : k < len i - st i) (hc : Cut (fun a => t i (st i + a)) (len i - st i) h (k + 1)) (h1 : 1 < len i - (st i + k)) {q1 : Int} (hq : per (mid len t (upd st i (st i + k)) i) = q1) (hp : Per q1) {ps' : List Int} (hQ : QP pd ps q1 ps') :
    PX N len t h (upd st i (st i + k)) (pdx pd q1 ((pd q1).getD [] ++ [(i : Int)])) ps' p0 is (d + 1) := by
  have hlt : p0 < q1 := by rw [← hq]; exact again_gt hx hk hc h1
  have hne : q1 ≠ p0 := by omega
  refine ⟨hx.g.requeue hi h1 hq hne, hx.k.queue hQ hp, fun q js hqn hj => ?_, ?_, ?_, hx.due⟩
  · by_cases e : q = q1
    · rw [e, pdx_same] at hj
      cases hj
      simp
    · rw [pdx_ne _ _ e] at hj
      exact hx.ne q js hqn hj
  · rw [pdx_ne _ _ hne.symm]
    exact hx.at0
  · obtain ⟨rest, rfl⟩ := hx.hd
    exact hQ.head hlt

theorem not_due' {i k : Nat} (hk : k < len i - st i) (hc : Cut (fun a => t i (st i + a)) (len i - st i) h (k + 1)) : ¬ Due len t (upd st i (st i + k)) h i := fun hd => by
  have h1 := hd.1
  rw [upd_same] at h1
  have h2 := not_due hk hc h1
  have h3 := per_le (mid len t (upd st i (st i + k)) i)
  have h4 := hd.2
  omega

/-- the end of a round: some are left -/
theorem PX.left (hx : PX N len t h st pd ps p0 is d) (hd : d < is.length) : PI N len t st (pdx pd p0 (is.drop d)) ps := by
  refine ⟨hx.g, hx.k.same (by rw [hx.at0]; exact fun e => by cases e), fun q js hq => ?_⟩
  by_cases e : q = p0
  · rw [e, pdx_same] at hq
    cases hq
    intro e2
    have := congrArg List.length e2
    simp at this
    omega
  · rw [pdx_ne _ _ e] at hq
    exact hx.ne q js e hq
theorem PX.none (hx : PX N len t h st pd ps p0 is is.length) : ∃ rest, ps = p0 :: rest ∧ PI N len t st (pdn pd p0) rest := by
  obtain ⟨rest, rfl⟩ := hx.hd
  refine ⟨rest, rfl, PG.none (hx.g.ext fun q => ?_), hx.k.tail, fun q js hq => ?_⟩
  · rw [List.drop_length]
  · by_cases e : q = p0
    · rw [e, pdn_same] at hq
      cases hq
    · rw [pdn_ne _ e] at hq
      exact hx.ne q js e hq

theorem Went.step {s0 : Nat → Nat} (hw : Went N len t h s0 st) {i k : Nat} (hi : i < N) (hd : Due len t st h i) (hk1 : 1 ≤ k) (hk : k < len i - st i) (hc : Cut (fun a => t i (st i + a)) (len i - st i) h (k + 1)) : Went N len t h s0 (upd st i (st i + k)) := by
  intro j hj
  by_cases e : j = i
  · subst e
    rw [upd_same]
    rcases hw j hj with h1 | ⟨_, k', hk1', hk', hc', h1⟩
    · refine .inr ⟨?_, k, hk1, ?_, ?_, ?_⟩
      · unfold Due mid at hd ⊢
        rw [← h1]
        exact hd
      · rw [← h1]
        exact hk
      · rw [← h1]
        exact hc
      · rw [h1]
    · exfalso
      have h2 : h < mid len t st j := by
        unfold mid
        have h5 := hd.1
        have h3 : h < t j (s0 j + (k' + (len j - st j) / 2)) := hc'.2.2 (k' + (len j - st j) / 2) (by omega) (by omega)
        rwa [← Nat.add_assoc, ← h1] at h3
      have h3 := per_le (mid len t st j)
      have h4 := hd.2
      omega
  · rw [upd_ne st _ e]
    exact hw j hj
end
end Go.Proofs.Qxb6630565a
