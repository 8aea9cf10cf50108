/-
  THE PLAIN LAWS: where each chain begins behind Prune; when Prune next has work. No Go in sight.
-/
import Derived.Test.Qxb6630565aZ2
namespace Go.Proofs.Qxb6630565a

theorem cnt_all (T : Nat → Int) (h : Int) : ∀ n, (∀ i, i < n → T i ≤ h) → cnt T h n = n
  | 0, _ => rfl
  | n + 1, hc => by
    unfold cnt
    rw [cnt_all T h n (fun i hi => hc i (by omega)), if_pos (hc n (by omega))]
theorem cnt_cut (T : Nat → Int) (h : Int) (c : Nat) : ∀ n, Cut T n h c → cnt T h n = c
  | 0, hc => by
    have h1 := hc.1
    show 0 = c
    omega
  | n + 1, hc => by
    obtain ⟨h1, h2, h3⟩ := hc
    by_cases e : c = n + 1
    · subst e
      exact cnt_all T h (n + 1) h2
    · unfold cnt
      have h4 : h < T n := h3 n (by omega) (by omega)
      rw [cnt_cut T h c n ⟨by omega, h2, fun i hi hn => h3 i hi (by omega)⟩, if_neg (by omega)]
      rfl

open Classical in
/-- where zzStart begins -/
noncomputable def zst (T : Nat → Int) (n : Nat) (h : Int) : Nat := if zdue T n h then cnt T h n - 1 else 0
theorem ZS.zst {T : Nat → Int} {n : Nat} {h : Int} {st : Nat} {b : Bool} (hz : ZS T n h st b) : zst T n h = st := by
  unfold Qxb6630565a.zst
  rcases hz with ⟨_, h1, h2⟩ | ⟨_, h1, h2⟩
  · rw [if_pos h1]
    omega
  · rw [if_neg h1, h2]

section
variable {N : Nat} {L : Nat → Nat} {t : Nat → Nat → Int} {h : Int} {st : Nat → Nat} {pd : Int → Option (List Int)} {ps : List Int}

theorem no_due (hp : PI N L t st pd ps) (he : ∀ p ∈ ps, h < p + 67108863) {i : Nat} (hi : i < N) : ¬ Due L t st h i := fun hd => by
  obtain ⟨js, h1, _⟩ := hp.g.all i hi hd.1
  have h2 := (hp.k.keys _).2 (fun e => by rw [e] at h1; cases h1)
  have h3 := he _ h2
  have h4 := hd.2
  omega

theorem due_z0 (i : Nat) : Due L t z0 h i ↔ zdue (t i) (L i) h := by
  unfold Due mid zdue
  show (1 < L i - 0 ∧ per (t i (0 + (L i - 0) / 2)) + 67108863 ≤ h) ↔ _
  rw [Nat.zero_add]
  exact Iff.rfl

theorem went_is (hw : Went N L t h z0 st) (hn : ∀ i, i < N → ¬ Due L t st h i) {i : Nat} (hi : i < N) : (zdue (t i) (L i) h ∧ 1 ≤ st i ∧ st i < L i ∧ st i + 1 = cnt (t i) h (L i)) ∨ (¬ zdue (t i) (L i) h ∧ st i = 0) := by
  rcases hw i hi with h1 | ⟨h1, k, hk1, hk2, hk3, hk4⟩
  · refine .inr ⟨fun hz => ?_, h1⟩
    have h2 := (due_z0 (h := h) i).2 hz
    unfold Due mid at h2
    refine hn i hi ?_
    unfold Due mid
    rw [h1]
    exact h2
  · have e1 : st i = k := by
      rw [hk4]
      exact Nat.zero_add _
    have hk3 : Cut (fun a => t i (0 + a)) (L i - 0) h (k + 1) := hk3
    simp only [Nat.zero_add] at hk3
    have hk2 : k < L i := hk2
    refine .inl ⟨(due_z0 i).1 h1, by omega, by omega, ?_⟩
    rw [e1]
    exact (cnt_cut (t i) h (k + 1) (L i) hk3).symm

theorem went_zst (hw : Went N L t h z0 st) (hn : ∀ i, i < N → ¬ Due L t st h i) {i : Nat} (hi : i < N) : st i = zst (t i) (L i) h := by
  unfold zst
  rcases went_is hw hn hi with ⟨h1, h2, h3, h4⟩ | ⟨h1, h2⟩
  · rw [if_pos h1]
    omega
  · rw [if_neg h1, h2]

/-- what law 3 asks of chain i -/
theorem law3_chain (hw : Went N L t h z0 st) (hn : ∀ i, i < N → ¬ Due L t st h i) {i : Nat} (hi : i < N) {zs : Nat} {b : Bool} (hz : ZS (t i) (L i) h zs b) : st i = zs ∧ zs ≤ L i ∧ (b = true → zs < L i ∧ flo t st i = t i zs) ∧ (b = false → flo t st i = 0) := by
  have e : st i = zs := (went_zst hw hn hi).trans hz.zst
  rcases hz with ⟨hb, h1, h2⟩ | ⟨hb, h1, h2⟩
  · rcases went_is hw hn hi with ⟨_, h4, h5, h6⟩ | ⟨h3, _⟩
    · refine ⟨e, by omega, fun _ => ⟨by omega, ?_⟩, fun hf => by rw [hb] at hf; cases hf⟩
      unfold flo
      rw [if_neg (by omega), e]
    · exact absurd h1 h3
  · refine ⟨e, by omega, (fun hf => by rw [hb] at hf; cases hf), fun _ => ?_⟩
    unfold flo
    rw [if_pos (by omega)]

/-- a chain's end, where it waits -/
def EndP (L : Nat → Nat) (t : Nat → Nat → Int) (st : Nat → Nat) (i : Nat) (e : Int) : Prop := 1 < L i - st i ∧ e = per (mid L t st i) + 67108863
/-- want is the least end of the first k chains -/
def Wn (L : Nat → Nat) (t : Nat → Nat → Int) (st : Nat → Nat) (k : Nat) (want : Int) : Prop := (∀ i, i < k → ∀ e, EndP L t st i e → want ≤ e) ∧ (want = 18446744073709551615 ∨ ∃ i, i < k ∧ EndP L t st i want) ∧ want ≤ 18446744073709551615

theorem Wn.zero : Wn L t st 0 18446744073709551615 := ⟨fun i hi => by omega, .inl rfl, by omega⟩
theorem Wn.none {k : Nat} {want : Int} (hw : Wn L t st k want) (hn : ¬ 1 < L k - st k) : Wn L t st (k + 1) want := by
  refine ⟨fun i hi e he => ?_, ?_, hw.2.2⟩
  · by_cases e1 : i = k
    · subst e1
      exact absurd he.1 hn
    · exact hw.1 i (by omega) e he
  · rcases hw.2.1 with h1 | ⟨i, hi, h1⟩
    · exact .inl h1
    · exact .inr ⟨i, by omega, h1⟩
theorem Wn.less {k : Nat} {want e : Int} (hw : Wn L t st k want) (he : EndP L t st k e) (hl : e < want) : Wn L t st (k + 1) e := by
  refine ⟨fun i hi e' he' => ?_, .inr ⟨k, by omega, he⟩, by have := hw.2.2; omega⟩
  by_cases e1 : i = k
  · subst e1
    rw [he'.2, he.2]
    omega
  · have := hw.1 i (by omega) e' he'
    omega
theorem Wn.more {k : Nat} {want e : Int} (hw : Wn L t st k want) (he : EndP L t st k e) (hl : ¬ e < want) : Wn L t st (k + 1) want := by
  refine ⟨fun i hi e' he' => ?_, ?_, hw.2.2⟩
  · by_cases e1 : i = k
    · subst e1
      rw [he'.2, ← he.2]
      omega
    · exact hw.1 i (by omega) e' he'
  · rcases hw.2.1 with h1 | ⟨i, hi, h1⟩
    · exact .inl h1
    · exact .inr ⟨i, by omega, h1⟩

theorem EndP.congr {st' : Nat → Nat} {i : Nat} {e : Int} (hs : st i = st' i) : EndP L t st i e ↔ EndP L t st' i e := by
  unfold EndP mid
  rw [hs]
theorem Wn.congr {st' : Nat → Nat} {k : Nat} {want : Int} (hw : Wn L t st k want) (hs : ∀ i, i < k → st' i = st i) : Wn L t st' k want := by
  refine ⟨fun i hi e he => hw.1 i hi e ((EndP.congr (hs i hi)).1 he), ?_, hw.2.2⟩
  rcases hw.2.1 with h1 | ⟨i, hi, h1⟩
  · exact .inl h1
  · exact .inr ⟨i, hi, (EndP.congr (hs i hi)).2 h1⟩

/-- the schedule is the least end -/
theorem due_is (hp : PI N L t st pd ps) {want : Int} (hw : Wn L t st N want) : dueOf ps = want := by
  cases ps with
  | nil =>
    rcases hw.2.1 with h1 | ⟨i, hi, h1⟩
    · exact h1.symm
    · obtain ⟨js, h2, _⟩ := hp.g.all i hi h1.1
      have := (hp.k.keys _).2 (fun e => by rw [e] at h2; cases h2)
      cases this
  | cons p rest =>
    show p + 67108863 = want
    obtain ⟨js, hjs⟩ := Option.ne_none_iff_exists'.1 ((hp.k.keys p).1 (List.mem_cons_self ..))
    obtain ⟨x, hxm⟩ := List.exists_mem_of_ne_nil js (hp.ne p js hjs)
    obtain ⟨i, _, hi, hwt⟩ := hp.g.mem p js hjs x hxm
    have h1 : want ≤ p + 67108863 := hw.1 i hi _ ⟨hwt.1, by rw [hwt.2]⟩
    rcases hw.2.1 with h2 | ⟨j, hj, h2⟩
    · have := (hp.k.per p (List.mem_cons_self ..)).2
      omega
    · obtain ⟨js2, h3, _⟩ := hp.g.all j hj h2.1
      have h4 := (hp.k.keys _).2 (fun e => by rw [e] at h3; cases h3)
      have h5 := h2.2
      obtain ⟨_, h6⟩ := sor_cons hp.k.sor
      rcases List.mem_cons.1 h4 with h7 | h7
      · omega
      · have := h6 _ h7
        omega

/-- a second Prune turns nothing -/
theorem went_same {s2 : Nat → Nat} (hw : Went N L t h st s2) (hn : ∀ i, i < N → ¬ Due L t st h i) {i : Nat} (hi : i < N) : s2 i = st i := by
  rcases hw i hi with h1 | ⟨h1, _⟩
  · exact h1
  · exact absurd h1 (hn i hi)
end
end Go.Proofs.Qxb6630565a
