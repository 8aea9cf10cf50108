/-
  THE PLAIN LAW: over a strictly ascending list, 'aft' is what isNthAfter asks, composes, and is kept by a cut. No Go in sight.
-/
import Derived.Test.Qxb6630672aWalksC
namespace Go.Proofs.Qxb6630672a

theorem partsLe_ex (zs : List Int) (d : Int) (ha : Asc zs) : ∃ q, PartsLe zs d q := by
  have h : ∀ k, k ≤ zs.length → ∃ q, q ≤ k ∧ (∀ i, i < q → zs.getD i 0 ≤ d) ∧ ∀ i, q ≤ i → i < k → d < zs.getD i 0 := by
    intro k
    induction k with
    | zero => exact fun _ => ⟨0, Nat.le_refl _, fun i hi => by omega, fun i _ hi => by omega⟩
    | succ k ih =>
      intro hk
      obtain ⟨q, h1, h2, h3⟩ := ih (by omega)
      by_cases hd : zs.getD k 0 ≤ d
      · refine ⟨k + 1, Nat.le_refl _, fun i hi => ?_, fun i _ hi => by omega⟩
        rcases Nat.lt_or_ge i k with h | h
        · have := ha i k h (by omega)
          omega
        · obtain rfl : i = k := by omega
          exact hd
      · refine ⟨q, by omega, h2, fun i hi hik => ?_⟩
        rcases Nat.lt_or_ge i k with h | h
        · exact h3 i hi h
        · obtain rfl : i = k := by omega
          omega
  obtain ⟨q, h1, h2, h3⟩ := h zs.length (Nat.le_refl _)
  exact ⟨q, h1, h2, h3⟩

theorem cnt_sub {zs : List Int} {d : Int} {q : Nat} (hq : PartsLe zs d q) : ∀ k, k ≤ zs.length → cnt zs d k = k - q := by
  intro k
  induction k with
  | zero => intro _; simp [cnt]
  | succ k ih =>
    intro hk
    have h0 := ih (by omega)
    by_cases hkq : k < q
    · have h := hq.2.1 k hkq
      rw [cnt_miss zs d k (by omega) (by simpa using h)]
      omega
    · have h := hq.2.2 k (by omega) (by omega)
      rw [cnt_hit zs d k (by omega) (by simpa using h)]
      omega

theorem cnt2_sub {zs : List Int} {d r : Int} {q q2 : Nat} (hq : PartsLe zs d q) (hr : PartsLe zs r q2) : ∀ k, k ≤ zs.length → cnt2 zs d r k = min k q2 - q := by
  intro k
  induction k with
  | zero => intro _; simp [cnt2]
  | succ k ih =>
    intro hk
    have h0 := ih (by omega)
    by_cases hkq : k < q
    · have h := hq.2.1 k hkq
      simp only [List.getD_eq_getElem?_getD] at h
      rw [cnt2_miss zs d r k (by omega) (by omega)]
      omega
    · have h := hq.2.2 k (by omega) (by omega)
      simp only [List.getD_eq_getElem?_getD] at h
      by_cases hk2 : k < q2
      · have h2 := hr.2.1 k hk2
        simp only [List.getD_eq_getElem?_getD] at h2
        rw [cnt2_hit zs d r k (by omega) h h2]
        omega
      · have h2 := hr.2.2 k (by omega) (by omega)
        simp only [List.getD_eq_getElem?_getD] at h2
        rw [cnt2_miss zs d r k (by omega) (by omega)]
        omega

theorem lst_at (zs : List Int) (j : Nat) (h : j < zs.length) : lst zs (zs.getD j 0) zs.length = true := by
  rw [lst, List.take_length, List.any_eq_true]
  refine ⟨zs[j], List.getElem_mem h, ?_⟩
  simp [h]

theorem aok_iff (zs : List Int) (q : Nat) (m : Int) : aok zs q m = true ↔ 1 ≤ m ∧ m ≤ (zs.length : Int) - q := by simp [aok]
theorem aft_ok {zs : List Int} {q : Nat} {m : Int} (h : aok zs q m = true) : aft zs q m = zs.getD (q + m.toNat - 1) 0 := by rw [aft, if_pos h]
theorem aft_no {zs : List Int} {q : Nat} {m : Int} (h : aok zs q m = false) : aft zs q m = 0 := by rw [aft, h]; rfl

/-- q + m of them are not behind the m-th -/
theorem partsLe_aft {zs : List Int} {d : Int} {q : Nat} {m : Int} (ha : Asc zs) (hq : PartsLe zs d q) (h : aok zs q m = true) : PartsLe zs (aft zs q m) (q + m.toNat) := by
  have hm := (aok_iff zs q m).1 h
  have h1 := hq.1
  rw [aft_ok h]
  refine ⟨by omega, fun i hi => ?_, fun i hi hl => ?_⟩
  · rcases Nat.lt_or_ge i (q + m.toNat - 1) with h | h
    · have := ha i _ h (by omega)
      omega
    · rw [show i = q + m.toNat - 1 by omega]
      exact Int.le_refl _
  · exact ha _ i (by omega) hl

theorem nth_true {zs : List Int} {d : Int} {q : Nat} (m : Int) (ha : Asc zs) (hq : PartsLe zs d q) : nth zs d m (aok zs q m) (aft zs q m) = true := by
  have hc := cnt_sub hq zs.length (Nat.le_refl _)
  have h1 := hq.1
  cases hok : aok zs q m
  · rw [aft_no hok]
    have hn : ¬ (1 ≤ m ∧ m ≤ (zs.length : Int) - q) := by
      intro h
      rw [(aok_iff zs q m).2 h] at hok
      cases hok
    have hd : (decide (1 ≤ m) && decide (m ≤ (cnt zs d zs.length : Int))) = false := by
      rw [Bool.and_eq_false_iff, decide_eq_false_iff_not, decide_eq_false_iff_not]
      omega
    rw [nth, hd]
    rfl
  · have hm := (aok_iff zs q m).1 hok
    have hd : (decide (1 ≤ m) && decide (m ≤ (cnt zs d zs.length : Int))) = true := by
      rw [Bool.and_eq_true, decide_eq_true_eq, decide_eq_true_eq]
      omega
    have hp := partsLe_aft ha hq hok
    have h2 := cnt2_sub hq hp zs.length (Nat.le_refl _)
    have h3 : d < aft zs q m := by
      rw [aft_ok hok]
      exact hq.2.2 _ (by omega) (by omega)
    have h4 : lst zs (aft zs q m) zs.length = true := by
      rw [aft_ok hok]
      exact lst_at _ _ (by omega)
    have h5 : ((cnt2 zs d (aft zs q m) zs.length : Int) == m) = true := by
      rw [beq_iff_eq]
      omega
    rw [nth, hd, if_neg (by simp), if_neg (by simp), if_neg (by omega), h4, h5]
    rfl

/-- the walk of m days and then of n is the walk of m + n -/
theorem compose_ok {zs : List Int} {q : Nat} {m n : Int} (h : aok zs q m = true) (hn : 1 ≤ n) : aok zs (q + m.toNat) n = aok zs q (m + n) := by
  have hm := (aok_iff zs q m).1 h
  rw [Bool.eq_iff_iff, aok_iff, aok_iff]
  omega
theorem compose_aft {zs : List Int} {q : Nat} {m n : Int} (h : aok zs q m = true) (hn : 1 ≤ n) : aft zs (q + m.toNat) n = aft zs q (m + n) := by
  have hm := (aok_iff zs q m).1 h
  have hc := compose_ok h hn
  cases hk : aok zs q (m + n)
  · rw [aft_no hk, aft_no (hc.trans hk)]
  · rw [aft_ok hk, aft_ok (hc.trans hk), show q + m.toNat + n.toNat - 1 = q + (m + n).toNat - 1 by omega]
theorem compose_no {zs : List Int} {q : Nat} {m n : Int} (h : aok zs q m = false) (hm : 1 ≤ m) (hn : 1 ≤ n) : aok zs q (m + n) = false := by
  rw [Bool.eq_false_iff] at h ⊢
  intro hk
  refine h ((aok_iff _ _ _).2 ?_)
  have := (aok_iff _ _ _).1 hk
  omega

theorem getD_take (zs : List Int) (k i : Nat) (h : i < k) : (zs.take k).getD i 0 = zs.getD i 0 := by simp [h]

theorem asc_take {zs : List Int} (k : Nat) (ha : Asc zs) : Asc (zs.take k) := by
  intro i j hij hj
  rw [List.length_take] at hj
  rw [getD_take _ _ _ (by omega), getD_take _ _ _ (by omega)]
  exact ha i j hij (by omega)

theorem partsLe_take {zs : List Int} {d : Int} {q : Nat} (k : Nat) (hk : k ≤ zs.length) (hq : PartsLe zs d q) : PartsLe (zs.take k) d (min q k) := by
  have h1 := hq.1
  refine ⟨by rw [List.length_take]; omega, fun i hi => ?_, fun i hi hl => ?_⟩
  · rw [getD_take _ _ _ (by omega)]
    exact hq.2.1 i (by omega)
  · rw [List.length_take] at hl
    rw [getD_take _ _ _ (by omega)]
    exact hq.2.2 i (by omega) (by omega)

/-- is the m-th in the first k days? -/
def within (zs : List Int) (q k : Nat) (m : Int) : Bool := (aok zs q m && decide (0 < (k : Int))) && decide (aft zs q m ≤ zs.getD (k - 1) 0)

theorem cut_ok {zs : List Int} {q : Nat} (k : Nat) (m : Int) (ha : Asc zs) (hk : k ≤ zs.length) : aok (zs.take k) (min q k) m = within zs q k m := by
  cases hok : aok zs q m
  · rw [within, hok, Bool.false_and, Bool.false_and, Bool.eq_false_iff]
    intro h
    have h1 := (aok_iff _ _ _).1 h
    rw [List.length_take] at h1
    rw [(aok_iff zs q m).2 (by omega)] at hok
    cases hok
  · have hm := (aok_iff _ _ _).1 hok
    rw [within, hok, Bool.eq_iff_iff, aok_iff, List.length_take, aft_ok hok]
    simp only [Bool.true_and, Bool.and_eq_true, decide_eq_true_eq]
    constructor
    · intro h
      refine ⟨by omega, ?_⟩
      rcases Nat.lt_or_ge (q + m.toNat - 1) (k - 1) with h | h
      · have := ha _ _ h (by omega)
        omega
      · rw [show q + m.toNat - 1 = k - 1 by omega]
        exact Int.le_refl _
    · rintro ⟨h1, h2⟩
      rcases Nat.lt_or_ge (k - 1) (q + m.toNat - 1) with h | h
      · have := ha _ _ h (by omega)
        omega
      · omega

theorem cut_aft {zs : List Int} {q : Nat} (k : Nat) (m : Int) (ha : Asc zs) (hk : k ≤ zs.length) : aft (zs.take k) (min q k) m = if within zs q k m = true then aft zs q m else 0 := by
  have hc := cut_ok (q := q) k m ha hk
  cases hw : within zs q k m
  · rw [aft_no (hc.trans hw)]
    rfl
  · have h1 := (aok_iff _ _ _).1 (hc.trans hw)
    rw [List.length_take] at h1
    have hok : aok zs q m = true := (aok_iff _ _ _).2 (by omega)
    rw [aft_ok (hc.trans hw), aft_ok hok, getD_take _ _ _ (by omega), if_pos rfl, show min q k = q by omega]

end Go.Proofs.Qxb6630672a
