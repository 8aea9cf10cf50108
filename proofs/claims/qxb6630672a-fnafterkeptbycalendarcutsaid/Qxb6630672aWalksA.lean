/-
  THE WALKS shared by the two calendar statements: the small functions, and 'isNthAfter'.
-/
import Derived.Test.Qxb6630672aRows
import Derived.WalkKit
import Derived.WalkLawsBesides
import Derived.ProofKit
import Derived.Deep.Light
import Derived.Below
namespace Go.Proofs.Qxb6630672a
open Go.ChangeShapes Go.WideShapes Go.ChangeAt Go.RowKit

theorem ret_bool {a b : Bool} (h : a = b) : Ending.returned (.bool a) = .returned (.bool b) := by rw [h]

theorem zzBytes1_any (a : Option Addr) (n c : Nat) (x y z : Int) (w : World) (hs : n ≤ maxLen) :
    Calls Try.prog 5 #[.slice a n c, .int .i64 x, .int .i64 y, .int .i64 z] w fun e w' => e = .returned (.bool (decide (n ≤ 1048576))) ∧ w' = w := by
  unfold maxLen at hs
  go_enter Try.func5, Try.ntmps5
  go_wp2
  all_goals
    go_ret
    exact ⟨ret_bool (by simp; omega), rfl⟩

theorem zzBytes2_any (a : Option Addr) (n c : Nat) (x y z : Int) (w : World) (hs : n ≤ maxLen) :
    Calls Try.prog 11 #[.slice a n c, .int .i64 x, .int .i64 y, .int .i64 z] w fun e w' => e = .returned (.bool (decide (n ≤ 1048576))) ∧ w' = w := by
  unfold maxLen at hs
  go_enter Try.func11, Try.ntmps11
  go_wp2
  all_goals
    go_ret
    exact ⟨ret_bool (by simp; omega), rfl⟩

/-- cmp.Compare -/
def cmpI (x y : Int) : Int := if x < y then -1 else if y < x then 1 else 0

theorem isNaN_any (x : Int) (w : World) : Calls Try.prog 15 #[.int .i64 x] w fun e w' => e = .returned (.bool false) ∧ w' = w := by
  go_enter Try.func15, Try.ntmps15
  go_wp2
  go_ret
  exact ⟨rfl, rfl⟩

theorem ret_int {a b : Int} (h : a = b) : Ending.returned (.int .i64 a) = .returned (.int .i64 b) := by rw [h]

theorem cmp_any (x y : Int) (w : World) : Calls Try.prog 14 #[.int .i64 x, .int .i64 y] w fun e w' => e = .returned (.int .i64 (cmpI x y)) ∧ w' = w := by
  go_enter Try.func14, Try.ntmps14
  go_wp2_with (go_at_call 15; refine (isNaN_any _ _).mono ?_; rintro e w' ⟨rfl, rfl⟩)
  all_goals
    go_ret
    exact ⟨ret_int (by unfold cmpI; split <;> (try split) <;> omega), rfl⟩

theorem newDate_any (x : Int) (w : World) : Calls Try.prog 7 #[.int .i64 x] w fun e w' => e = .returned (.agg #[.int .i64 x]) ∧ Below w.heap.size w w' := by
  go_enter Try.func7, Try.ntmps7
  go_wp2
  exact bodyPost_ret (v := .agg #[.int .i64 x]) (by simp [results, Try.results7, go_sem]) rfl ⟨rfl, ((Below.refl _ _).alloc (Nat.le_refl _) _)⟩

theorem dateDays_any (x : Int) (w : World) : Calls Try.prog 10 #[.agg #[.int .i64 x]] w fun e w' => e = .returned (.int .i64 x) ∧ Below w.heap.size w w' := by
  go_enter Try.func10, Try.ntmps10
  go_wp2
  go_ret
  exact ⟨rfl, ((Below.refl _ _).alloc (Nat.le_refl _) _)⟩

theorem compare_any (x y : Int) (w : World) : Calls Try.prog 13 #[.agg #[.int .i64 x], .agg #[.int .i64 y]] w fun e w' => e = .returned (.int .i64 (cmpI x y)) ∧ Below w.heap.size w w' := by
  go_enter Try.func13, Try.ntmps13
  go_wp2_with (go_at_call 14; refine (cmp_any _ _ _).mono ?_; rintro e w' ⟨rfl, rfl⟩)
  go_ret
  exact ⟨rfl, ((Below.refl _ _).alloc (Nat.le_refl _) _).alloc (by simp) _⟩

/-- how many of the first k lie behind d -/
def cnt (zs : List Int) (d : Int) (k : Nat) : Nat := (zs.take k).countP (fun z => decide (d < z))
/-- how many of the first k lie behind d and not behind r -/
def cnt2 (zs : List Int) (d r : Int) (k : Nat) : Nat := (zs.take k).countP (fun z => decide (d < z) && decide (z ≤ r))
/-- is r one of the first k? -/
def lst (zs : List Int) (r : Int) (k : Nat) : Bool := (zs.take k).any (fun z => z == r)

theorem take_at (zs : List Int) (k : Nat) (h : k < zs.length) : zs.take (k + 1) = zs.take k ++ [zs[k]?.getD 0] := by
  rw [List.take_add_one, List.getElem?_eq_getElem h]; rfl
theorem cnt_hit (zs : List Int) (d : Int) (k : Nat) (h : k < zs.length) (hd : d < zs[k]?.getD 0) : cnt zs d (k + 1) = cnt zs d k + 1 := by
  simp [cnt, take_at zs k h, List.countP_append, hd]
theorem cnt_miss (zs : List Int) (d : Int) (k : Nat) (h : k < zs.length) (hd : zs[k]?.getD 0 ≤ d) : cnt zs d (k + 1) = cnt zs d k := by
  simp [cnt, take_at zs k h, List.countP_append, List.countP_cons]; omega
theorem cnt_le (zs : List Int) (d : Int) (k : Nat) : cnt zs d k ≤ k := by
  unfold cnt; exact Nat.le_trans List.countP_le_length (by simp; omega)
theorem cnt2_hit (zs : List Int) (d r : Int) (k : Nat) (h : k < zs.length) (hd : d < zs[k]?.getD 0) (hr : zs[k]?.getD 0 ≤ r) : cnt2 zs d r (k + 1) = cnt2 zs d r k + 1 := by
  simp [cnt2, take_at zs k h, List.countP_append, hd, hr]
theorem cnt2_miss (zs : List Int) (d r : Int) (k : Nat) (h : k < zs.length) (hd : d < zs[k]?.getD 0 → ¬ zs[k]?.getD 0 ≤ r) : cnt2 zs d r (k + 1) = cnt2 zs d r k := by
  simp [cnt2, take_at zs k h, List.countP_append, List.countP_cons]; omega
theorem cnt2_le (zs : List Int) (d r : Int) (k : Nat) : cnt2 zs d r k ≤ k := by
  unfold cnt2; exact Nat.le_trans List.countP_le_length (by simp; omega)
theorem lst_hit (zs : List Int) (r : Int) (k : Nat) (h : k < zs.length) (hd : (zs[k]?.getD 0 == r) = true) : lst zs r (k + 1) = true := by
  rw [lst, take_at zs k h, List.any_append]; simp only [List.any_cons, hd, List.any_nil, Bool.or_false, Bool.or_true]
theorem lst_miss (zs : List Int) (r : Int) (k : Nat) (h : k < zs.length) (hd : (zs[k]?.getD 0 == r) = false) : lst zs r (k + 1) = lst zs r k := by
  rw [lst, take_at zs k h, List.any_append]; simp only [List.any_cons, hd, List.any_nil, Bool.or_false]; rfl

/-- the plain twin of isNthAfter -/
def nth (zs : List Int) (d m : Int) (ok : Bool) (r : Int) : Bool :=
  if (ok != (decide (1 ≤ m) && decide (m ≤ (cnt zs d zs.length : Int)))) = true then false
  else if ok = false then r == 0
  else if r ≤ d then false
  else lst zs r zs.length && ((cnt2 zs d r zs.length : Int) == m)

set_option maxHeartbeats 1000000 in
theorem nth_any (g : Nat) (zs : List Int) (d m : Int) (ok : Bool) (r : Int) (w : World) (hbig : zs.length ≤ 1048576) (hc : ∀ i, i < zs.length → w.cell? ⟨g, i, none⟩ = some (.int .i64 (zs.getD i 0))) :
    Calls Try.prog 9 #[.slice (some ⟨g, 0, none⟩) zs.length zs.length, .int .i64 d, .int .i64 m, .bool ok, .int .i64 r] w fun e w' => e = .returned (.bool (nth zs d m ok r)) ∧ w' = w := by
  obtain ⟨N, hN⟩ : ∃ N, Hid (nth zs d m ok r = N) := ⟨_, rfl⟩
  rw [hN.out]
  obtain ⟨n, hn⟩ : ∃ n, n = zs.length := ⟨_, rfl⟩
  rw [← hn] at hbig ⊢
  have Hn : Hid (n = zs.length) := hn
  rw [← hn] at hc
  clear hn
  go_enter Try.func9, Try.ntmps9
  go_wp2
  go_loop [11, 12] (fun c i => ∃ k : Nat, k ≤ n ∧ i = .int .i64 k ∧ c = .int .i64 (cnt zs d k)) (fun _ i => n - (intOf i).toNat)
  case atStart => exact ⟨0, Nat.zero_le _, rfl, rfl⟩
  case round =>
    obtain ⟨k, hk, rfl, rfl⟩ := hrel
    have hcell : k < n → w.cell? ⟨g, k, none⟩ = some (.int .i64 (zs.getD k 0)) := fun h => hc k h
    have hle := cnt_le zs d k
    go_wp2
    · go_round
      case rel => exact ⟨k + 1, by omega, by go_num, by rw [cnt_hit zs d k (Nat.lt_of_lt_of_eq (by assumption) Hn.out) (by assumption)]; go_num⟩
      case measure => simp only [intOf]; omega
    · go_round
      case rel => exact ⟨k + 1, by omega, by go_num, by rw [cnt_miss zs d k (Nat.lt_of_lt_of_eq (by assumption) Hn.out) (by assumption)]⟩
      case measure => simp only [intOf]; omega
    all_goals
      have hkn : k = n := by omega
      subst hkn
      clear hcell
    · go_ret
      refine ⟨ret_bool ?_, rfl⟩
      rw [← hN.out, nth, ← Hn.out]
      cases ok <;> simp_all
    · go_ret
      refine ⟨ret_bool ?_, rfl⟩
      rw [← hN.out, nth, ← Hn.out]
      cases ok <;> simp_all
    · go_ret
      refine ⟨ret_bool ?_, rfl⟩
      rw [← hN.out, nth, ← Hn.out]
      cases ok <;> simp_all
    · have hok : ok = true := by cases ok <;> simp_all
      have hm1 : 1 ≤ m := by assumption
      have hm2 : m ≤ (cnt zs d k : Int) := by simp_all
      have hrd : d < r := by assumption
      have HN : Hid ((lst zs r k && ((cnt2 zs d r k : Int) == m)) = N) := by
        show _ = _
        rw [← hN.out, nth, ← Hn.out, hok]
        have : ¬ r ≤ d := by omega
        simp [hm1, hm2, this]
      subst hok
      clear hm1 hm2 hN
      go_loop [14, 15, 16] (fun l u i => ∃ j : Nat, j ≤ k ∧ i = .int .i64 j ∧ u = .int .i64 (cnt2 zs d r j) ∧ l = .bool (lst zs r j)) (fun _ _ i => k - (intOf i).toNat)
      case atStart => exact ⟨0, Nat.zero_le _, rfl, rfl, rfl⟩
      case round =>
        obtain ⟨j, hj, rfl, rfl, rfl⟩ := hrel
        have hcell : j < k → w.cell? ⟨g, j, none⟩ = some (.int .i64 (zs.getD j 0)) := fun h => hc j h
        have hle2 := cnt2_le zs d r j
        clear hc hle
        go_wp2
        · go_round
          case rel => exact ⟨j + 1, by omega, by go_num, by rw [cnt2_hit zs d r j (Nat.lt_of_lt_of_eq (by assumption) Hn.out) (by assumption) (by assumption)]; go_num, by rw [lst_hit zs r j (Nat.lt_of_lt_of_eq (by assumption) Hn.out) (by assumption)]⟩
          case measure => simp only [intOf]; omega
        · go_round
          case rel => exact ⟨j + 1, by omega, by go_num, by rw [cnt2_miss zs d r j (Nat.lt_of_lt_of_eq (by assumption) Hn.out) (by omega)], by rw [lst_hit zs r j (Nat.lt_of_lt_of_eq (by assumption) Hn.out) (by assumption)]⟩
          case measure => simp only [intOf]; omega
        · go_round
          case rel => exact ⟨j + 1, by omega, by go_num, by rw [cnt2_miss zs d r j (Nat.lt_of_lt_of_eq (by assumption) Hn.out) (by omega)], by rw [lst_hit zs r j (Nat.lt_of_lt_of_eq (by assumption) Hn.out) (by assumption)]⟩
          case measure => simp only [intOf]; omega
        · go_round
          case rel => exact ⟨j + 1, by omega, by go_num, by rw [cnt2_hit zs d r j (Nat.lt_of_lt_of_eq (by assumption) Hn.out) (by assumption) (by assumption)]; go_num, by rw [lst_miss zs r j (Nat.lt_of_lt_of_eq (by assumption) Hn.out) (by assumption)]⟩
          case measure => simp only [intOf]; omega
        · go_round
          case rel => exact ⟨j + 1, by omega, by go_num, by rw [cnt2_miss zs d r j (Nat.lt_of_lt_of_eq (by assumption) Hn.out) (by omega)], by rw [lst_miss zs r j (Nat.lt_of_lt_of_eq (by assumption) Hn.out) (by assumption)]⟩
          case measure => simp only [intOf]; omega
        · go_round
          case rel => exact ⟨j + 1, by omega, by go_num, by rw [cnt2_miss zs d r j (Nat.lt_of_lt_of_eq (by assumption) Hn.out) (by omega)], by rw [lst_miss zs r j (Nat.lt_of_lt_of_eq (by assumption) Hn.out) (by assumption)]⟩
          case measure => simp only [intOf]; omega
        · have hjk : j = k := by omega
          subst hjk
          go_ret
          refine ⟨ret_bool ?_, rfl⟩
          rw [← HN.out, show lst zs r j = true by assumption, Bool.true_and]
        · have hjk : j = k := by omega
          subst hjk
          go_ret
          refine ⟨ret_bool ?_, rfl⟩
          rw [← HN.out, show lst zs r j = false by simp_all, Bool.false_and]
    · go_ret
      refine ⟨ret_bool ?_, rfl⟩
      rw [← hN.out, nth, ← Hn.out]
      have : ¬ 1 ≤ m := by omega
      simp_all
    · go_ret
      refine ⟨ret_bool ?_, rfl⟩
      rw [← hN.out, nth, ← Hn.out]
      have : ¬ 1 ≤ m := by omega
      simp_all

end Go.Proofs.Qxb6630672a
