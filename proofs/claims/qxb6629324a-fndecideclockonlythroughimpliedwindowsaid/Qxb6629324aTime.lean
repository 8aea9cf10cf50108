/-
  THE WALKS of package time's functions on the road, and of consentB1Time: a time is its nanoseconds and its seconds.
-/
import Derived.Test.Qxb6629324aRows
import Derived.Test.Qxb6629324aMem
import Derived.WalkKit
import Derived.WalkLawsBesides
import Derived.ProofKit
import Derived.Deep.Light
import Derived.BigQuiet
import Derived.Deep.QuietTactic
import Derived.Deep.RegionHeld3
namespace Go.Proofs.Qxb6629324a
open Go.ChangeShapes Go.WideShapes Go.ChangeAt Go.RowKit

theorem and_low (n : Int) (h0 : 0 ≤ n) (h1 : n < 1073741824) : bits .and .u64 n 1073741823 = n := by
  obtain ⟨a, rfl⟩ := Int.eq_ofNat_of_zero_le h0
  have e : bits .and .u64 (a : Int) ((1073741823 : Nat) : Int) = ((a &&& 1073741823 : Nat) : Int) := bits_and_u64_nat a 1073741823 (by omega) (by omega)
  have e2 : a &&& 1073741823 = a % 2 ^ 30 := Nat.and_two_pow_sub_one_eq_mod a 30
  rw [e2, Nat.mod_eq_of_lt (by omega)] at e
  exact e
theorem and_top (n : Int) (h0 : 0 ≤ n) (h1 : n < 1073741824) : bits .and .u64 n 9223372036854775808 = 0 := by
  obtain ⟨a, rfl⟩ := Int.eq_ofNat_of_zero_le h0
  have e : bits .and .u64 (a : Int) ((9223372036854775808 : Nat) : Int) = ((a &&& 9223372036854775808 : Nat) : Int) := bits_and_u64_nat a 9223372036854775808 (by omega) (by omega)
  have e2 : a &&& 9223372036854775808 = 0 := by
    apply Nat.eq_of_testBit_eq
    intro i
    rw [Nat.testBit_and, Nat.zero_testBit, show (9223372036854775808 : Nat) = 2 ^ 63 by decide, Nat.testBit_two_pow]
    by_cases h : 63 = i
    · subst h
      rw [Nat.testBit_lt_two_pow (Nat.lt_of_lt_of_le (m := 1073741824) (by omega) (by decide))]
      rfl
    · simp [h]
  rw [e2] at e
  exact e
theorem andNot_low (n : Int) (h0 : 0 ≤ n) (h1 : n < 1073741824) : bits .andNot .u64 n 1073741823 = 0 := by
  obtain ⟨a, rfl⟩ := Int.eq_ofNat_of_zero_le h0
  show IntKind.u64.wrap ((BitVec.ofInt 64 (a : Int) &&& ~~~ BitVec.ofInt 64 1073741823).toNat : Int) = 0
  have : BitVec.ofInt 64 (a : Int) &&& ~~~ BitVec.ofInt 64 1073741823 = 0#64 := by
    apply BitVec.eq_of_getLsbD_eq
    intro i hi
    rw [BitVec.getLsbD_and, BitVec.getLsbD_not, BitVec.ofInt_natCast, BitVec.getLsbD_ofNat]
    by_cases h30 : i < 30
    · have h : (BitVec.ofInt 64 1073741823).getLsbD i = true := by
        have : ∀ j : Fin 30, (BitVec.ofInt 64 1073741823).getLsbD j.val = true := by decide +kernel
        exact this ⟨i, h30⟩
      rw [h]
      simp
    · have h : a.testBit i = false := Nat.testBit_lt_two_pow (Nat.lt_of_lt_of_le (m := 2 ^ 30) (by omega) (Nat.pow_le_pow_right (by decide) (by omega)))
      rw [h]
      simp
  rw [this]
  decide
theorem or_zero (n : Int) (h0 : 0 ≤ n) (h1 : n < 1073741824) : bits .or .u64 0 n = n := by
  obtain ⟨a, rfl⟩ := Int.eq_ofNat_of_zero_le h0
  have e : bits .or .u64 ((0 : Nat) : Int) (a : Int) = ((0 ||| a : Nat) : Int) := bits_or_u64_nat 0 a (by omega) (by omega)
  rw [Nat.zero_or] at e
  exact e

/-- Go's truncating division by 1e9 -/
theorem quot_facts (d : Int) : d.tdiv 1000000000 * 1000000000 + d.tmod 1000000000 = d ∧ -1000000000 < d.tmod 1000000000 ∧ d.tmod 1000000000 < 1000000000 := by
  have h := Int.tdiv_mul_add_tmod d 1000000000
  refine ⟨h, ?_⟩
  by_cases hd : 0 ≤ d
  · have e : d.tmod 1000000000 = d % 1000000000 := Int.tmod_eq_emod_of_nonneg hd
    rw [e]; omega
  · have e : d.tmod 1000000000 = -((-d) % 1000000000) := by
      have h2 := Int.neg_tmod (a := -d) (b := 1000000000)
      rw [Int.neg_neg] at h2
      rw [h2, Int.tmod_eq_emod_of_nonneg (a := -d) (by omega)]
    rw [e]; omega

theorem nsec_any (b : Nat) (n : Int) (w : World) (hn : 0 ≤ n) (hn2 : n < 1000000000) (h0 : w.cell? ⟨b, 0, none⟩ = some (.int .u64 n)) :
    Calls Try.prog 24 #[.pointer (some ⟨b, 0, none⟩)] w fun e w' => e = .returned (.int .i32 n) ∧ w' = w := by
  have b1 := and_low n hn (by omega)
  go_enter Try.func24, Try.ntmps24
  go_wp2
  go_ret
  exact ⟨rfl, rfl⟩

theorem sec_any (b : Nat) (n s : Int) (w : World) (hn : 0 ≤ n) (hn2 : n < 1000000000) (h0 : w.cell? ⟨b, 0, none⟩ = some (.int .u64 n)) (h1 : w.cell? ⟨b, 1, none⟩ = some (.int .i64 s)) :
    Calls Try.prog 30 #[.pointer (some ⟨b, 0, none⟩)] w fun e w' => e = .returned (.int .i64 s) ∧ w' = w := by
  have b1 := and_top n hn (by omega)
  go_enter Try.func30, Try.ntmps30
  go_wp2
  go_ret
  exact ⟨rfl, rfl⟩

theorem addSec_any (b : Nat) (n s d : Int) (w : World) (hn : 0 ≤ n) (hn2 : n < 1000000000) (hs : -1099511627776 ≤ s) (hs2 : s ≤ 1099511627776) (hd : -9223372038 ≤ d) (hd2 : d ≤ 9223372038)
    (h0 : w.cell? ⟨b, 0, none⟩ = some (.int .u64 n)) (h1 : w.cell? ⟨b, 1, none⟩ = some (.int .i64 s)) (f1 : w.frozen? ⟨b, 1, none⟩ = false) :
    Calls Try.prog 25 #[.pointer (some ⟨b, 0, none⟩), .int .i64 d] w fun e w' => e = .returned (.tuple #[]) ∧ w' = w.setCell ⟨b, 1, none⟩ (.int .i64 (s + d)) := by
  have b1 := and_top n hn (by omega)
  have q : (decide (s < s + d) == decide (0 < d)) = true := by
    by_cases h : 0 < d
    · rw [decide_eq_true h, decide_eq_true (by omega)]; rfl
    · rw [decide_eq_false h, decide_eq_false (by omega)]; rfl
  go_enter Try.func25, Try.ntmps25
  go_wp2
  go_end0
  exact ⟨rfl, rfl⟩

set_option maxHeartbeats 400000 in
theorem add_mid (s n d : Int) (hn : 0 ≤ n) (hn2 : n < 1000000000) (hs : -1099511627776 ≤ s) (hs2 : s ≤ 1099511627776) (hd : -9223372036854775808 ≤ d) (hd2 : d ≤ 9223372036854775807)
    (h1 : 0 ≤ n + d.tmod 1000000000) (h2 : n + d.tmod 1000000000 < 1000000000) (w : World) :
    Calls Try.prog 13 #[.agg #[.int .u64 n, .int .i64 s, .pointer none], .int .i64 d] w fun e w' =>
      e = .returned (.agg #[.int .u64 (n + d.tmod 1000000000), .int .i64 (s + (d.tdiv 1000000000)), .pointer none]) ∧ Below w.heap.size w w' := by
  obtain ⟨r0, r1, r2⟩ := quot_facts d
  have q1 : -9223372037 ≤ d.tdiv 1000000000 := by omega
  have q2 : d.tdiv 1000000000 ≤ 9223372037 := by omega
  clear r0
  have k1 : 0 ≤ n + d.tmod 1000000000 := by omega
  have k2 : n + d.tmod 1000000000 < 1000000000 := by omega
  have b2 := andNot_low n hn (by omega)
  have b3 := or_zero (n + d.tmod 1000000000) k1 (by omega)
  have b4 := and_top (n + d.tmod 1000000000) k1 (by omega)
  go_enter Try.func13, Try.ntmps13
  go_wp2_with (first
    | (go_at_call 24; refine (nsec_any _ n _ hn hn2 ?_).mono ?_; (simp); rintro e w' ⟨rfl, rfl⟩)
    | (go_at_call 25; refine (addSec_any _ (n + d.tmod 1000000000) s _ _ k1 k2 hs hs2 ?_ ?_ ?_ ?_ ?_).mono ?_; omega; omega; (simp); (simp); (simp); rintro e w' ⟨rfl, rfl⟩))
  exact bodyPost_ret (v := .agg #[.int .u64 (n + d.tmod 1000000000), .int .i64 (s + (d.tdiv 1000000000)), .pointer none]) (by simp [results, Try.results13, go_sem]) rfl ⟨rfl, ((Below.refl _ _).alloc (Nat.le_refl _) _).alloc (by simp) _⟩

set_option maxHeartbeats 400000 in
theorem add_hi (s n d : Int) (hn : 0 ≤ n) (hn2 : n < 1000000000) (hs : -1099511627776 ≤ s) (hs2 : s ≤ 1099511627776) (hd : -9223372036854775808 ≤ d) (hd2 : d ≤ 9223372036854775807)
    (h2 : 1000000000 ≤ n + d.tmod 1000000000) (w : World) :
    Calls Try.prog 13 #[.agg #[.int .u64 n, .int .i64 s, .pointer none], .int .i64 d] w fun e w' =>
      e = .returned (.agg #[.int .u64 (n + d.tmod 1000000000 - 1000000000), .int .i64 (s + (d.tdiv 1000000000 + 1)), .pointer none]) ∧ Below w.heap.size w w' := by
  obtain ⟨r0, r1, r2⟩ := quot_facts d
  have q1 : -9223372037 ≤ d.tdiv 1000000000 := by omega
  have q2 : d.tdiv 1000000000 ≤ 9223372037 := by omega
  clear r0
  have k1 : 0 ≤ n + d.tmod 1000000000 - 1000000000 := by omega
  have k2 : n + d.tmod 1000000000 - 1000000000 < 1000000000 := by omega
  have b2 := andNot_low n hn (by omega)
  have b3 := or_zero (n + d.tmod 1000000000 - 1000000000) k1 (by omega)
  have b4 := and_top (n + d.tmod 1000000000 - 1000000000) k1 (by omega)
  go_enter Try.func13, Try.ntmps13
  go_wp2_with (first
    | (go_at_call 24; refine (nsec_any _ n _ hn hn2 ?_).mono ?_; (simp); rintro e w' ⟨rfl, rfl⟩)
    | (go_at_call 25; refine (addSec_any _ (n + d.tmod 1000000000 - 1000000000) s _ _ k1 k2 hs hs2 ?_ ?_ ?_ ?_ ?_).mono ?_; omega; omega; (simp); (simp); (simp); rintro e w' ⟨rfl, rfl⟩))
  exact bodyPost_ret (v := .agg #[.int .u64 (n + d.tmod 1000000000 - 1000000000), .int .i64 (s + (d.tdiv 1000000000 + 1)), .pointer none]) (by simp [results, Try.results13, go_sem]) rfl ⟨rfl, ((Below.refl _ _).alloc (Nat.le_refl _) _).alloc (by simp) _⟩

set_option maxHeartbeats 400000 in
theorem add_lo (s n d : Int) (hn : 0 ≤ n) (hn2 : n < 1000000000) (hs : -1099511627776 ≤ s) (hs2 : s ≤ 1099511627776) (hd : -9223372036854775808 ≤ d) (hd2 : d ≤ 9223372036854775807)
    (h2 : n + d.tmod 1000000000 < 0) (w : World) :
    Calls Try.prog 13 #[.agg #[.int .u64 n, .int .i64 s, .pointer none], .int .i64 d] w fun e w' =>
      e = .returned (.agg #[.int .u64 (n + d.tmod 1000000000 + 1000000000), .int .i64 (s + (d.tdiv 1000000000 - 1)), .pointer none]) ∧ Below w.heap.size w w' := by
  obtain ⟨r0, r1, r2⟩ := quot_facts d
  have q1 : -9223372037 ≤ d.tdiv 1000000000 := by omega
  have q2 : d.tdiv 1000000000 ≤ 9223372037 := by omega
  clear r0
  have k1 : 0 ≤ n + d.tmod 1000000000 + 1000000000 := by omega
  have k2 : n + d.tmod 1000000000 + 1000000000 < 1000000000 := by omega
  have b2 := andNot_low n hn (by omega)
  have b3 := or_zero (n + d.tmod 1000000000 + 1000000000) k1 (by omega)
  have b4 := and_top (n + d.tmod 1000000000 + 1000000000) k1 (by omega)
  go_enter Try.func13, Try.ntmps13
  go_wp2_with (first
    | (go_at_call 24; refine (nsec_any _ n _ hn hn2 ?_).mono ?_; (simp); rintro e w' ⟨rfl, rfl⟩)
    | (go_at_call 25; refine (addSec_any _ (n + d.tmod 1000000000 + 1000000000) s _ _ k1 k2 hs hs2 ?_ ?_ ?_ ?_ ?_).mono ?_; omega; omega; (simp); (simp); (simp); rintro e w' ⟨rfl, rfl⟩))
  exact bodyPost_ret (v := .agg #[.int .u64 (n + d.tmod 1000000000 + 1000000000), .int .i64 (s + (d.tdiv 1000000000 - 1)), .pointer none]) (by simp [results, Try.results13, go_sem]) rfl ⟨rfl, ((Below.refl _ _).alloc (Nat.le_refl _) _).alloc (by simp) _⟩

/-- the time that lies m nanoseconds from the zero time: the nanoseconds and the seconds that Go keeps of it (plain definitions: the walk does not look into them) -/
def ns (m : Int) : Int := m % 1000000000
def sc (m : Int) : Int := m / 1000000000
theorem ns_lo (m : Int) : 0 ≤ ns m := by unfold ns; omega
theorem ns_hi (m : Int) : ns m < 1000000000 := by unfold ns; omega
theorem ns_eq {m n s : Int} (h0 : 0 ≤ n) (h1 : n < 1000000000) (h : s * 1000000000 + n = m) : n = ns m ∧ s = sc m := by
  unfold ns sc; omega
theorem ns_zero : ns 0 = 0 ∧ sc 0 = 0 := by decide
theorem ns_inj {a b : Int} (h : ns a = ns b) (h' : sc a = sc b) : a = b := by unfold ns sc at *; omega

theorem add_any (m d : Int) (hm : -73786976294838206464 ≤ m) (hm2 : m ≤ 73786976294838206464) (hd : -9223372036854775808 ≤ d) (hd2 : d ≤ 9223372036854775807) (w : World) :
    Calls Try.prog 13 #[.agg #[.int .u64 (ns m), .int .i64 (sc m), .pointer none], .int .i64 d] w fun e w' => e = .returned (.agg #[.int .u64 (ns (m + d)), .int .i64 (sc (m + d)), .pointer none]) ∧ Below w.heap.size w w' := by
  obtain ⟨r0, r1, r2⟩ := quot_facts d
  have n0 : 0 ≤ ns m := ns_lo m
  have n1 : ns m < 1000000000 := ns_hi m
  have e : sc m * 1000000000 + ns m = m := by unfold ns sc; omega
  have s0 : -1099511627776 ≤ sc m := by omega
  have s1 : sc m ≤ 1099511627776 := by omega
  by_cases h1 : ns m + d.tmod 1000000000 < 0
  · obtain ⟨e1, e2⟩ := ns_eq (m := m + d) (n := ns m + d.tmod 1000000000 + 1000000000) (s := sc m + (d.tdiv 1000000000 - 1)) (by omega) (by omega) (by omega)
    rw [← e1, ← e2]
    exact add_lo _ _ _ n0 n1 s0 s1 hd hd2 h1 w
  · by_cases h2 : ns m + d.tmod 1000000000 < 1000000000
    · obtain ⟨e1, e2⟩ := ns_eq (m := m + d) (n := ns m + d.tmod 1000000000) (s := sc m + (d.tdiv 1000000000)) (by omega) (by omega) (by omega)
      rw [← e1, ← e2]
      exact add_mid _ _ _ n0 n1 s0 s1 hd hd2 (by omega) h2 w
    · obtain ⟨e1, e2⟩ := ns_eq (m := m + d) (n := ns m + d.tmod 1000000000 - 1000000000) (s := sc m + (d.tdiv 1000000000 + 1)) (by omega) (by omega) (by omega)
      rw [← e1, ← e2]
      exact add_hi _ _ _ n0 n1 s0 s1 hd hd2 (by omega) w

theorem add_zero (d : Int) (hd : -9223372036854775808 ≤ d) (hd2 : d ≤ 9223372036854775807) (w : World) :
    Calls Try.prog 13 #[.agg #[.int .u64 0, .int .i64 0, .pointer none], .int .i64 d] w fun e w' => e = .returned (.agg #[.int .u64 (ns d), .int .i64 (sc d), .pointer none]) ∧ Below w.heap.size w w' := by
  have h := add_any 0 d (by omega) (by omega) hd hd2 w
  rw [Int.zero_add, ns_zero.1, ns_zero.2] at h
  exact h

/-- consentB1Time -/
theorem time_any (d : Int) (hd : -9223372036854775808 ≤ d) (hd2 : d ≤ 9223372036854775807) (w : World) :
    Calls Try.prog 9 #[.int .i64 d] w fun e w' => e = .returned (.agg #[.int .u64 (ns d), .int .i64 (sc d), .pointer none]) ∧ Below w.heap.size w w' := by
  go_enter Try.func9, Try.ntmps9
  go_wp2_with (go_at_call 13; refine (add_zero d hd hd2 _).mono ?_; rintro e w' ⟨rfl, hb⟩; obtain ⟨hc, hf⟩ := bcell hb)
  refine bodyPost_ret (v := .agg #[.int .u64 (ns d), .int .i64 (sc d), .pointer none]) ?_ rfl ⟨rfl, ?_⟩
  · simp [results, Try.results9, go_sem, hc]
  · exact (((((Below.refl _ _).alloc (Nat.le_refl _) _).trans (hb.mono (by simp))).setCell (Nat.le_refl _) _).setCell (Nat.le_refl _) _).setCell (Nat.le_refl _) _

/-- (time.Time).IsZero -/
theorem isZero_any (m : Int) (w : World) :
    Calls Try.prog 27 #[.agg #[.int .u64 (ns m), .int .i64 (sc m), .pointer none]] w fun e w' => e = .returned (.bool (decide (m = 0))) ∧ Below w.heap.size w w' := by
  go_enter Try.func27, Try.ntmps27
  go_wp2
  · go_ret
    refine ⟨ret_bool ?_, (Below.refl _ _).alloc (Nat.le_refl _) _⟩
    have h : ns m = 0 := by assumption
    rw [Bool.eq_iff_iff, beq_iff_eq, decide_eq_true_eq]
    unfold ns sc at *
    omega
  · go_ret
    refine ⟨ret_bool ?_, (Below.refl _ _).alloc (Nat.le_refl _) _⟩
    have h : ¬ ns m = 0 := by assumption
    rw [decide_eq_false]
    intro h0
    subst h0
    exact h rfl

/-- (time.Time).Before -/
theorem before_any (a b : Int) (w : World) :
    Calls Try.prog 21 #[.agg #[.int .u64 (ns a), .int .i64 (sc a), .pointer none], .agg #[.int .u64 (ns b), .int .i64 (sc b), .pointer none]] w fun e w' => e = .returned (.bool (decide (a < b))) ∧ Below w.heap.size w w' := by
  have a0 := ns_lo a
  have a1 := ns_hi a
  have b0 := ns_lo b
  have b1 := ns_hi b
  have ea : Hid (sc a * 1000000000 + ns a = a) := by show _ = _; unfold ns sc; omega
  have eb : Hid (sc b * 1000000000 + ns b = b) := by show _ = _; unfold ns sc; omega
  have hm : bits .and .u64 (bits .and .u64 (ns a) (ns b)) 9223372036854775808 = 0 := by
    obtain ⟨x, hx⟩ := Int.eq_ofNat_of_zero_le a0
    obtain ⟨y, hy⟩ := Int.eq_ofNat_of_zero_le b0
    rw [hx, hy, bits_and_u64_nat x y (by omega) (by omega)]
    have hle : x &&& y ≤ x := Nat.and_le_left
    exact and_top _ (by omega) (by omega)
  rcases (by omega : sc a < sc b ∨ sc a = sc b ∨ sc b < sc a) with h | h | h
  · have q1 : decide (sc a < sc b) = true := decide_eq_true h
    have HR : Hid (decide (a < b) = true) := decide_eq_true (by have := ea.out; have := eb.out; omega)
    go_enter Try.func21, Try.ntmps21
    go_wp2_with fail
    refine (sec_any _ (ns a) (sc a) _ a0 a1 (by simp) (by simp)).mono ?_
    rintro e w' ⟨rfl, rfl⟩
    go_wp2_with fail
    refine (sec_any _ (ns b) (sc b) _ b0 b1 (by simp) (by simp)).mono ?_
    rintro e w' ⟨rfl, rfl⟩
    go_wp2
    go_ret
    exact ⟨ret_bool HR.out.symm, ((Below.refl _ _).alloc (Nat.le_refl _) _).alloc (by simp) _⟩
  · have q1 : decide (sc a < sc b) = false := decide_eq_false (by omega)
    have q2 : (sc a == sc b) = true := beq_iff_eq.2 h
    have HR : Hid (decide (a < b) = decide (ns a < ns b)) := by
      show _ = _
      have := ea.out; have := eb.out; rw [Bool.eq_iff_iff]; simp only [decide_eq_true_eq]; omega
    clear h
    go_enter Try.func21, Try.ntmps21
    go_wp2_with fail
    refine (sec_any _ (ns a) (sc a) _ a0 a1 (by simp) (by simp)).mono ?_
    rintro e w' ⟨rfl, rfl⟩
    go_wp2_with fail
    refine (sec_any _ (ns b) (sc b) _ b0 b1 (by simp) (by simp)).mono ?_
    rintro e w' ⟨rfl, rfl⟩
    go_wp2_with fail
    refine (nsec_any _ (ns a) _ a0 a1 (by simp)).mono ?_
    rintro e w' ⟨rfl, rfl⟩
    go_wp2_with fail
    refine (nsec_any _ (ns b) _ b0 b1 (by simp)).mono ?_
    rintro e w' ⟨rfl, rfl⟩
    go_wp2
    go_ret
    exact ⟨ret_bool HR.out.symm, ((Below.refl _ _).alloc (Nat.le_refl _) _).alloc (by simp) _⟩
  · have q1 : decide (sc a < sc b) = false := decide_eq_false (by omega)
    have q2 : (sc a == sc b) = false := beq_eq_false_iff_ne.2 (by omega)
    have HR : Hid (decide (a < b) = false) := decide_eq_false (by have := ea.out; have := eb.out; omega)
    go_enter Try.func21, Try.ntmps21
    go_wp2_with fail
    refine (sec_any _ (ns a) (sc a) _ a0 a1 (by simp) (by simp)).mono ?_
    rintro e w' ⟨rfl, rfl⟩
    go_wp2_with fail
    refine (sec_any _ (ns b) (sc b) _ b0 b1 (by simp) (by simp)).mono ?_
    rintro e w' ⟨rfl, rfl⟩
    go_wp2
    go_ret
    exact ⟨ret_bool HR.out.symm, ((Below.refl _ _).alloc (Nat.le_refl _) _).alloc (by simp) _⟩

end Go.Proofs.Qxb6629324a
