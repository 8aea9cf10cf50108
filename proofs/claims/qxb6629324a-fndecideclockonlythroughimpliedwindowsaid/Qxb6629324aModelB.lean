/-
  consentB1Model, consentB1RecordDecides, consentB1LessSum.
-/
import Derived.Test.Qxb6629324aLawEnv
namespace Go.Proofs.Qxb6629324a
open Go.ChangeShapes Go.WideShapes Go.ChangeAt Go.RowKit

set_option maxHeartbeats 400000 in
theorem modelB_any (nm lb ch : ByteArray) (ty md : Int) (smsP : Option Addr) (ta : Option Addr) (tl tc : Nat) (hrsP : Option Addr) (sms : Option Int) (w : World) (hp : PtrIs w smsP sms) :
    Calls Try.prog 14 #[.agg #[.string nm, .string lb, .int .i64 ty, .int .i64 md, .pointer smsP, .slice ta tl tc, .pointer hrsP], .string ch] w fun e w' =>
      e = .returned (.int .i64 (mdl ty md sms (emailB ch))) ∧ Below w.heap.size w w' := by
  obtain ⟨em, HE⟩ : ∃ em, Hid (emailB ch = em) := ⟨_, rfl⟩
  rw [HE.out]
  have qe : (ch.toList == [101, 109, 97, 105, 108]) = em := HE.out
  by_cases h2 : ty = 2
  · have q : (ty == 2) = true := beq_iff_eq.2 h2
    have HR : Hid (mdl ty md sms em = md) := by show _ = _; simp [mdl, h2]
    clear h2
    go_enter Try.func14, Try.ntmps14
    go_wp2
    go_ret
    exact ⟨ret_int HR.out.symm, (Below.refl _ _).alloc (Nat.le_refl _) _⟩
  · have q : (ty == 2) = false := beq_eq_false_iff_ne.2 h2
    cases em
    · rcases hp with ⟨rfl, rfl⟩ | ⟨b, off, v, rfl, rfl, hlt, hcell⟩
      · by_cases h1 : md = 1
        · have HR : Hid (mdl ty md none false = 0) := by show _ = _; simp [mdl, h2, h1]
          have q1 : (md == 1) = true := beq_iff_eq.2 h1
          clear h2 h1
          go_enter Try.func14, Try.ntmps14
          go_wp2
          go_ret
          exact ⟨ret_int HR.out.symm, (Below.refl _ _).alloc (Nat.le_refl _) _⟩
        · have HR : Hid (mdl ty md none false = md) := by show _ = _; simp [mdl, h2, h1]
          have q1 : (md == 1) = false := beq_eq_false_iff_ne.2 h1
          clear h2 h1
          go_enter Try.func14, Try.ntmps14
          go_wp2
          go_ret
          exact ⟨ret_int HR.out.symm, (Below.refl _ _).alloc (Nat.le_refl _) _⟩
      · have HR : Hid (mdl ty md (some v) false = v) := by show _ = _; simp [mdl, h2]
        clear h2
        go_enter Try.func14, Try.ntmps14
        go_wp2
        go_ret
        exact ⟨ret_int HR.out.symm, (Below.refl _ _).alloc (Nat.le_refl _) _⟩
    · have HR : Hid (mdl ty md sms true = md) := by show _ = _; simp [mdl]
      clear h2
      go_enter Try.func14, Try.ntmps14
      go_wp2
      go_ret
      exact ⟨ret_int HR.out.symm, (Below.refl _ _).alloc (Nat.le_refl _) _⟩

/-- does a record decide -/
def rdB (ps ts : Int) : Bool := ps == 2 || (if ts = 0 then ps else ts) == 1 || (if ts = 0 then ps else ts) == 2
theorem recDecides_any (ps ts : Int) (w : World) : Calls Try.prog 15 #[.int .i64 ps, .int .i64 ts] w fun e w' => e = .returned (.bool (rdB ps ts)) ∧ w' = w := by
  obtain ⟨R, HR⟩ : ∃ R, Hid (rdB ps ts = R) := ⟨_, rfl⟩
  rw [HR.out]
  cases h : (ps == 2)
  · cases h0 : (ts == 0)
    · cases h1 : (ts == 1)
      · have hv : Hid (R = (ts == 2)) := by show R = _; rw [← HR.out]; have := beq_eq_false_iff_ne.1 h0; simp [rdB, h, h1, this]
        go_enter Try.func15, Try.ntmps15
        go_wp2
        go_ret
        exact ⟨ret_bool hv.out.symm, rfl⟩
      · have hv : Hid (R = true) := by show R = _; rw [← HR.out]; have := beq_eq_false_iff_ne.1 h0; simp [rdB, h1, this]
        go_enter Try.func15, Try.ntmps15
        go_wp2
        go_ret
        exact ⟨ret_bool hv.out.symm, rfl⟩
    · cases h1 : (ps == 1)
      · have hv : Hid (R = false) := by show R = _; rw [← HR.out]; have := beq_iff_eq.1 h0; simp [rdB, h, h1, this]
        go_enter Try.func15, Try.ntmps15
        go_wp2
        go_ret
        exact ⟨ret_bool hv.out.symm, rfl⟩
      · have hv : Hid (R = true) := by show R = _; rw [← HR.out]; have := beq_iff_eq.1 h0; simp [rdB, h1, this]
        go_enter Try.func15, Try.ntmps15
        go_wp2
        go_ret
        exact ⟨ret_bool hv.out.symm, rfl⟩
  · have hv : Hid (R = true) := by show R = _; rw [← HR.out]; simp [rdB, h]
    go_enter Try.func15, Try.ntmps15
    go_wp2
    go_ret
    exact ⟨ret_bool hv.out.symm, rfl⟩

/-- a < b + c over the integers -/
theorem lessSum_any (a b c : Int) (w : World) (ha1 : -9223372036854775808 ≤ a) (ha2 : a ≤ 9223372036854775807) (hb1 : -9223372036854775808 ≤ b) (hb2 : b ≤ 9223372036854775807) (hc1 : -9223372036854775808 ≤ c) (hc2 : c ≤ 9223372036854775807) :
    Calls Try.prog 16 #[.int .i64 a, .int .i64 b, .int .i64 c] w fun e w' => e = .returned (.bool (decide (a < b + c))) ∧ w' = w := by
  by_cases h : 0 ≤ c
  · by_cases h1 : 9223372036854775807 - c < b
    · have HR : Hid (decide (a < b + c) = true) := decide_eq_true (by omega)
      go_enter Try.func16, Try.ntmps16
      go_wp2
      go_ret
      exact ⟨ret_bool HR.out.symm, rfl⟩
    · have k1 : -9223372036854775808 ≤ b + c := by omega
      have k2 : b + c ≤ 9223372036854775807 := by omega
      go_enter Try.func16, Try.ntmps16
      go_wp2
      go_ret
      exact ⟨rfl, rfl⟩
  · by_cases h1 : b < -9223372036854775808 - c
    · have HR : Hid (decide (a < b + c) = false) := decide_eq_false (by omega)
      go_enter Try.func16, Try.ntmps16
      go_wp2
      go_ret
      exact ⟨ret_bool HR.out.symm, rfl⟩
    · have k1 : -9223372036854775808 ≤ b + c := by omega
      have k2 : b + c ≤ 9223372036854775807 := by omega
      go_enter Try.func16, Try.ntmps16
      go_wp2
      go_ret
      exact ⟨rfl, rfl⟩
end Go.Proofs.Qxb6629324a
