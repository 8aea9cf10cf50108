/-
  consentB1Blocking.
-/
import Derived.Test.Qxb6629324aPurp
namespace Go.Proofs.Qxb6629324a
open Go.ChangeShapes Go.WideShapes Go.ChangeAt Go.RowKit

/-- consentB1Blocking -/
theorem blockingB_any (x0 x1 x2 t : Int) (w : World) :
    Calls Try.prog 11 #[.agg #[.int .i64 x0, .int .i64 x1, .int .i64 x2], .int .i64 t] w fun e w' => e = .returned (.int .i64 (bw (x0 == 0) (x1 == 0) (x2 == 0) t)) ∧ Below w.heap.size w w' := by
  obtain ⟨B, HB⟩ : ∃ B, Hid (bw (x0 == 0) (x1 == 0) (x2 == 0) t = B) := ⟨_, rfl⟩
  rw [HB.out]
  cases h0 : (x0 == 0)
  · have HR : Hid (B = 0) := by show B = 0; rw [← HB.out, h0]; simp [bw]
    go_enter Try.func11, Try.ntmps11
    go_wp2
    go_ret
    exact ⟨ret_int HR.out.symm, (Below.refl _ _).alloc (Nat.le_refl _) _⟩
  · cases ht : (t == 0) <;> cases h1 : (x1 == 0) <;> cases ht1 : (t == 1) <;> cases h2 : (x2 == 0)
    all_goals
      have HR : Hid (B = bw true (x1 == 0) (x2 == 0) t) := by show B = _; rw [← HB.out, h0]
      rw [h1, h2] at HR
      have e0 := ht
      have e1 := ht1
      simp only [beq_iff_eq, beq_eq_false_iff_ne] at e0 e1
      first
      | (exfalso; omega)
      | (have HV : Hid (B = -1) := (by show B = -1; rw [HR.out]; simp [bw, e0, e1])
         clear e0 e1
         go_enter Try.func11, Try.ntmps11
         go_wp2
         go_ret
         exact ⟨ret_int HV.out.symm, (Below.refl _ _).alloc (Nat.le_refl _) _⟩)
      | (have HV : Hid (B = 1) := (by show B = 1; rw [HR.out]; simp [bw, e0])
         clear e0 e1
         go_enter Try.func11, Try.ntmps11
         go_wp2
         go_ret
         exact ⟨ret_int HV.out.symm, (Below.refl _ _).alloc (Nat.le_refl _) _⟩)
      | (have HV : Hid (B = 2) := (by show B = 2; rw [HR.out]; simp [bw, e1])
         clear e0 e1
         go_enter Try.func11, Try.ntmps11
         go_wp2
         go_ret
         exact ⟨ret_int HV.out.symm, (Below.refl _ _).alloc (Nat.le_refl _) _⟩)
end Go.Proofs.Qxb6629324a
