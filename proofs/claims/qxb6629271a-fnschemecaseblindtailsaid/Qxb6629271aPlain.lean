/-
  THE PLAIN LAW of the two scheme statements: no Go in sight. Bytes are read as integers 0 .. 255.
-/
namespace Go.Proofs.Qxb6629271a

/-- an ASCII letter -/
def letB (c : Int) : Bool := decide (97 ≤ c) && decide (c ≤ 122) || decide (65 ≤ c) && decide (c ≤ 90)
/-- a byte that may follow the first one -/
def tailB (c : Int) : Bool := letB c || (decide (48 ≤ c) && decide (c ≤ 57)) || decide (c = 43) || decide (c = 45) || decide (c = 46)

def allTail (l : List UInt8) : Bool := l.all fun c => tailB c.toNat
def validL : List UInt8 → Bool
  | [] => false
  | c :: r => letB c.toNat && allTail r

/-- what validScheme asks of the byte (or rune) c at place i -/
def okAt (i : Nat) (c : Int) : Bool := letB c || (decide (i ≠ 0) && tailB c)

theorem let_tail {c : Int} (h : letB c = true) : tailB c = true := by simp [tailB, h]
theorem tail_high {c : Int} (h : 128 ≤ c) : tailB c = false := by
  simp [tailB, letB]; omega
theorem let_high {c : Int} (h : 128 ≤ c) : letB c = false := by
  simp [letB]; omega
theorem okAt_high {i : Nat} {c : Int} (h : 128 ≤ c) : okAt i c = false := by
  simp [okAt, tail_high h, let_high h]
theorem okAt_succ (i : Nat) (c : Int) : okAt (i + 1) c = tailB c := by
  unfold okAt
  cases h : letB c
  · simp
  · simp [let_tail h]
theorem okAt_zero (c : Int) : okAt 0 c = letB c := by simp [okAt]

/-- the whole text, place by place -/
theorem validL_iff (l : List UInt8) : validL l = true ↔ l ≠ [] ∧ ∀ i (h : i < l.length), okAt i (l[i].toNat : Int) = true := by
  cases l with
  | nil => simp [validL]
  | cons c r =>
    simp only [validL, allTail, Bool.and_eq_true, List.all_eq_true, ne_eq, reduceCtorEq, not_false_eq_true, true_and]
    constructor
    · rintro ⟨h1, h2⟩ i hi
      cases i with
      | zero => simpa [okAt_zero] using h1
      | succ j =>
        rw [okAt_succ]
        exact h2 _ (by simp)
    · intro h
      refine ⟨by have h0 := h 0 (by simp); rw [okAt_zero] at h0; exact h0, fun x hx => ?_⟩
      obtain ⟨j, hj, rfl⟩ := List.getElem_of_mem hx
      have := h (j + 1) (by simpa using hj)
      rw [okAt_succ] at this
      simpa using this

/-- the cut: a text is a scheme exactly where its head is one and its rest is a tail -/
theorem validL_cut (l : List UInt8) (k : Nat) (h1 : 1 ≤ k) (h2 : k ≤ l.length) : validL l = (validL (l.take k) && validL (97 :: l.drop k)) := by
  cases l with
  | nil => simp at h2; omega
  | cons c r =>
    obtain ⟨j, rfl⟩ : ∃ j, k = j + 1 := ⟨k - 1, by omega⟩
    simp only [validL, List.take_succ_cons, List.drop_succ_cons, allTail]
    have e : letB ((97 : UInt8).toNat : Int) = true := by decide
    rw [e, Bool.true_and, Bool.and_assoc, ← List.all_append, List.take_append_drop]

/-- swapping one byte's case -/
def swp (c : UInt8) : UInt8 := if letB c.toNat then c ^^^ 32 else c
theorem swp_fin : ∀ n : Fin 256, letB (swp (UInt8.ofFin n)).toNat = letB (UInt8.ofFin n).toNat ∧ tailB (swp (UInt8.ofFin n)).toNat = tailB (UInt8.ofFin n).toNat := by decide +kernel
theorem letB_swp (c : UInt8) : letB (swp c).toNat = letB c.toNat := (swp_fin c.toFin).1
theorem tailB_swp (c : UInt8) : tailB (swp c).toNat = tailB c.toNat := (swp_fin c.toFin).2
theorem allTail_swp (l : List UInt8) : allTail (l.map swp) = allTail l := by
  simp [allTail, List.all_map, Function.comp_def, tailB_swp]
theorem validL_swp (l : List UInt8) : validL (l.map swp) = validL l := by
  cases l with
  | nil => rfl
  | cons c r => simp only [List.map_cons, validL, letB_swp, allTail_swp]
theorem validL_z (l : List UInt8) : validL (122 :: l) = allTail l := by
  have e : letB ((122 : UInt8).toNat : Int) = true := by decide
  simp only [validL, e, Bool.true_and]
end Go.Proofs.Qxb6629271a
