/-
  THE WALKS shared by the two scheme statements: each Go function computes its plain twin (Qxb6629271aPlain.lean).
-/
import Derived.Test.Qxb6629271aRows
import Derived.Test.Qxb6629271aPlain
import Derived.WalkKit
import Derived.WalkLawsBesides
import Derived.ProofKit
import Derived.Deep.Light
import Derived.Lib.Strings
namespace Go.Proofs.Qxb6629271a
open Go.ChangeShapes Go.WideShapes Go.ChangeAt Go.RowKit

theorem ret_bool {a b : Bool} (h : a = b) : Ending.returned (.bool a) = .returned (.bool b) := by rw [h]

theorem or_fin : ∀ n : Fin 256, letB (n.val : Int) = (decide (97 ≤ bits .or .u8 (n.val : Int) 32) && decide (bits .or .u8 (n.val : Int) 32 ≤ 122)) := by decide +kernel
theorem or_u8 (c : UInt8) : letB (c.toNat : Int) = (decide (97 ≤ bits .or .u8 (c.toNat : Int) 32) && decide (bits .or .u8 (c.toNat : Int) 32 ≤ 122)) := or_fin c.toFin

theorem letter_any (c : UInt8) (w : World) :
    Calls Try.prog 7 #[.int .u8 c.toNat] w fun e w' => e = .returned (.bool (letB c.toNat)) ∧ w' = w := by
  go_enter Try.func7, Try.ntmps7
  go_wp2
  · go_ret
    exact ⟨ret_bool (by rw [or_u8, decide_eq_true (p := 97 ≤ _) ‹_›, Bool.true_and]), rfl⟩
  · go_ret
    exact ⟨ret_bool (by rw [or_u8, decide_eq_false (by omega), Bool.false_and]), rfl⟩

theorem tail_any (c : UInt8) (w : World) :
    Calls Try.prog 12 #[.int .u8 c.toNat] w fun e w' => e = .returned (.bool (tailB c.toNat)) ∧ w' = w := by
  cases hl : letB c.toNat
  · go_enter Try.func12, Try.ntmps12
    go_wp2_with (go_at_call 7; refine (letter_any _ _).mono ?_; rintro e w' ⟨rfl, rfl⟩)
    all_goals
      go_ret
      refine ⟨ret_bool ?_, rfl⟩
      go_light
      first
      | decide
      | (rw [Bool.eq_iff_iff]; simp only [tailB, hl, Bool.or_eq_true, Bool.and_eq_true, decide_eq_true_eq, beq_iff_eq, Bool.false_eq_true, true_iff, false_or]; omega)
  · go_enter Try.func12, Try.ntmps12
    go_wp2_with (go_at_call 7; refine (letter_any _ _).mono ?_; rintro e w' ⟨rfl, rfl⟩)
    go_ret
    exact ⟨ret_bool (by simp [tailB, hl]), rfl⟩

theorem zzBytes_any (s : ByteArray) (k : Int) (w : World) (hs : s.size ≤ maxLen) :
    Calls Try.prog 5 #[.string s, .int .i64 k] w fun e w' => e = .returned (.bool (decide (s.size ≤ 1048576))) ∧ w' = w := by
  unfold maxLen at hs
  go_enter Try.func5, Try.ntmps5
  go_wp2
  all_goals
    go_ret
    exact ⟨ret_bool (by simp; omega), rfl⟩

theorem zzBytes1_any (s : ByteArray) (w : World) (hs : s.size ≤ maxLen) :
    Calls Try.prog 9 #[.string s] w fun e w' => e = .returned (.bool (decide (s.size ≤ 1048576))) ∧ w' = w := by
  unfold maxLen at hs
  go_enter Try.func9, Try.ntmps9
  go_wp2
  all_goals
    go_ret
    exact ⟨ret_bool (by simp; omega), rfl⟩

set_option maxHeartbeats 400000 in
theorem allTail_any (s : ByteArray) (w : World) (hs : s.size ≤ maxLen) :
    Calls Try.prog 8 #[.string s] w fun e w' => e = .returned (.bool (allTail s.data.toList)) ∧ w' = w := by
  unfold maxLen at hs
  go_enter Try.func8, Try.ntmps8
  go_wp2
  go_loop [3] (fun i => ∃ k : Nat, k ≤ s.size ∧ i = .int .i64 k ∧ Hid (allTail (s.data.toList.take k) = true)) (fun i => s.size - (intOf i).toNat)
  case atStart => exact ⟨0, Nat.zero_le _, rfl, rfl⟩
  case round =>
    obtain ⟨k, hk, rfl, H⟩ := hrel
    by_cases hlt : k < s.size
    · have hts : s.data.toList.take (k + 1) = s.data.toList.take k ++ [s[k]] := by
        rw [List.take_succ_eq_append_getElem (by simpa using hlt)]; rfl
      have HS : Hid (allTail (s.data.toList.take (k + 1)) = tailB s[k].toNat) := by
        show _ = _
        rw [hts]; have := H.out; simp only [allTail, List.all_append, List.all_cons, List.all_nil] at this ⊢; simp [this]
      clear hts
      have HM : Hid (s[k] ∈ s.data.toList) := by
        show _ ∈ _
        exact List.getElem_mem (l := s.data.toList) (n := k) (by simpa using hlt)
      cases ht : tailB s[k].toNat
      · go_wp2_with (go_at_call 12; refine (tail_any _ _).mono ?_; rintro e w' ⟨rfl, rfl⟩)
        go_ret
        exact ⟨ret_bool (by
          rw [eq_comm, Bool.eq_false_iff]
          intro hc
          simp only [allTail, List.all_eq_true] at hc
          have := hc _ HM.out
          rw [ht] at this
          exact Bool.noConfusion this), rfl⟩
      · go_wp2_with (go_at_call 12; refine (tail_any _ _).mono ?_; rintro e w' ⟨rfl, rfl⟩)
        go_round
        case rel => exact ⟨k + 1, by omega, by go_num, by rw [ht] at HS; exact HS⟩
        case measure => simp [intOf]; omega
    · go_wp2
      go_ret
      exact ⟨ret_bool (by have := H.out; rw [List.take_of_length_le (by simp; omega)] at this; exact this.symm), rfl⟩

theorem okAt_pos {i : Nat} {c : Int} (h : ¬ i = 0) : okAt i c = tailB c := by
  obtain ⟨j, rfl⟩ : ∃ j, i = j + 1 := ⟨i - 1, by omega⟩
  exact okAt_succ j c
theorem data_get (s : ByteArray) (i : Nat) (_h : i < s.size) (h' : i < s.data.toList.length) : s.data.toList[i] = s[i] := rfl
/-- a rune that validScheme turns down: the text is no scheme -/
theorem bad_at (s : ByteArray) (pos r d : Nat) (hp : pos < s.size) (hd : Utf8.decode s pos = (r, d)) (h : okAt pos (r : Int) = false) : false = validL s.data.toList := by
  rw [eq_comm, Bool.eq_false_iff]
  intro hv
  have hg := ((validL_iff _).1 hv).2 pos (by simpa using hp)
  rw [data_get s pos hp] at hg
  by_cases ha : (s[pos]'hp).toNat < 128
  · have e := decode_ascii s pos hp ha
    rw [hd] at e
    simp only [Prod.mk.injEq] at e
    rw [← e.1, h] at hg
    exact Bool.noConfusion hg
  · rw [okAt_high (by omega)] at hg
    exact Bool.noConfusion hg
/-- a rune that it takes is one byte -/
theorem good_at (s : ByteArray) (pos r d : Nat) (hp : pos < s.size) (hd : Utf8.decode s pos = (r, d)) (h : okAt pos (r : Int) = true) : d = 1 ∧ okAt pos (s[pos].toNat : Int) = true := by
  by_cases ha : (s[pos]'hp).toNat < 128
  · have e := decode_ascii s pos hp ha
    rw [hd] at e
    simp only [Prod.mk.injEq] at e
    exact ⟨e.2, by rw [← e.1]; exact h⟩
  · have e := decode_high s pos hp (by omega)
    rw [hd] at e
    rw [okAt_high (by simp at e; omega)] at h
    exact Bool.noConfusion h
theorem good_end (s : ByteArray) (pos : Nat) (hp : ¬ pos < s.size) (H : ∀ i (h : i < s.size), i < pos → okAt i (s[i].toNat : Int) = true) : validL s.data.toList = !s.toList.isEmpty := by
  rw [Lib.toList_data]
  by_cases h0 : s.data.toList = []
  · simp [h0, validL]
  · have e : validL s.data.toList = true := (validL_iff _).2 ⟨h0, fun i hi => by rw [data_get s i (by simpa using hi)]; exact H i (by simpa using hi) (by simp at hi; have : s.data.size = s.size := rfl; omega)⟩
    rw [e]
    simpa using h0
theorem rel_next (s : ByteArray) (pos : Nat) (hp : pos < s.size) (g : okAt pos (s[pos].toNat : Int) = true) (H : ∀ i (h : i < s.size), i < pos → okAt i (s[i].toNat : Int) = true) : ∀ i (h : i < s.size), i < pos + 1 → okAt i (s[i].toNat : Int) = true := by
  intro i h hi
  by_cases e : i = pos
  · subst e; exact g
  · exact H i h (by omega)

set_option maxHeartbeats 1000000 in
theorem valid_any (s : ByteArray) (w : World) (hs : s.size ≤ maxLen) :
    Calls Try.prog 11 #[.string s] w fun e w' => e = .returned (.bool (validL s.data.toList)) ∧ ∃ pos, w' = w.iter s pos := by
  unfold maxLen at hs
  go_enter Try.func11, Try.ntmps11
  go_wp2
  go_loopw [2] (fun _ w' => ∃ pos : Nat, w' = w.iter s pos ∧ pos ≤ s.size ∧ Hid (∀ i (h : i < s.size), i < pos → okAt i (s[i].toNat : Int) = true)) (fun _ w' => s.size - w'.iterPos w.heap.size)
  case atStart => exact ⟨0, rfl, Nat.zero_le _, fun i h hi => by omega⟩
  case round =>
    obtain ⟨pos, rfl, hps, H⟩ := hrel
    by_cases hp : pos < s.size
    · obtain ⟨r, d, hrd⟩ : ∃ r d, Utf8.decode s pos = (r, d) := ⟨_, _, rfl⟩
      have hnx : ∀ ty, (Instr.next (.pointer (some ⟨w.heap.size, 0, none⟩)) true ty).run Try.prog (w.iter s pos) = .ok (.tuple #[.bool true, .int .i64 pos, .int .i32 r]) (w.iter s (pos + d)) := fun ty => by
        have := run_next_any (P := Try.prog) w s pos ty hp
        rw [hrd] at this
        exact this
      have HD : Hid (Utf8.decode s pos = (r, d)) := hrd
      clear hrd
      by_cases hp0 : pos = 0
      · subst hp0
        rw [Nat.zero_add] at hnx
        rcases (by omega : r < 65 ∨ (65 ≤ r ∧ r ≤ 90) ∨ (91 ≤ r ∧ r ≤ 96) ∨ (97 ≤ r ∧ r ≤ 122) ∨ 123 ≤ r) with hr | hr | hr | hr | hr
        all_goals
          first | have q1 : decide ((97 : Int) ≤ (r : Int)) = true := decide_eq_true (by omega) | have q1 : decide ((97 : Int) ≤ (r : Int)) = false := decide_eq_false (by omega)
          first | have q2 : decide ((r : Int) ≤ 122) = true := decide_eq_true (by omega) | have q2 : decide ((r : Int) ≤ 122) = false := decide_eq_false (by omega)
          first | have q3 : decide ((65 : Int) ≤ (r : Int)) = true := decide_eq_true (by omega) | have q3 : decide ((65 : Int) ≤ (r : Int)) = false := decide_eq_false (by omega)
          first | have q4 : decide ((r : Int) ≤ 90) = true := decide_eq_true (by omega) | have q4 : decide ((r : Int) ≤ 90) = false := decide_eq_false (by omega)
          go_wp2
          first
          | (go_ret; exact ⟨ret_bool (bad_at s 0 r d hp HD.out (by go_light; simp only [okAt, tailB, letB, *]; rfl)), _, rfl⟩)
          | (obtain ⟨rfl, hg⟩ := good_at s 0 r d hp HD.out (by go_light; simp only [okAt, tailB, letB, *]; rfl)
             go_roundw
             case rel => exact ⟨1, rfl, by omega, rel_next s 0 hp hg H.out⟩
             case measure => go_light; simp; omega)
      · have p0 : ((pos : Int) == 0) = false := beq_eq_false_iff_ne.2 (by omega)
        rcases (by omega : r < 43 ∨ (43 ≤ r ∧ r ≤ 43) ∨ (44 ≤ r ∧ r ≤ 44) ∨ (45 ≤ r ∧ r ≤ 45) ∨ (46 ≤ r ∧ r ≤ 46) ∨ (47 ≤ r ∧ r ≤ 47) ∨ (48 ≤ r ∧ r ≤ 57) ∨ (58 ≤ r ∧ r ≤ 64) ∨ (65 ≤ r ∧ r ≤ 90) ∨ (91 ≤ r ∧ r ≤ 96) ∨ (97 ≤ r ∧ r ≤ 122) ∨ 123 ≤ r) with hr | hr | hr | hr | hr | hr | hr | hr | hr | hr | hr | hr
        all_goals
          first | have q1 : decide ((97 : Int) ≤ (r : Int)) = true := decide_eq_true (by omega) | have q1 : decide ((97 : Int) ≤ (r : Int)) = false := decide_eq_false (by omega)
          first | have q2 : decide ((r : Int) ≤ 122) = true := decide_eq_true (by omega) | have q2 : decide ((r : Int) ≤ 122) = false := decide_eq_false (by omega)
          first | have q3 : decide ((65 : Int) ≤ (r : Int)) = true := decide_eq_true (by omega) | have q3 : decide ((65 : Int) ≤ (r : Int)) = false := decide_eq_false (by omega)
          first | have q4 : decide ((r : Int) ≤ 90) = true := decide_eq_true (by omega) | have q4 : decide ((r : Int) ≤ 90) = false := decide_eq_false (by omega)
          first | have q5 : decide ((48 : Int) ≤ (r : Int)) = true := decide_eq_true (by omega) | have q5 : decide ((48 : Int) ≤ (r : Int)) = false := decide_eq_false (by omega)
          first | have q6 : decide ((r : Int) ≤ 57) = true := decide_eq_true (by omega) | have q6 : decide ((r : Int) ≤ 57) = false := decide_eq_false (by omega)
          first | have q7 : ((r : Int) == 43) = true := beq_iff_eq.2 (by omega) | have q7 : ((r : Int) == 43) = false := beq_eq_false_iff_ne.2 (by omega)
          first | have q8 : ((r : Int) == 45) = true := beq_iff_eq.2 (by omega) | have q8 : ((r : Int) == 45) = false := beq_eq_false_iff_ne.2 (by omega)
          first | have q9 : ((r : Int) == 46) = true := beq_iff_eq.2 (by omega) | have q9 : ((r : Int) == 46) = false := beq_eq_false_iff_ne.2 (by omega)
          go_wp2
          first
          | (go_ret; exact ⟨ret_bool (bad_at s pos r d hp HD.out (by rw [okAt_pos hp0]; go_light; simp only [tailB, letB, *]; simp; try omega)), _, rfl⟩)
          | (obtain ⟨rfl, hg⟩ := good_at s pos r d hp HD.out (by rw [okAt_pos hp0]; go_light; simp only [tailB, letB, *]; simp; try omega)
             go_roundw
             case rel => exact ⟨pos + 1, rfl, by omega, rel_next s pos hp hg H.out⟩
             case measure => go_light; simp; omega)
    · have hnx : ∀ ty, (Instr.next (.pointer (some ⟨w.heap.size, 0, none⟩)) true ty).run Try.prog (w.iter s pos) = _ := fun ty => run_next_end w s pos ty hp
      go_wp2
      go_ret
      go_light
      exact ⟨ret_bool (good_end s pos hp H.out).symm, _, rfl⟩
end Go.Proofs.Qxb6629271a
