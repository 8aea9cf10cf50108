/-
  THE PROOF of 'Rows.FnSchemeCutSaid': the walk by the contracts of Qxb6629271aWalksA, Qxb6629271aWalksB and the plain law of Qxb6629271aPlain; the row's step by the guide's template.
-/
import Derived.Test.Qxb6629271aRows
import Derived.WalkKit
import Derived.ProofKit
import Derived.OpenShut
import Derived.ShutString
import Derived.Test.Qxb6629271aWalksB
import Derived.WalkSpells
import Derived.Deep.RegionWith
namespace Go.Proofs.Qxb6629271a.fnSchemeCut
open Go.ChangeShapes Go.WideShapes Go.ChangeAt Go.RowKit
open Go.ChangeMaps (open_string shut_string)
set_option linter.unusedVariables false      -- a walk need not use every 'w<i>' (that an integer argument fits its kind)

theorem own : ownKnob Try.prog.godebug = none := by kernel_rfl

/-! ### STEP 1: THE WALK: the Go text returns true. 'Grown w w'': the world has at most new blocks (Derived/RowKit3.lean). Part the cases AHEAD of 'go_enter' where a test parts the walk; take each callee by a contract of your own. -/
theorem letter_at (c : UInt8) (b : Bool) (w : World) (h : letB c.toNat = b) : Calls Try.prog 7 #[.int .u8 c.toNat] w fun e w' => e = .returned (.bool b) ∧ w' = w := by
  rw [← h]; exact letter_any c w
theorem allTail_at (s : ByteArray) (b : Bool) (w : World) (hs : s.size ≤ maxLen) (h : allTail s.data.toList = b) : Calls Try.prog 8 #[.string s] w fun e w' => e = .returned (.bool b) ∧ w' = w := by
  rw [← h]; exact allTail_any s w hs
theorem zzvalid_at (s : ByteArray) (b : Bool) (w : World) (hs : s.size ≤ maxLen) (h : validL s.data.toList = b) : Calls Try.prog 6 #[.string s] w fun e w' => e = .returned (.bool b) ∧ Grown w w' := by
  rw [← h]; exact zzvalid_any s w hs

theorem rest_data (a0 : ByteArray) (m : Nat) : (({ data := #[97] } : ByteArray) ++ a0.extract m a0.size).data.toList = 97 :: a0.data.toList.drop m := by
  rw [ByteArray.data_append, Array.toList_append, Lib.extract_data]
  rw [List.take_of_length_le (by simp)]
  rfl
theorem head_data (a0 : ByteArray) (m : Nat) : (a0.extract 0 m).data.toList = a0.data.toList.take m := by
  rw [Lib.extract_data]; simp
theorem tail_data (a0 : ByteArray) (m : Nat) : (a0.extract m a0.size).data.toList = a0.data.toList.drop m := by
  rw [Lib.extract_data]; rw [List.take_of_length_le (by simp)]
theorem rest_size (a0 : ByteArray) (m : Nat) (h : a0.size ≤ 1048576) : (({ data := #[97] } : ByteArray) ++ a0.extract m a0.size).size ≤ maxLen := by
  have : (({ data := #[97] } : ByteArray) ++ a0.extract m a0.size).size = (({ data := #[97] } : ByteArray) ++ a0.extract m a0.size).data.toList.length := by rw [Array.length_toList]; rfl
  rw [this, rest_data]; unfold maxLen; simp; omega
/-- what the law's own text asks of the whole -/
theorem want_data (a0 : ByteArray) (h : 0 < a0.size) : validL a0.data.toList = (letB a0[0].toNat && allTail (a0.extract 1 a0.size).data.toList) := by
  rw [tail_data]
  have e : a0.data.toList = a0[0] :: a0.data.toList.drop 1 := by
    conv => lhs; rw [← List.drop_zero (l := a0.data.toList), List.drop_eq_getElem_cons (by simpa using h)]
    rfl
  rw [e]
  simp [validL]

set_option maxHeartbeats 1600000 in
theorem walk_in (a0 : ByteArray) (m : Nat) (w0 : a0.size ≤ 1048576) (h1 : 1 ≤ m) (h2 : m ≤ a0.size) (w : World) :
    Calls Try.prog 3 #[.string a0, .int .i64 m] w fun e w' => e = .returned (.bool true) ∧ Grown w w' := by
  have hb : decide (a0.size ≤ 1048576) = true := decide_eq_true w0
  have hp : 0 < a0.size := by omega
  obtain ⟨V, HV⟩ : ∃ V, Hid (validL a0.data.toList = V) := ⟨_, rfl⟩
  obtain ⟨L, HL⟩ : ∃ L : Bool, Hid (letB ((a0[0]'hp).toNat : Int) = L) := ⟨_, rfl⟩
  obtain ⟨T, HT⟩ : ∃ V, Hid (allTail (a0.extract 1 a0.size).data.toList = V) := ⟨_, rfl⟩
  obtain ⟨A, HA⟩ : ∃ V, Hid (validL (a0.extract 0 m).data.toList = V) := ⟨_, rfl⟩
  obtain ⟨R, HR⟩ : ∃ V, Hid (validL (({ data := #[97] } : ByteArray) ++ a0.extract m a0.size).data.toList = V) := ⟨_, rfl⟩
  have e1 : V = (L && T) := by rw [← HV.out, ← HL.out, ← HT.out]; exact want_data a0 hp
  have e2 : V = (A && R) := by rw [← HV.out, ← HA.out, ← HR.out, head_data, rest_data]; exact validL_cut _ m h1 (by simpa using h2)
  have q1 : decide ((1 : Int) ≤ (m : Int)) = true := decide_eq_true (by omega)
  cases L <;> cases T <;> cases A <;> cases R <;> simp at e1 e2 <;> (try subst e1) <;> (try (exact absurd e2 (by decide)))
  all_goals
    clear e2
    go_enter Try.func3, Try.ntmps3
    go_wp2_with (first
      | (go_at_call 5; refine (zzBytes_any _ _ _ ?_).mono ?_; (unfold maxLen; omega); rintro e w' ⟨rfl, rfl⟩)
      | (go_at_call 7; refine (letter_at _ _ _ HL.out).mono ?_; rintro e w' ⟨rfl, rfl⟩)
      | (go_at_call 8; refine (allTail_at _ _ _ ?_ HT.out).mono ?_; (unfold maxLen; simp; omega); rintro e w' ⟨rfl, rfl⟩)
      | (go_at_call_of 6 (Value.string a0); refine (zzvalid_at _ _ _ ?_ HV.out).mono ?_; (unfold maxLen; omega); rintro e w1 ⟨rfl, hg1⟩)
      | (go_at_call_of 6 (Value.string (a0.extract 0 m)); refine (zzvalid_at _ _ _ ?_ HA.out).mono ?_; (unfold maxLen; simp; omega); rintro e w2 ⟨rfl, hg2⟩)
      | (go_at_call_of 6 (Value.string (({ data := #[97] } : ByteArray) ++ a0.extract m a0.size)); refine (zzvalid_at _ _ _ (rest_size a0 m w0) HR.out).mono ?_; rintro e w3 ⟨rfl, hg3⟩))
    go_ret
    exact ⟨rfl, grown_trans hg1 (grown_trans hg2 hg3)⟩

set_option maxHeartbeats 800000 in
/-- no cut: the whole alone -/
theorem walk_out (a0 : ByteArray) (a1 : Int) (w0 : a0.size ≤ 1048576) (hp : 0 < a0.size) (h : a1 < 1 ∨ (a0.size : Int) < a1) (w : World) :
    Calls Try.prog 3 #[.string a0, .int .i64 a1] w fun e w' => e = .returned (.bool true) ∧ Grown w w' := by
  have hb : decide (a0.size ≤ 1048576) = true := decide_eq_true w0
  obtain ⟨V, HV⟩ : ∃ V, Hid (validL a0.data.toList = V) := ⟨_, rfl⟩
  obtain ⟨L, HL⟩ : ∃ L : Bool, Hid (letB ((a0[0]'hp).toNat : Int) = L) := ⟨_, rfl⟩
  obtain ⟨T, HT⟩ : ∃ V, Hid (allTail (a0.extract 1 a0.size).data.toList = V) := ⟨_, rfl⟩
  have e1 : V = (L && T) := by rw [← HV.out, ← HL.out, ← HT.out]; exact want_data a0 hp
  rcases h with h | h
  · have q1 : decide ((1 : Int) ≤ a1) = false := decide_eq_false (by omega)
    cases L <;> cases T <;> simp at e1 <;> subst e1
    all_goals
      go_enter Try.func3, Try.ntmps3
      go_wp2_with (first
        | (go_at_call 5; refine (zzBytes_any _ _ _ ?_).mono ?_; (unfold maxLen; omega); rintro e w' ⟨rfl, rfl⟩)
        | (go_at_call 7; refine (letter_at _ _ _ HL.out).mono ?_; rintro e w' ⟨rfl, rfl⟩)
        | (go_at_call 8; refine (allTail_at _ _ _ ?_ HT.out).mono ?_; (unfold maxLen; simp; omega); rintro e w' ⟨rfl, rfl⟩)
        | (go_at_call_of 6 (Value.string a0); refine (zzvalid_at _ _ _ ?_ HV.out).mono ?_; (unfold maxLen; omega); rintro e w1 ⟨rfl, hg1⟩))
      go_ret
      exact ⟨rfl, hg1⟩
  · have q1 : decide ((1 : Int) ≤ a1) = true := decide_eq_true (by omega)
    have q2 : decide (a1 ≤ (a0.size : Int)) = false := decide_eq_false (by omega)
    cases L <;> cases T <;> simp at e1 <;> subst e1
    all_goals
      go_enter Try.func3, Try.ntmps3
      go_wp2_with (first
        | (go_at_call 5; refine (zzBytes_any _ _ _ ?_).mono ?_; (unfold maxLen; omega); rintro e w' ⟨rfl, rfl⟩)
        | (go_at_call 7; refine (letter_at _ _ _ HL.out).mono ?_; rintro e w' ⟨rfl, rfl⟩)
        | (go_at_call 8; refine (allTail_at _ _ _ ?_ HT.out).mono ?_; (unfold maxLen; simp; omega); rintro e w' ⟨rfl, rfl⟩)
        | (go_at_call_of 6 (Value.string a0); refine (zzvalid_at _ _ _ ?_ HV.out).mono ?_; (unfold maxLen; omega); rintro e w1 ⟨rfl, hg1⟩))
      go_ret
      exact ⟨rfl, hg1⟩

/-- the empty text -/
theorem walk_empty (a0 : ByteArray) (a1 : Int) (hp : a0.size = 0) (w : World) :
    Calls Try.prog 3 #[.string a0, .int .i64 a1] w fun e w' => e = .returned (.bool true) ∧ Grown w w' := by
  have hs : a0.size ≤ 1048576 := by omega
  have hb : decide (a0.size ≤ 1048576) = true := decide_eq_true hs
  have HV : Hid (validL a0.data.toList = false) := by
    show _ = _
    have : a0.data.toList = [] := List.eq_nil_of_length_eq_zero (by simpa using hp)
    rw [this]; rfl
  have hd : decide ((0 : Int) < (a0.size : Int)) = false := decide_eq_false (by omega)
  have h0 : ¬ 0 < a0.size := by omega
  have HP : Hid (a0.size = 0) := hp
  clear hp
  by_cases h1 : 1 ≤ a1
  · have q1 : decide ((1 : Int) ≤ a1) = true := decide_eq_true (by omega)
    have q2 : decide (a1 ≤ (a0.size : Int)) = false := decide_eq_false (by omega)
    go_enter Try.func3, Try.ntmps3
    go_wp2_with (first
      | (go_at_call 5; refine (zzBytes_any _ _ _ ?_).mono ?_; (unfold maxLen; omega); rintro e w' ⟨rfl, rfl⟩)
      | (go_at_call_of 6 (Value.string a0); refine (zzvalid_at _ _ _ ?_ HV.out).mono ?_; (unfold maxLen; omega); rintro e w1 ⟨rfl, hg1⟩))
    go_ret
    exact ⟨rfl, hg1⟩
  · have q1 : decide ((1 : Int) ≤ a1) = false := decide_eq_false (by omega)
    go_enter Try.func3, Try.ntmps3
    go_wp2_with (first
      | (go_at_call 5; refine (zzBytes_any _ _ _ ?_).mono ?_; (unfold maxLen; omega); rintro e w' ⟨rfl, rfl⟩)
      | (go_at_call_of 6 (Value.string a0); refine (zzvalid_at _ _ _ ?_ HV.out).mono ?_; (unfold maxLen; omega); rintro e w1 ⟨rfl, hg1⟩))
    go_ret
    exact ⟨rfl, hg1⟩

/-- too long -/
theorem walk_long (a0 : ByteArray) (a1 : Int) (w0 : a0.size ≤ maxLen) (h : ¬ a0.size ≤ 1048576) (w : World) :
    Calls Try.prog 3 #[.string a0, .int .i64 a1] w fun e w' => e = .returned (.bool true) ∧ Grown w w' := by
  have hb : decide (a0.size ≤ 1048576) = false := decide_eq_false h
  go_enter Try.func3, Try.ntmps3
  go_wp2_with (go_at_call 5; refine (zzBytes_any _ _ _ w0).mono ?_; rintro e w' ⟨rfl, rfl⟩)
  go_ret
  exact ⟨rfl, Grown.refl _⟩

theorem walk (a0 : ByteArray) (a1 : Int) (w0 : a0.size ≤ maxLen) (w1 : (Lit.int .i64 a1).wf = true) (w : World) :
    Calls Try.prog 3 #[.string a0, .int .i64 a1] w fun e w' => e = .returned (.bool true) ∧ Grown w w' := by
  by_cases h : a0.size ≤ 1048576
  · by_cases hp : 0 < a0.size
    · by_cases hk : 1 ≤ a1 ∧ a1 ≤ (a0.size : Int)
      · obtain ⟨m, rfl⟩ : ∃ m : Nat, a1 = (m : Int) := ⟨a1.toNat, by omega⟩
        exact walk_in a0 m h (by omega) (by omega) w
      · exact walk_out a0 a1 h hp (by omega) w
    · exact walk_empty a0 a1 (by omega) w
  · exact walk_long a0 a1 w0 h w

/-! ### THE ROW's STEP: WRITTEN OUT: LEAVE IT -/
set_option maxRecDepth 100000 in
theorem lifted (os : Os) (started : os.Started) (H : Type) (enc : TypeId × Value → H) :
    ReturnsInHanded {} Try.checked os 3 .any (Rows.fnSchemeCutSpec.pre6 enc Try.prog Try.f3 Rows.fnSchemeCutRow.domain false) (Rows.fnSchemeCutSpec.post enc Try.prog Try.f3 false true false false) := by
  refine returnsInHanded_of_change (C := Try.checked) own started (by kernel_rfl) Try.func3
    (ChangeSpec.witness6 (enc := enc) (C := Try.checked) false ⟨#[], #[.string ByteArray.empty, .int .i64 0], []⟩ 8 (by kernel_rfl) (by kernel_rfl) (by kernel_rfl) (by kernel_rfl)) ?_
  intro W base args ds gs before hval0 hW hcnd _
  have hval : ∀ (j : Nat) t v, Try.f3.params[j]? = some t → args[j]? = some v → Value.okWide Try.prog W .any base t v := hval0
  have hW' := hW
  obtain ⟨p, q, hA0, hV, rfl, hfz, hnd⟩ := hW
  have hA : DataW.TrodAll enc Try.prog W 0 (fun _ => true) true Try.f3.params.toList args.toList ds p := hA0
  rw [Try.params3] at hA hval
  obtain ⟨v0, vs0, d0, ds0, p0, q0, hargs, rfl, rfl, h0, r0⟩ := trodAll_cons hA
  obtain ⟨v1, vs1, d1, ds1, p1, q1, rfl, rfl, rfl, h1, r1⟩ := trodAll_cons r0
  obtain ⟨rfl, rfl, rfl⟩ := trodAll_nil r1
  obtain rfl : args = #[v0, v1] := by cases args; simp_all
  obtain ⟨rfl, rfl⟩ := trodVars_none hV
  obtain ⟨a0, rfl, rfl, rfl, w0⟩ := open_string Try.underlying9 (hval 0 9 v0 rfl rfl) h0
  obtain ⟨a1, rfl, rfl, rfl, w1⟩ := open_int Try.underlying3 (hval 1 3 v1 rfl rfl) h1
  clear hA0 hval0
  simp only [List.append_nil] at hW'
  refine (walk a0 a1 w0 w1 W).mono fun e W' ⟨he, hg⟩ => ?_
  subst he
  exact ⟨_, rfl, post_of_same (pa := []) (pv := []) hW' (fun _ _ _ => (trodAll_cons_mk (shut_bool Try.underlying4 _) trodAll_mk0)) (fun sp _ => (trodAll_cons_mk (shut_string Try.underlying9 w0) (trodAll_cons_mk (shut_int Try.underlying3 w1) trodAll_mk0))) (fun _ _ => rfl) rfl
    (hg.frame _) hg.2.1 (ok_one (by kernel_rfl) rfl (okWide_bool_mk Try.underlying4 _))⟩

theorem over : Rows.fnSchemeCutRow.holds Try.pinned (OpenSpec.ofChange Rows.fnSchemeCutSpec) :=
  OpenClaim.holds_of_wide 3 Try.f3 rfl rfl rfl rfl rfl rfl rfl ⟨rfl, rfl, rfl, rfl, rfl⟩ rfl rfl rfl rfl rfl (by kernel_rfl) Try.func3 (by kernel_rfl)
    (of_decide_eq_true (by kernel_rfl)) (by unfold Func.isWrapper; first | (rw [if_pos (by decide +kernel)]; kernel_rfl) | (rw [if_neg (by decide +kernel)]; exact ⟨rfl, rfl⟩))
    (fun os started H enc _ => lifted os started H enc)

/-- ████ THE STATEMENT ████ -/
theorem proved : Rows.FnSchemeCutSaid :=
  over
end Go.Proofs.Qxb6629271a.fnSchemeCut
