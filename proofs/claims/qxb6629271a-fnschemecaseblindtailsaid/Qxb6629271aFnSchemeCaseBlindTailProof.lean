/-
  THE PROOF of 'Rows.FnSchemeCaseBlindTailSaid': the walk by the contracts of Qxb6629271aWalksA, Qxb6629271aWalksB and the plain law of Qxb6629271aPlain; the row's step by the guide's template.
-/
import Derived.Test.Qxb6629271aRows
import Derived.WalkKit
import Derived.ProofKit
import Derived.OpenShut
import Derived.ShutString
import Derived.Test.Qxb6629271aWalksB
import Derived.WalkSpells
import Derived.Deep.RegionWith
namespace Go.Proofs.Qxb6629271a.fnSchemeCaseBlindTail
open Go.ChangeShapes Go.WideShapes Go.ChangeAt Go.RowKit
open Go.ChangeMaps (open_string shut_string)
set_option linter.unusedVariables false      -- a walk need not use every 'w<i>' (that an integer argument fits its kind)

theorem own : ownKnob Try.prog.godebug = none := by kernel_rfl

/-! ### STEP 1: THE WALK: the Go text returns true. 'Grown w w'': the world has at most new blocks (Derived/RowKit3.lean). Part the cases AHEAD of 'go_enter' where a test parts the walk; take each callee by a contract of your own. -/
theorem allTail_at (s : ByteArray) (b : Bool) (w : World) (hs : s.size ≤ maxLen) (h : allTail s.data.toList = b) : Calls Try.prog 8 #[.string s] w fun e w' => e = .returned (.bool b) ∧ w' = w := by
  rw [← h]; exact allTail_any s w hs
theorem zzvalid_at (s : ByteArray) (b : Bool) (w : World) (hs : s.size ≤ maxLen) (h : validL s.data.toList = b) : Calls Try.prog 6 #[.string s] w fun e w' => e = .returned (.bool b) ∧ Grown w w' := by
  rw [← h]; exact zzvalid_any s w hs
theorem z_data (a0 : ByteArray) : (({ data := #[122] } : ByteArray) ++ a0).data.toList = 122 :: a0.data.toList := by
  rw [ByteArray.data_append, Array.toList_append]
  rfl
theorem z_size (a0 : ByteArray) (h : a0.size ≤ 1048576) : (({ data := #[122] } : ByteArray) ++ a0).size ≤ maxLen := by
  have : (({ data := #[122] } : ByteArray) ++ a0).size = (({ data := #[122] } : ByteArray) ++ a0).data.toList.length := by rw [Array.length_toList]; rfl
  rw [this, z_data]; unfold maxLen; simp; omega
theorem swapped_size (a0 : ByteArray) : (swapped a0).size = a0.size := by
  show (a0.data.toList.map swp).toArray.size = _
  simp
theorem swapped_data (a0 : ByteArray) : (swapped a0).data.toList = a0.data.toList.map swp := by simp [swapped]

set_option maxHeartbeats 800000 in
theorem walk_short (a0 : ByteArray) (w0 : a0.size ≤ 1048576) (w : World) :
    Calls Try.prog 4 #[.string a0] w fun e w' => e = .returned (.bool true) ∧ Grown w w' := by
  have hb : decide (a0.size ≤ 1048576) = true := decide_eq_true w0
  have hsz := swapped_size a0
  have HM : Hid ((swapped a0).size ≤ maxLen) := by show _ ≤ _; rw [hsz]; unfold maxLen; omega
  clear hsz
  obtain ⟨V, HV⟩ : ∃ V, Hid (validL a0.data.toList = V) := ⟨_, rfl⟩
  obtain ⟨T, HT⟩ : ∃ V, Hid (allTail a0.data.toList = V) := ⟨_, rfl⟩
  have HS : Hid (validL (swapped a0).data.toList = V) := by show _ = _; rw [swapped_data, validL_swp]; exact HV.out
  have HZ : Hid (validL (({ data := #[122] } : ByteArray) ++ a0).data.toList = T) := by show _ = _; rw [z_data, validL_z]; exact HT.out
  obtain ⟨S, hS⟩ : ∃ S, S = swapped a0 := ⟨_, rfl⟩
  have HE : Hid (S = swapped a0) := hS
  rw [← hS] at HS HM
  clear hS
  cases V <;> cases T
  all_goals
    go_enter Try.func4, Try.ntmps4
    go_wp2_with (first
      | (go_at_call 9; refine (zzBytes1_any _ _ ?_).mono ?_; (unfold maxLen; omega); rintro e w' ⟨rfl, rfl⟩)
      | (go_at_call 8; refine (allTail_at _ _ _ ?_ HT.out).mono ?_; (unfold maxLen; omega); rintro e w' ⟨rfl, rfl⟩)
      | (go_at_call 10; refine (swap_any _ _ w0).mono ?_; rw [← HE.out]; rintro e w2 ⟨rfl, hg2⟩)
      | (go_at_call_of 6 (Value.string a0); refine (zzvalid_at _ _ _ ?_ HV.out).mono ?_; (unfold maxLen; omega); rintro e w1 ⟨rfl, hg1⟩)
      | (go_at_call_of 6 (Value.string S); refine (zzvalid_at _ _ _ HM.out HS.out).mono ?_; rintro e w3 ⟨rfl, hg3⟩)
      | (go_at_call_of 6 (Value.string (({ data := #[122] } : ByteArray) ++ a0)); refine (zzvalid_at _ _ _ (z_size a0 w0) HZ.out).mono ?_; rintro e w4 ⟨rfl, hg4⟩))
    go_ret
    exact ⟨rfl, grown_trans hg1 (grown_trans hg2 (grown_trans hg3 hg4))⟩

theorem walk (a0 : ByteArray) (w0 : a0.size ≤ maxLen) (w : World) :
    Calls Try.prog 4 #[.string a0] w fun e w' => e = .returned (.bool true) ∧ Grown w w' := by
  by_cases h : a0.size ≤ 1048576
  · exact walk_short a0 h w
  · have hb : decide (a0.size ≤ 1048576) = false := decide_eq_false h
    go_enter Try.func4, Try.ntmps4
    go_wp2_with (go_at_call 9; refine (zzBytes1_any _ _ w0).mono ?_; rintro e w' ⟨rfl, rfl⟩)
    go_ret
    exact ⟨rfl, Grown.refl _⟩

/-! ### THE ROW's STEP: WRITTEN OUT: LEAVE IT -/
set_option maxRecDepth 100000 in
theorem lifted (os : Os) (started : os.Started) (H : Type) (enc : TypeId × Value → H) :
    ReturnsInHanded {} Try.checked os 4 .any (Rows.fnSchemeCaseBlindTailSpec.pre6 enc Try.prog Try.f4 Rows.fnSchemeCaseBlindTailRow.domain false) (Rows.fnSchemeCaseBlindTailSpec.post enc Try.prog Try.f4 false true false false) := by
  refine returnsInHanded_of_change (C := Try.checked) own started (by kernel_rfl) Try.func4
    (ChangeSpec.witness6 (enc := enc) (C := Try.checked) false ⟨#[], #[.string ByteArray.empty], []⟩ 8 (by kernel_rfl) (by kernel_rfl) (by kernel_rfl) (by kernel_rfl)) ?_
  intro W base args ds gs before hval0 hW hcnd _
  have hval : ∀ (j : Nat) t v, Try.f4.params[j]? = some t → args[j]? = some v → Value.okWide Try.prog W .any base t v := hval0
  have hW' := hW
  obtain ⟨p, q, hA0, hV, rfl, hfz, hnd⟩ := hW
  have hA : DataW.TrodAll enc Try.prog W 0 (fun _ => true) true Try.f4.params.toList args.toList ds p := hA0
  rw [Try.params4] at hA hval
  obtain ⟨v0, vs0, d0, ds0, p0, q0, hargs, rfl, rfl, h0, r0⟩ := trodAll_cons hA
  obtain ⟨rfl, rfl, rfl⟩ := trodAll_nil r0
  obtain rfl : args = #[v0] := by cases args; simp_all
  obtain ⟨rfl, rfl⟩ := trodVars_none hV
  obtain ⟨a0, rfl, rfl, rfl, w0⟩ := open_string Try.underlying9 (hval 0 9 v0 rfl rfl) h0
  clear hA0 hval0
  simp only [List.append_nil] at hW'
  refine (walk a0 w0 W).mono fun e W' ⟨he, hg⟩ => ?_
  subst he
  exact ⟨_, rfl, post_of_same (pa := []) (pv := []) hW' (fun _ _ _ => (trodAll_cons_mk (shut_bool Try.underlying4 _) trodAll_mk0)) (fun sp _ => (trodAll_cons_mk (shut_string Try.underlying9 w0) trodAll_mk0)) (fun _ _ => rfl) rfl
    (hg.frame _) hg.2.1 (ok_one (by kernel_rfl) rfl (okWide_bool_mk Try.underlying4 _))⟩

theorem over : Rows.fnSchemeCaseBlindTailRow.holds Try.pinned (OpenSpec.ofChange Rows.fnSchemeCaseBlindTailSpec) :=
  OpenClaim.holds_of_wide 4 Try.f4 rfl rfl rfl rfl rfl rfl rfl ⟨rfl, rfl, rfl, rfl, rfl⟩ rfl rfl rfl rfl rfl (by kernel_rfl) Try.func4 (by kernel_rfl)
    (of_decide_eq_true (by kernel_rfl)) (by unfold Func.isWrapper; first | (rw [if_pos (by decide +kernel)]; kernel_rfl) | (rw [if_neg (by decide +kernel)]; exact ⟨rfl, rfl⟩))
    (fun os started H enc _ => lifted os started H enc)

/-- ████ THE STATEMENT ████ -/
theorem proved : Rows.FnSchemeCaseBlindTailSaid :=
  over
end Go.Proofs.Qxb6629271a.fnSchemeCaseBlindTail
