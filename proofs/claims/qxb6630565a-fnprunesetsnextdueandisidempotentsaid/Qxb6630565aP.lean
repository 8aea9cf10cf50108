/-
  setDue; slices.BinarySearch over the periods.
-/
import Derived.Test.Qxb6630565aO
namespace Go.Proofs.Qxb6630565a
open Go.ChangeShapes Go.WideShapes Go.ChangeAt Go.RowKit

/-- when Prune first has work -/
def dueOf : List Int → Int
  | [] => 18446744073709551615
  | p :: _ => p + 67108863
/-- the start of a period -/
def Per (p : Int) : Prop := 0 ≤ p ∧ p + 67108863 ≤ 18446744073709551615

theorem wrap_due (q : Int) (h : Per q) : IntKind.u64.wrap (IntKind.u64.wrap (q + 67108864) - 1) = q + 67108863 := by
  unfold Per at h
  rw [IntKind.wrap_u64, IntKind.wrap_u64]
  omega

set_option linter.unusedSimpArgs false in
set_option maxHeartbeats 2000000 in
theorem setDue_any (B S : Nat) (l0 l4 : Int) (I M : Nat) (cv pv : Value) (due : Int) (ps : List Int) (w : World) (hST : ST w S l0 l4 I M cv pv due) (hPR : RT 42 .u64 w B pv ps) (hper : ∀ p ∈ ps, Per p) :
    Calls Try.prog 21 #[.pointer (some ⟨S, 0, none⟩)] w fun e w' => e = .returned (.tuple #[]) ∧ ST w' S l0 l4 I M cv pv (dueOf ps) ∧ Fr (· = S) w w' := by
  have HS := hide hST
  have c9 : w.cell? ⟨S, 9, none⟩ = some pv := hST.cell 9
  have c10 : w.cell? ⟨S, 10, none⟩ = some (.int .u64 due) := hST.cell 10
  have z10 := hST.fro 10
  clear hST
  rcases hPR with ⟨rfl, rfl⟩ | ⟨P, o, cap, cur, rfl, hb, hg, hfit, hlc, hcm, hc⟩
  · go_enter Try.func21, Try.ntmps21
    go_wp2_with fail
    refine (store_any S 10 18446744073709551615 _ _ c10 z10).mono ?_
    rintro e w2 ⟨rfl, rfl⟩
    go_wp2
    first | go_end0 | refine bodyPost_ret (results_none rfl _ _ _) rfl ?_
    exact ⟨rfl, HS.out.set10 _, (Fr.refl (· = S) w).setCell (p := ⟨S, 10, none⟩) rfl _⟩
  · cases ps with
    | nil =>
      go_enter Try.func21, Try.ntmps21
      go_wp2_with fail
      refine (store_any S 10 18446744073709551615 _ _ c10 z10).mono ?_
      rintro e w2 ⟨rfl, rfl⟩
      go_wp2
      first | go_end0 | refine bodyPost_ret (results_none rfl _ _ _) rfl ?_
      exact ⟨rfl, HS.out.set10 _, (Fr.refl (· = S) w).setCell (p := ⟨S, 10, none⟩) rfl _⟩
    | cons q ps =>
      have cp : w.cell? ⟨P, o, none⟩ = some (.int .u64 q) := by
        have := hc 0 (by simp)
        rw [cell_row hg]
        simpa using this
      have HD : Hid (dueOf (q :: ps) = q + 67108863) := rfl
      obtain ⟨A, hA⟩ : ∃ A, IntKind.u64.wrap (q + 67108864) = A := ⟨_, rfl⟩
      obtain ⟨d, hd⟩ : ∃ d, q + 67108863 = d := ⟨_, rfl⟩
      have hAd : IntKind.u64.wrap (A - 1) = d := by
        rw [← hA, ← hd]
        exact wrap_due q (hper q (List.mem_cons_self ..))
      rw [hd] at HD
      obtain ⟨n, hn⟩ : ∃ n, (q :: ps).length = n := ⟨_, rfl⟩
      have hn0 : 0 < n := by rw [← hn]; simp
      have HPd : P ≠ S := by
        rintro rfl
        have h1 := HS.out
        unfold ST at h1
        rw [hg] at h1
        cases h1
      rw [hn] at c9 HS ⊢
      have hne : ¬ n = 0 := by omega
      have hni : ¬ ((n : Int) = 0) := by omega
      have HN := hide hn
      clear hn hc hper hlc hfit hd
      have k9 : (w.drew.setCell ⟨S, 10, none⟩ (.int .u64 d)).cell? ⟨S, 9, none⟩ = some (.slice (some ⟨P, o, none⟩) n cap) := (World.cell?_setCell_other _ _ _ _ (by simp)).trans c9
      have kp : (w.drew.setCell ⟨S, 10, none⟩ (.int .u64 d)).cell? ⟨P, o, none⟩ = some (.int .u64 q) := (World.cell?_setCell_other _ _ _ _ (by intro h; injection h with h1; exact HPd h1.symm)).trans cp
      go_enter Try.func21, Try.ntmps21
      go_upto_region 2 with fail
      refine wp_region_noPanic ?_
      refine wp_region_held_drew (S := (fun w' => w'.cell? ⟨S, 9, none⟩ = some (.slice (some ⟨P, o, none⟩) n cap) ∧ w'.cell? ⟨P, o, none⟩ = some (.int .u64 q))) (by kernel_rfl) ⟨c9, cp⟩ (fun hHeld => ?_)
      refine wpAnyH_take (i := 0) (v := .pointer (some ⟨S, 0, none⟩)) rfl (by kernel_rfl) (by kernel_rfl) (by kernel_rfl) (fun _ _ _ h => h) (Or.inl ⟨by kernel_rfl, fun wz _ => by go_simp⟩) hHeld ?_
      try simp only [Act.put, List.setIfInBounds_toArray, List.set_cons_zero, List.set_cons_succ]
      refine wpAnyH_take (i := 1) (v := .pointer (some ⟨S, 0, none⟩)) rfl (by kernel_rfl) (by kernel_rfl) (by kernel_rfl) (fun _ _ _ h => h) (Or.inl ⟨by kernel_rfl, fun wz _ => by go_simp⟩) hHeld ?_
      try simp only [Act.put, List.setIfInBounds_toArray, List.set_cons_zero, List.set_cons_succ]
      refine wpAnyH_take (i := 2) (v := .pointer (some ⟨S, 10, none⟩)) rfl (by kernel_rfl) (by kernel_rfl) (by kernel_rfl) (fun _ _ _ h => h) (Or.inl ⟨by kernel_rfl, fun wz _ => by go_simp⟩) hHeld ?_
      try simp only [Act.put, List.setIfInBounds_toArray, List.set_cons_zero, List.set_cons_succ]
      refine wpAnyH_take (i := 3) (v := .pointer (some ⟨S, 0, none⟩)) rfl (by kernel_rfl) (by kernel_rfl) (by kernel_rfl) (fun _ _ _ h => h) (Or.inl ⟨by kernel_rfl, fun wz _ => by go_simp⟩) hHeld ?_
      try simp only [Act.put, List.setIfInBounds_toArray, List.set_cons_zero, List.set_cons_succ]
      refine wpAnyH_take (i := 4) (v := .pointer (some ⟨S, 0, none⟩)) rfl (by kernel_rfl) (by kernel_rfl) (by kernel_rfl) (fun _ _ _ h => h) (Or.inl ⟨by kernel_rfl, fun wz _ => by go_simp⟩) hHeld ?_
      try simp only [Act.put, List.setIfInBounds_toArray, List.set_cons_zero, List.set_cons_succ]
      refine wpAnyH_take (i := 5) (v := .pointer (some ⟨S, 9, none⟩)) rfl (by kernel_rfl) (by kernel_rfl) (by kernel_rfl) (fun _ _ _ h => h) (Or.inl ⟨by kernel_rfl, fun wz _ => by go_simp⟩) hHeld ?_
      try simp only [Act.put, List.setIfInBounds_toArray, List.set_cons_zero, List.set_cons_succ]
      refine wpAnyH_take (i := 6) (v := .slice (some ⟨P, o, none⟩) n cap) rfl (by kernel_rfl) (by kernel_rfl) (by kernel_rfl) (fun _ _ _ h => h) (Or.inl ⟨by kernel_rfl, fun wz hz => by obtain ⟨h9, hp⟩ := hz; go_simp⟩) hHeld ?_
      try simp only [Act.put, List.setIfInBounds_toArray, List.set_cons_zero, List.set_cons_succ]
      refine wpAnyH_take (i := 7) (v := .pointer (some ⟨P, o, none⟩)) rfl (by kernel_rfl) (by kernel_rfl) (by kernel_rfl) (fun _ _ _ h => h) (Or.inl ⟨by kernel_rfl, fun wz _ => by go_simp⟩) hHeld ?_
      try simp only [Act.put, List.setIfInBounds_toArray, List.set_cons_zero, List.set_cons_succ]
      refine wpAnyH_take (i := 8) (v := .int .u64 q) rfl (by kernel_rfl) (by kernel_rfl) (by kernel_rfl) (fun _ _ _ h => h) (Or.inl ⟨by kernel_rfl, fun wz hz => by obtain ⟨h9, hp⟩ := hz; go_simp⟩) hHeld ?_
      try simp only [Act.put, List.setIfInBounds_toArray, List.set_cons_zero, List.set_cons_succ]
      refine wpAnyH_take (i := 9) (v := .int .u64 A) rfl (by kernel_rfl) (by kernel_rfl) (by kernel_rfl) (fun _ _ _ h => h) (Or.inl ⟨by kernel_rfl, fun wz _ => by go_simp⟩) hHeld ?_
      try simp only [Act.put, List.setIfInBounds_toArray, List.set_cons_zero, List.set_cons_succ]
      refine wpAnyH_take (i := 10) (v := .int .u64 d) rfl (by kernel_rfl) (by kernel_rfl) (by kernel_rfl) (fun _ _ _ h => h) (Or.inl ⟨by kernel_rfl, fun wz _ => by go_simp⟩) hHeld ?_
      try simp only [Act.put, List.setIfInBounds_toArray, List.set_cons_zero, List.set_cons_succ]
      refine wpAnyH_ready (rs := [11]) (by kernel_rfl) (by simp) ?_
      refine AllReadyH.cons rfl (fun KK hKK => ?_) AllReadyH.nil
      go_simp
      refine (store_any S 10 d _ w.drew c10 z10).mono ?_
      rintro e w2 ⟨rfl, rfl⟩
      refine hKK.out _ _ ⟨k9, kp⟩ (fun hHeld => ?_)
      clear hKK KK
      try simp only [Act.put, List.setIfInBounds_toArray, List.set_cons_zero, List.set_cons_succ]
      refine wpAnyH_done (by kernel_rfl) ?_ _
      refine NoPanic.normal ?_
      try simp only [List.getElem_toArray, List.getElem_cons_zero, List.getElem_cons_succ, Act.put, List.setIfInBounds_toArray, List.set_cons_zero, List.set_cons_succ]
      go_wp2
      first | go_end0 | refine bodyPost_ret (results_none rfl _ _ _) rfl ?_
      rw [HD.out]
      exact ⟨rfl, (HS.out.fr (Fr.refl (fun _ => False) w).drew (fun h => h)).set10 _, (Fr.refl (· = S) w).drew.setCell (p := ⟨S, 10, none⟩) rfl _⟩

theorem nan63 (x : Int) (w : World) : Calls Try.prog 63 #[.int .u64 x] w fun e w' => e = .returned (.bool false) ∧ w' = w := by
  go_enter Try.func63, Try.ntmps63
  go_wp2
  all_goals
    go_ret
    exact ⟨rfl, rfl⟩
theorem nan55 (x : Int) (w : World) : Calls Try.prog 55 #[.int .u64 x] w fun e w' => e = .returned (.bool false) ∧ w' = w := by
  go_enter Try.func55, Try.ntmps55
  go_wp2
  all_goals
    go_ret
    exact ⟨rfl, rfl⟩
theorem less_any (x y : Int) (w : World) : Calls Try.prog 54 #[.int .u64 x, .int .u64 y] w fun e w' => e = .returned (.bool (decide (x < y))) ∧ w' = w := by
  go_enter Try.func54, Try.ntmps54
  go_wp2_with (go_at_call 63; refine (nan63 _ _).mono ?_; rintro e w' ⟨rfl, rfl⟩)
  go_ret
  exact ⟨rfl, rfl⟩

/-- i of them are less than p -/
def Ins (ps : List Int) (p : Int) (i : Nat) : Prop := i ≤ ps.length ∧ (∀ j, j < i → ps.getD j 0 < p) ∧ ∀ j, i ≤ j → j < ps.length → p ≤ ps.getD j 0
def Sor (ps : List Int) : Prop := ∀ i j, i < j → j < ps.length → ps.getD i 0 < ps.getD j 0

def BSP (ps : List Int) (p : Int) (e : Ending) : Prop := ∃ (i : Nat) (b : Bool), e = .returned (.tuple #[.int .i64 i, .bool b]) ∧ Ins ps p i
theorem BSP.mk {ps : List Int} {p : Int} {i : Nat} {b : Bool} (h : Ins ps p i) : BSP ps p (.returned (.tuple #[.int .i64 i, .bool b])) := ⟨i, b, rfl, h⟩

set_option maxHeartbeats 2000000 in
theorem bs_any (B : Nat) (pv : Value) (ps : List Int) (p : Int) (w : World) (hPR : RT 42 .u64 w B pv ps) (hs : Sor ps) (hl : ps.length ≤ 1048576) :
    Calls Try.prog 32 #[pv, .int .u64 p] w fun e w' => BSP ps p e ∧ w' = w := by
  rcases hPR with ⟨rfl, rfl⟩ | ⟨P, o, cap, cur, rfl, hb, hg, hfit, hlc, hcm, hc⟩
  · go_enter Try.func32, Try.ntmps32
    go_wp2
    refine wp_loop_rounds 1 ?_
    rw [rounds_succ]
    go_wp2
    go_ret2
    exact ⟨BSP.mk (i := 0) ⟨Nat.le_refl _, fun j hj => by omega, fun j _ hj => by simp at hj⟩, rfl⟩
  · have HS := hide hs
    have HC : Hid (∀ j, j < ps.length → w.cell? ⟨P, o + j, none⟩ = some (.int .u64 (ps.getD j 0))) := fun j hj => (cell_row hg _).trans (hc j hj)
    obtain ⟨n, hn⟩ : ∃ n, ps.length = n := ⟨_, rfl⟩
    have HN := hide hn
    rw [hn] at hl ⊢
    clear hs hc hn hg hfit hlc
    go_enter Try.func32, Try.ntmps32
    go_wp2
    go_loop [7, 8] (fun l r => ∃ lo hi : Nat, l = .int .i64 lo ∧ r = .int .i64 hi ∧ lo ≤ hi ∧ hi ≤ n ∧ Hid ((∀ j, j < lo → ps.getD j 0 < p) ∧ ∀ j, hi ≤ j → j < n → p ≤ ps.getD j 0)) (fun l r => (intOf r).toNat - (intOf l).toNat)
    case atStart => exact ⟨0, n, rfl, rfl, by omega, by omega, ⟨fun j hj => by omega, fun j h1 h2 => by omega⟩⟩
    case round =>
      obtain ⟨lo, hi, rfl, rfl, hlh, hhn, HP⟩ := hrel
      by_cases hlt : lo < hi
      · have hmn : (lo + hi) / 2 < n := by omega
        have g0 := HC.out ((lo + hi) / 2) (by rw [HN.out]; exact hmn)
        obtain ⟨y, hy⟩ : ∃ y, Hid (ps.getD ((lo + hi) / 2) 0 = y) := ⟨_, rfl⟩
        rw [hy.out] at g0
        go_wp2_with fail
        refine (less_any _ _ _).mono ?_
        rintro e w ⟨rfl, rfl⟩
        by_cases hyp : y < p
        · have hd : decide (y < p) = true := decide_eq_true hyp
          go_wp2
          refine ⟨⟨(lo + hi) / 2 + 1, hi, by go_num, rfl, by omega, by omega, fun j hj => ?_, HP.out.2⟩, by simp only [intOf]; omega⟩
          rcases Nat.lt_or_ge j ((lo + hi) / 2) with h1 | h1
          · have := HS.out j _ h1 (by rw [HN.out]; exact hmn)
            rw [hy.out] at this
            omega
          · rw [show j = (lo + hi) / 2 by omega, hy.out]
            exact hyp
        · have hd : decide (y < p) = false := decide_eq_false hyp
          go_wp2
          refine ⟨⟨lo, (lo + hi) / 2, rfl, by go_num, by omega, by omega, HP.out.1, fun j h1 h2 => ?_⟩, by simp only [intOf]; omega⟩
          rcases Nat.lt_or_ge ((lo + hi) / 2) j with h3 | h3
          · have := HS.out _ j h3 (by rw [HN.out]; exact h2)
            rw [hy.out] at this
            omega
          · rw [show j = (lo + hi) / 2 by omega, hy.out]
            omega
      · obtain rfl : lo = hi := by omega
        have HI : Hid (Ins ps p lo) := ⟨by rw [HN.out]; exact hhn, HP.out.1, by rw [HN.out]; exact HP.out.2⟩
        by_cases hln : lo < n
        · have g0 := HC.out lo (by rw [HN.out]; exact hln)
          obtain ⟨y, hy⟩ : ∃ y, Hid (ps.getD lo 0 = y) := ⟨_, rfl⟩
          rw [hy.out] at g0
          by_cases hyp : y = p
          · subst hyp
            go_wp2
            all_goals
              go_ret2
              exact ⟨BSP.mk HI.out, rfl⟩
          · go_wp2_with (go_at_call 55; refine (nan55 _ _).mono ?_; rintro e w' ⟨rfl, rfl⟩)
            all_goals
              go_ret2
              exact ⟨BSP.mk HI.out, rfl⟩
        · go_wp2
          go_ret2
          exact ⟨BSP.mk HI.out, rfl⟩
end Go.Proofs.Qxb6630565a
