/-
  THE WALKS of slices.BinarySearchFunc over Dates, of TradingDays.After, of ZZnewTradingDays.
-/
import Derived.Test.Qxb6630672aWalksA
import Derived.Deep.DeepCutAuto
import Derived.Deep.RegionHeld3
namespace Go.Proofs.Qxb6630672a
open Go.ChangeShapes Go.WideShapes Go.ChangeAt Go.RowKit

/-- the search's answer: all below p are less than d, all from p on are not -/
def Parts (zs : List Int) (d : Int) (p : Nat) : Prop := p ≤ zs.length ∧ (∀ i, i < p → zs.getD i 0 < d) ∧ ∀ i, p ≤ i → i < zs.length → d ≤ zs.getD i 0
/-- strictly ascending -/
def Asc (zs : List Int) : Prop := ∀ i j, i < j → j < zs.length → zs.getD i 0 < zs.getD j 0

/-- what is known of the row of Dates -/
def DRow (g : Nat) (zs : List Int) (w : World) : Prop := ∀ i, i < zs.length → w.cell? ⟨g, i, none⟩ = some (.int .i64 (zs.getD i 0))

theorem DRow.step {g : Nat} {zs : List Int} {w w' : World} {B : Nat} (h : DRow g zs w) (hg : g < B) (b : Below B w w') : DRow g zs w' := fun i hi => (b.cell (p := ⟨g, i, none⟩) hg).trans (h i hi)

theorem cmp_lt (x y : Int) : decide (cmpI x y < 0) = decide (x < y) := by unfold cmpI; split <;> (try split) <;> simp_all
theorem cmp_eq (x y : Int) : (cmpI x y == 0) = (x == y) := by unfold cmpI; rw [Bool.eq_iff_iff]; split <;> (try split) <;> simp <;> omega

set_option linter.unusedSimpArgs false in
set_option maxHeartbeats 2000000 in
theorem search_any (g : Nat) (zs : List Int) (d : Int) (w : World) (hasc : Asc zs) (hg : g < w.heap.size) (hbig : zs.length ≤ 1048576) (hc : DRow g zs w) :
    Calls Try.prog 12 #[.slice (some ⟨g, 0, none⟩) zs.length zs.length, .agg #[.int .i64 d], .func (.func 13) #[] #[]] w fun e w' =>
      (∃ p : Nat, e = .returned (.tuple #[.int .i64 p, .bool (decide (p < zs.length) && (zs.getD p 0 == d))]) ∧ Parts zs d p) ∧ Below w.heap.size w w' := by
  obtain ⟨n, hn⟩ : ∃ n, n = zs.length := ⟨_, rfl⟩
  rw [← hn] at hbig ⊢
  have Hn : Hid (n = zs.length) := hn
  clear hn
  have HA : Hid (Asc zs) := hasc
  clear hasc
  go_enter Try.func12, Try.ntmps12
  go_wp2
  go_loopw [9, 10] (fun l h wr => ∃ lo hi : Nat, l = .int .i64 lo ∧ h = .int .i64 hi ∧ lo ≤ hi ∧ hi ≤ n ∧ Below (w.heap.size + 1) (w.alloc (.cells #[.int .i64 d] 29)) wr ∧
      Hid ((∀ i, i < lo → zs.getD i 0 < d) ∧ ∀ i, hi ≤ i → i < n → d ≤ zs.getD i 0)) (fun l h _ => (intOf h).toNat - (intOf l).toNat)
  case atStart => exact ⟨0, n, rfl, rfl, by omega, by omega, Below.refl _ _, ⟨fun i hi => by omega, fun i h1 h2 => by omega⟩⟩
  case round =>
    obtain ⟨lo, hi, rfl, rfl, hlh, hhn, hbw, HP⟩ := hrel
    have HB : Hid (Below (w.heap.size + 1) (w.alloc (.cells #[.int .i64 d] 29)) wr) := hbw
    have hbox : wr.cell? ⟨w.heap.size, 0, none⟩ = some (.int .i64 d) := (hbw.cell (p := ⟨w.heap.size, 0, none⟩) (by simp)).trans (by simp)
    have HW : Hid (Below w.heap.size w wr) := ((Below.refl _ w).alloc (Nat.le_refl _) _).trans (hbw.mono (by omega))
    have hrow : DRow g zs wr := hc.step hg HW.out
    have HC : Hid (DRow g zs w) := hc
    clear hbw hc
    have hsz := HB.out.size
    simp at hsz
    have hg2 : g < wr.heap.size := by omega
    have hw2 : w.heap.size < wr.heap.size := by omega
    clear hsz
    by_cases hlt : lo < hi
    · obtain ⟨m, hm⟩ : ∃ m : Nat, m = (lo + hi) / 2 := ⟨_, rfl⟩
      have hmi : Hid (((lo : Int) + hi) / 2 = (m : Int)) := by show _ = _; omega
      have hm1 : lo ≤ m := by omega
      have hm2 : m < hi := by omega
      have hmn : m < n := by omega
      have hcell : wr.cell? ⟨g, m, none⟩ = some (.int .i64 (zs.getD m 0)) := hrow _ (by have := Hn.out; omega)
      clear hrow hm
      generalize hy : zs.getD m 0 = y at hcell
      have Y : Hid (zs.getD m 0 = y) := hy
      clear hy
      go_upto_region 5 with fail
      rw [hmi.out]
      clear hmi
      have hmI : (m : Int) < n := by omega
      go_cut [31] (fun s wx => s = .bool (decide (y < d)) ∧ Below wr.heap.size wr wx)
      case first =>
        refine wp_region_noPanic ?_
        refine wp_region_held_drew (S := (fun w' => w'.cell? ⟨g, m, none⟩ = some (.int .i64 y) ∧ w'.cell? ⟨w.heap.size, 0, none⟩ = some (.int .i64 d))) (by kernel_rfl) ⟨hcell, hbox⟩ (fun hHeld => ?_)
        refine wpAnyH_take (i := 0) (v := .func (.func 13) #[] #[]) rfl (by kernel_rfl) (by kernel_rfl) (by kernel_rfl) (fun _ _ _ h => h) (Or.inl ⟨by kernel_rfl, fun wz _ => by go_simp⟩) hHeld ?_
        try simp only [Act.put, List.setIfInBounds_toArray, List.set_cons_zero, List.set_cons_succ]
        refine wpAnyH_take (i := 1) (v := .slice (some ⟨g, 0, none⟩) n n) rfl (by kernel_rfl) (by kernel_rfl) (by kernel_rfl) (fun _ _ _ h => h) (Or.inl ⟨by kernel_rfl, fun wz _ => by go_simp⟩) hHeld ?_
        try simp only [Act.put, List.setIfInBounds_toArray, List.set_cons_zero, List.set_cons_succ]
        refine wpAnyH_take (i := 2) (v := .int .i64 m) rfl (by kernel_rfl) (by kernel_rfl) (by kernel_rfl) (fun _ _ _ h => h) (Or.inl ⟨by kernel_rfl, fun wz _ => by go_simp⟩) hHeld ?_
        try simp only [Act.put, List.setIfInBounds_toArray, List.set_cons_zero, List.set_cons_succ]
        refine wpAnyH_take (i := 3) (v := .pointer (some ⟨g, m, none⟩)) rfl (by kernel_rfl) (by kernel_rfl) (by kernel_rfl) (fun _ _ _ h => h) (Or.inl ⟨by kernel_rfl, fun wz _ => by go_simp⟩) hHeld ?_
        try simp only [Act.put, List.setIfInBounds_toArray, List.set_cons_zero, List.set_cons_succ]
        refine wpAnyH_take (i := 4) (v := .agg #[.int .i64 y]) rfl (by kernel_rfl) (by kernel_rfl) (by kernel_rfl) (fun _ _ _ h => h) (Or.inl ⟨by kernel_rfl, fun wz hz => by have h1 := hz.1; have h2 := hz.2; go_simp⟩) hHeld ?_
        try simp only [Act.put, List.setIfInBounds_toArray, List.set_cons_zero, List.set_cons_succ]
        refine wpAnyH_take (i := 5) (v := .agg #[.int .i64 d]) rfl (by kernel_rfl) (by kernel_rfl) (by kernel_rfl) (fun _ _ _ h => h) (Or.inl ⟨by kernel_rfl, fun wz hz => by have h1 := hz.1; have h2 := hz.2; go_simp⟩) hHeld ?_
        try simp only [Act.put, List.setIfInBounds_toArray, List.set_cons_zero, List.set_cons_succ]
        refine wpAnyH_ready (rs := [6]) (by kernel_rfl) (by simp) ?_
        refine AllReadyH.cons rfl (fun K hK => ?_) AllReadyH.nil
        go_simp
        refine (compare_any _ _ _).mono ?_
        rintro e w5 ⟨rfl, hb5⟩
        refine hK.out _ _ ⟨(hb5.cell (p := ⟨g, m, none⟩) hg2).trans hcell, (hb5.cell (p := ⟨w.heap.size, 0, none⟩) hw2).trans hbox⟩ (fun hHeld => ?_)
        clear hK K
        try simp only [Act.put, List.setIfInBounds_toArray, List.set_cons_zero, List.set_cons_succ]
        refine wpAnyH_take (i := 7) (v := .bool (decide (y < d))) rfl (by kernel_rfl) (by kernel_rfl) (by kernel_rfl) (fun _ _ _ h => h) (Or.inl ⟨by kernel_rfl, fun wz _ => by rw [← cmp_lt]; go_simp⟩) hHeld ?_
        try simp only [Act.put, List.setIfInBounds_toArray, List.set_cons_zero, List.set_cons_succ]
        refine wpAnyH_done (by kernel_rfl) ?_ _
        refine NoPanic.normal ?_
        go_step
        go_step
        go_meet
        case rel => exact ⟨rfl, (Below.drew (Below.refl _ _)).trans hb5⟩
      case rest =>
        obtain ⟨rfl, hb⟩ := hcut
        have HB2 : Hid (Below (w.heap.size + 1) (w.alloc (.cells #[.int .i64 d] 29)) wc) := HB.out.trans (hb.mono (by omega))
        by_cases hyd : y < d
        · have HP2 : Hid ((∀ i, i < m + 1 → zs.getD i 0 < d) ∧ ∀ i, hi ≤ i → i < n → d ≤ zs.getD i 0) := by
            refine ⟨fun i hi' => ?_, HP.out.2⟩
            rcases Nat.lt_or_ge i m with h | h
            · have := HA.out i m h (by have := Hn.out; omega)
              have := Y.out
              omega
            · have : i = m := by omega
              subst this
              rw [Y.out]; exact hyd
          go_wp2
          go_roundw
          case rel =>
            exact ⟨m + 1, hi, by go_num, rfl, by omega, by omega, HB2.out, HP2⟩
          case measure => simp only [intOf]; omega
        · have HP2 : Hid ((∀ i, i < lo → zs.getD i 0 < d) ∧ ∀ i, m ≤ i → i < n → d ≤ zs.getD i 0) := by
            refine ⟨HP.out.1, fun i h1 h2 => ?_⟩
            rcases Nat.lt_or_ge m i with h | h
            · have := HA.out m i h (by have := Hn.out; omega)
              have := Y.out
              omega
            · have : i = m := by omega
              subst this
              rw [Y.out]; omega
          go_wp2
          go_roundw
          case rel =>
            exact ⟨lo, m, rfl, rfl, by omega, by omega, HB2.out, HP2⟩
          case measure => simp only [intOf]; omega
    · have hlo : lo = hi := by omega
      subst hlo
      have HPP : Hid (Parts zs d lo) := by
        have := Hn.out
        exact ⟨by omega, HP.out.1, fun i h1 h2 => HP.out.2 i h1 (by omega)⟩
      by_cases hln : lo < n
      · have hcell : wr.cell? ⟨g, lo, none⟩ = some (.int .i64 (zs.getD lo 0)) := hrow _ (by have := Hn.out; omega)
        clear hrow
        generalize hy : zs.getD lo 0 = y at hcell
        have Y : Hid (zs.getD lo 0 = y) := hy
        clear hy
        go_upto_region 8 with fail
        refine wp_region_noPanic ?_
        refine wp_region_held_drew (S := (fun w' => w'.cell? ⟨g, lo, none⟩ = some (.int .i64 y) ∧ w'.cell? ⟨w.heap.size, 0, none⟩ = some (.int .i64 d))) (by kernel_rfl) ⟨hcell, hbox⟩ (fun hHeld => ?_)
        refine wpAnyH_take (i := 0) (v := .int .i64 lo) rfl (by kernel_rfl) (by kernel_rfl) (by kernel_rfl) (fun _ _ _ h => h) (Or.inl ⟨by kernel_rfl, fun wz _ => by go_simp⟩) hHeld ?_
        try simp only [Act.put, List.setIfInBounds_toArray, List.set_cons_zero, List.set_cons_succ]
        refine wpAnyH_take (i := 1) (v := .int .i64 lo) rfl (by kernel_rfl) (by kernel_rfl) (by kernel_rfl) (fun _ _ _ h => h) (Or.inl ⟨by kernel_rfl, fun wz _ => by go_simp⟩) hHeld ?_
        try simp only [Act.put, List.setIfInBounds_toArray, List.set_cons_zero, List.set_cons_succ]
        refine wpAnyH_take (i := 2) (v := .int .i64 n) rfl (by kernel_rfl) (by kernel_rfl) (by kernel_rfl) (fun _ _ _ h => h) (Or.inl ⟨by kernel_rfl, fun wz _ => by go_simp⟩) hHeld ?_
        try simp only [Act.put, List.setIfInBounds_toArray, List.set_cons_zero, List.set_cons_succ]
        refine wpAnyH_take (i := 3) (v := .bool true) rfl (by kernel_rfl) (by kernel_rfl) (by kernel_rfl) (fun _ _ _ h => h) (Or.inl ⟨by kernel_rfl, fun wz _ => by go_simp⟩) hHeld ?_
        try simp only [Act.put, List.setIfInBounds_toArray, List.set_cons_zero, List.set_cons_succ]
        refine wpAnyH_take (i := 4) (v := .bool true) rfl (by kernel_rfl) (by kernel_rfl) (by kernel_rfl) (fun _ _ _ h => h) (Or.inl ⟨by kernel_rfl, fun wz _ => by go_simp⟩) hHeld ?_
        try simp only [Act.put, List.setIfInBounds_toArray, List.set_cons_zero, List.set_cons_succ]
        refine wpAnyH_take (i := 5) (v := .func (.func 13) #[] #[]) rfl (by kernel_rfl) (by kernel_rfl) (by kernel_rfl) (fun _ _ _ h => h) (Or.inl ⟨by kernel_rfl, fun wz _ => by go_simp⟩) hHeld ?_
        try simp only [Act.put, List.setIfInBounds_toArray, List.set_cons_zero, List.set_cons_succ]
        refine wpAnyH_take (i := 6) (v := .slice (some ⟨g, 0, none⟩) n n) rfl (by kernel_rfl) (by kernel_rfl) (by kernel_rfl) (fun _ _ _ h => h) (Or.inl ⟨by kernel_rfl, fun wz _ => by go_simp⟩) hHeld ?_
        try simp only [Act.put, List.setIfInBounds_toArray, List.set_cons_zero, List.set_cons_succ]
        refine wpAnyH_take (i := 7) (v := .int .i64 lo) rfl (by kernel_rfl) (by kernel_rfl) (by kernel_rfl) (fun _ _ _ h => h) (Or.inl ⟨by kernel_rfl, fun wz _ => by go_simp⟩) hHeld ?_
        try simp only [Act.put, List.setIfInBounds_toArray, List.set_cons_zero, List.set_cons_succ]
        refine wpAnyH_take (i := 8) (v := .pointer (some ⟨g, lo, none⟩)) rfl (by kernel_rfl) (by kernel_rfl) (by kernel_rfl) (fun _ _ _ h => h) (Or.inl ⟨by kernel_rfl, fun wz _ => by go_simp⟩) hHeld ?_
        try simp only [Act.put, List.setIfInBounds_toArray, List.set_cons_zero, List.set_cons_succ]
        refine wpAnyH_take (i := 9) (v := .agg #[.int .i64 y]) rfl (by kernel_rfl) (by kernel_rfl) (by kernel_rfl) (fun _ _ _ h => h) (Or.inl ⟨by kernel_rfl, fun wz hz => by have h1 := hz.1; have h2 := hz.2; go_simp⟩) hHeld ?_
        try simp only [Act.put, List.setIfInBounds_toArray, List.set_cons_zero, List.set_cons_succ]
        refine wpAnyH_take (i := 10) (v := .agg #[.int .i64 d]) rfl (by kernel_rfl) (by kernel_rfl) (by kernel_rfl) (fun _ _ _ h => h) (Or.inl ⟨by kernel_rfl, fun wz hz => by have h1 := hz.1; have h2 := hz.2; go_simp⟩) hHeld ?_
        try simp only [Act.put, List.setIfInBounds_toArray, List.set_cons_zero, List.set_cons_succ]
        refine wpAnyH_ready (rs := [11]) (by kernel_rfl) (by simp) ?_
        refine AllReadyH.cons rfl (fun K hK => ?_) AllReadyH.nil
        rw [if_pos ?hwant]
        case hwant => kernel_rfl
        go_simp
        refine (compare_any _ _ _).mono ?_
        rintro e w5 ⟨rfl, hb5⟩
        refine hK.out _ _ ⟨(hb5.cell (p := ⟨g, lo, none⟩) hg2).trans hcell, (hb5.cell (p := ⟨w.heap.size, 0, none⟩) hw2).trans hbox⟩ (fun hHeld => ?_)
        clear hK K
        try simp only [Act.put, List.setIfInBounds_toArray, List.set_cons_zero, List.set_cons_succ]
        refine wpAnyH_take (i := 12) (v := .bool (y == d)) rfl (by kernel_rfl) (by kernel_rfl) (by kernel_rfl) (fun _ _ _ h => h) (Or.inl ⟨by kernel_rfl, fun wz _ => by rw [← cmp_eq]; go_simp⟩) hHeld ?_
        try simp only [Act.put, List.setIfInBounds_toArray, List.set_cons_zero, List.set_cons_succ]
        refine wpAnyH_take (i := 13) (v := .bool (y == d)) rfl (by kernel_rfl) (by kernel_rfl) (by kernel_rfl) (fun _ _ _ h => h) (Or.inl ⟨by kernel_rfl, fun wz _ => by go_simp⟩) hHeld ?_
        try simp only [Act.put, List.setIfInBounds_toArray, List.set_cons_zero, List.set_cons_succ]
        refine wpAnyH_take (i := 14) (v := .int .i64 lo) rfl (by kernel_rfl) (by kernel_rfl) (by kernel_rfl) (fun _ _ _ h => h) (Or.inl ⟨by kernel_rfl, fun wz _ => by go_simp⟩) hHeld ?_
        try simp only [Act.put, List.setIfInBounds_toArray, List.set_cons_zero, List.set_cons_succ]
        refine wpAnyH_take (i := 15) (v := .bool (y == d)) rfl (by kernel_rfl) (by kernel_rfl) (by kernel_rfl) (fun _ _ _ h => h) (Or.inl ⟨by kernel_rfl, fun wz _ => by go_simp⟩) hHeld ?_
        try simp only [Act.put, List.setIfInBounds_toArray, List.set_cons_zero, List.set_cons_succ]
        refine wpAnyH_done (by kernel_rfl) ?_ _
        refine NoPanic.normal ?_
        simp only [List.getElem_toArray, List.getElem_cons_zero, List.getElem_cons_succ, Act.put, List.setIfInBounds_toArray, List.set_cons_zero, List.set_cons_succ]
        go_wp2
        go_ret2
        refine ⟨⟨lo, ?_, HPP.out⟩, ?_⟩
        · rw [Y.out, decide_eq_true hln, Bool.true_and]; rfl
        · exact (HW.out.trans ((Below.drew (Below.refl _ _)).mono (Nat.le_of_lt (by omega)))).trans (hb5.mono (by show _ ≤ _; simp; omega))
      · clear hrow
        have hln2 : decide (lo < n) = false := decide_eq_false hln
        go_upto_region 8 with fail
        go_region
        go_wp2
        go_ret2
        exact ⟨⟨lo, by rw [hln2, Bool.false_and]; rfl, HPP.out⟩, HW.out.trans (Below.drew (Below.refl _ _))⟩
end Go.Proofs.Qxb6630672a
