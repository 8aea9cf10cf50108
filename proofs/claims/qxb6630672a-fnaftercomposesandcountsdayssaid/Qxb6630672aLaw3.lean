/-
  THE WALK of FnAfterComposesAndCountsDays.
-/
import Derived.Test.Qxb6630672aWalksE
namespace Go.Proofs.Qxb6630672a
open Go.ChangeShapes Go.WideShapes Go.ChangeAt Go.RowKit

set_option maxHeartbeats 2000000 in
theorem law3_some (x : Addr) (c : Nat) (zs : List Int) (d m n : Int) (w : World) (hcap : zs.length ≤ c) (hmax : c ≤ maxLen) (hc : SRow x zs w) :
    Calls Try.prog 3 #[.slice (some x) zs.length c, .int .i64 d, .int .i64 m, .int .i64 n] w fun e w' => e = .returned (.bool true) ∧ Below w.heap.size w w' := by
  obtain ⟨l, hl⟩ : ∃ l, l = zs.length := ⟨_, rfl⟩
  rw [← hl] at hcap ⊢
  have Hl : Hid (l = zs.length) := hl
  clear hl
  have hlm : l ≤ maxLen := by omega
  unfold maxLen at hmax
  by_cases hb : l ≤ 1048576
  · by_cases hb2 : l ≤ 131072
    · have hne := fun w => nenil w (some x) l c
      have hmk := fun w => make2 l hb w
      have hd : decide (l ≤ 1048576) = true := decide_eq_true hb
      have HC : Hid (SRow x zs w) := hc
      clear hc
      go_enter Try.func3, Try.ntmps3
      go_wp2_with fail
      refine (zzBytes1_any _ _ _ _ _ _ _ hlm).mono ?_
      rintro e w ⟨rfl, rfl⟩
      rw [hd]
      go_wp2_with (refine wpList_copied (w := w) rfl (.tmp 33) (.tmp 34) rfl x l c zs Hl.out HC.out rfl rfl ?_; rintro w2 hr hb hs)
      clear hne hmk hd HC
      have HB0 : Hid (Below w.heap.size w w2) := hb
      have HR0 : Hid (DRow w.heap.size zs w2) := hr
      clear hb hr
      go_loopw [10] (fun i wr => ∃ k : Nat, 1 ≤ k ∧ (k ≤ l ∨ k = 1) ∧ i = .int .i64 k ∧ Hid (Below w.heap.size w wr) ∧ Hid (DRow w.heap.size zs wr) ∧ w.heap.size < wr.heap.size ∧ Hid (∀ j, j + 1 < k → zs.getD j 0 < zs.getD (j + 1) 0)) (fun i _ => l - (intOf i).toNat)
      case atStart => exact ⟨1, Nat.le_refl _, .inr rfl, rfl, HB0, HR0, hs, fun j hj => by omega⟩
      case round =>
        obtain ⟨k, hk1, hk2, rfl, HB, HR, hs2, HA⟩ := hrel
        clear HB0 HR0 hs w2
        by_cases hkl : k < l
        · obtain ⟨j, rfl⟩ : ∃ j, k = j + 1 := ⟨k - 1, by omega⟩
          have hc1 : wr.cell? ⟨w.heap.size, j, none⟩ = some (.int .i64 (zs.getD j 0)) := HR.out j (by have := Hl.out; omega)
          have hc2 : wr.cell? ⟨w.heap.size, j + 1, none⟩ = some (.int .i64 (zs.getD (j + 1) 0)) := HR.out (j + 1) (by have := Hl.out; omega)
          obtain ⟨y1, hy1⟩ : ∃ y, Hid (zs.getD j 0 = y) := ⟨_, rfl⟩
          obtain ⟨y2, hy2⟩ : ∃ y, Hid (zs.getD (j + 1) 0 = y) := ⟨_, rfl⟩
          rw [hy1.out] at hc1
          rw [hy2.out] at hc2
          by_cases hge : y2 ≤ y1
          · go_upto_region 12 with fail
            go_region
            go_wp2
            go_ret
            exact ⟨rfl, HB.out.drew⟩
          · go_upto_region 12 with fail
            go_region
            go_wp2
            refine ⟨⟨j + 1 + 1, by omega, .inl (by omega), rfl, HB.out.drew, HR.out.step hs2 (Below.refl _ _).drew, hs2, fun i hi => ?_⟩, by simp only [intOf]; omega⟩
            rcases Nat.lt_or_ge i j with h | h
            · exact HA.out i (by omega)
            · obtain rfl : i = j := by omega
              rw [hy1.out, hy2.out]
              omega
        · have HAs : Hid (Asc zs) := asc_of_steps fun j hj => HA.out j (by have := Hl.out; omega)
          clear HA
          obtain ⟨q, hq⟩ := partsLe_ex zs d HAs.out
          have HQ : Hid (PartsLe zs d q) := hq
          clear hq
          obtain ⟨AO1, hAO1⟩ : ∃ AO, Hid (aok zs q m = AO) := ⟨_, rfl⟩
          obtain ⟨AF1, hAF1⟩ : ∃ AF, Hid (aft zs q m = AF) := ⟨_, rfl⟩
          go_wp2_with fail
          refine (newDays_l _ _ _ _ _ Hl.out hs2 hb (Nat.le_refl _) HR.out).mono ?_
          rintro e w3 ⟨⟨G, rfl, hG1, hG2, hRG⟩, hb3⟩
          have HB3 : Hid (Below w.heap.size w w3) := keep_below HB.out (by omega) hb3
          have HR3 : Hid (DRow w.heap.size zs w3) := (Keeps.of hb3).row HR.out
          have HG3 : Hid (DRow G zs w3) := hRG
          have hs3 : w.heap.size < w3.heap.size := by have := hb3.size; omega
          clear hb3 hRG HR HB hs2 hG1 wr
          go_wp2_with fail
          refine (newDate_any _ _).mono ?_
          rintro e w4 ⟨rfl, hb4⟩
          have c11 : w4.cell? ⟨w3.heap.size, 0, none⟩ = some (.slice (some ⟨G, 0, none⟩) l l) := new_cell hb4
          have hs4 := new_size hb4
          have HB4 : Hid (Below w.heap.size w w4) := new_below HB3.out (by omega) hb4
          have HR4 : Hid (DRow w.heap.size zs w4) := (Keeps.alloc hb4).row HR3.out
          have HG4 : Hid (DRow G zs w4) := (Keeps.alloc hb4).row HG3.out
          clear hb4 HB3 HR3 HG3
          go_wp2_with fail
          refine (after_l _ _ zs _ _ q AO1 AF1 _ Hl.out HAs.out HQ.out hAO1.out hAF1.out (by rw [size_alloc]; omega) hb (HG4.out.step (B := w4.heap.size) (by omega) ((Below.refl _ _).alloc (Nat.le_refl _) _))).mono ?_
          rintro e w5 ⟨rfl, hb5⟩
          have d11 := Keeps.alloc hb5 _ _ c11
          have d12 : w5.cell? ⟨w4.heap.size, 0, none⟩ = some (.int .i64 d) := new_cell hb5
          have hs5 := new_size hb5
          have HB5 : Hid (Below w.heap.size w w5) := new_below HB4.out (by omega) hb5
          have HR5 : Hid (DRow w.heap.size zs w5) := (Keeps.alloc hb5).row HR4.out
          have HG5 : Hid (DRow G zs w5) := (Keeps.alloc hb5).row HG4.out
          clear hb5 HB4 HR4 HG4 c11
          go_wp2_with fail
          refine (dateDays_any _ _).mono ?_
          rintro e w6 ⟨rfl, hb6⟩
          have e11 := Keeps.alloc hb6 _ _ d11
          have e12 := Keeps.alloc hb6 _ _ d12
          have e13 : w6.cell? ⟨w5.heap.size, 0, none⟩ = some (.int .i64 AF1) := new_cell hb6
          have hs6 := new_size hb6
          have HB6 : Hid (Below w.heap.size w w6) := new_below HB5.out (by omega) hb6
          have HR6 : Hid (DRow w.heap.size zs w6) := (Keeps.alloc hb6).row HR5.out
          have HG6 : Hid (DRow G zs w6) := (Keeps.alloc hb6).row HG5.out
          clear hb6 HB5 HR5 HG5 d11 d12
          go_wp2_with fail
          refine (nth_l _ _ zs _ _ _ _ _ Hl.out (by rw [← hAO1.out, ← hAF1.out]; exact nth_true m HAs.out HQ.out) hb HR6.out).mono ?_
          rintro e w6 ⟨rfl, rfl⟩
          by_cases hm1 : 1 ≤ m
          · by_cases hn1 : 1 ≤ n
            · by_cases hm2 : m ≤ 1073741824
              · by_cases hn2 : n ≤ 1073741824
                · obtain ⟨AO2, hAO2⟩ : ∃ AO, Hid (aok zs q (m + n) = AO) := ⟨_, rfl⟩
                  obtain ⟨AF2, hAF2⟩ : ∃ AF, Hid (aft zs q (m + n) = AF) := ⟨_, rfl⟩
                  go_wp2_with fail
                  refine (after_l _ _ zs _ _ q AO2 AF2 _ Hl.out HAs.out HQ.out hAO2.out hAF2.out (by omega) hb HG6.out).mono ?_
                  rintro e w7 ⟨rfl, hb7⟩
                  have f11 := Keeps.of hb7 _ _ e11
                  have f13 := Keeps.of hb7 _ _ e13
                  have hs7 := hb7.size
                  have HB7 : Hid (Below w.heap.size w w7) := keep_below HB6.out (by omega) hb7
                  have HG7 : Hid (DRow G zs w7) := (Keeps.of hb7).row HG6.out
                  have h37 : w3.heap.size < w7.heap.size := by omega
                  have h57 : w5.heap.size < w7.heap.size := by omega
                  clear hb7 HB6 HR6 HG6 e11 e12 e13
                  cases AO1
                  · have hn2 : AO2 = false := hAO2.out.symm.trans (compose_no hAO1.out hm1 hn1)
                    subst hn2
                    go_wp2
                    go_ret
                    exact ⟨rfl, HB7.out.alloc (by omega) _⟩
                  · have HP : Hid (PartsLe zs AF1 (q + m.toNat)) := by
                      have := partsLe_aft HAs.out HQ.out hAO1.out
                      rwa [hAF1.out] at this
                    go_wp2_with fail
                    refine (after_l _ _ zs _ _ (q + m.toNat) AO2 AF2 _ Hl.out HAs.out HP.out ((compose_ok hAO1.out hn1).trans hAO2.out) ((compose_aft hAO1.out hn1).trans hAF2.out) (by rw [size_alloc]; omega) hb (HG7.out.step (B := w7.heap.size) (by omega) ((Below.refl _ _).alloc (Nat.le_refl _) _))).mono ?_
                    rintro e w8 ⟨rfl, hb8⟩
                    have g15 : w8.cell? ⟨w7.heap.size, 0, none⟩ = some (.int .i64 AF2) := new_cell hb8
                    have hs8 := new_size hb8
                    have HB8 : Hid (Below w.heap.size w w8) := new_below HB7.out (by omega) hb8
                    clear hb8
                    go_wp2
                    go_ret
                    exact ⟨rfl, HB8.out.alloc (by omega) _⟩
                · go_wp2
                  go_ret
                  exact ⟨rfl, HB6.out⟩
              · go_wp2
                go_ret
                exact ⟨rfl, HB6.out⟩
            · go_wp2
              go_ret
              exact ⟨rfl, HB6.out⟩
          · go_wp2
            go_ret
            exact ⟨rfl, HB6.out⟩
    · have hd : decide (l ≤ 1048576) = true := decide_eq_true hb
      go_enter Try.func3, Try.ntmps3
      go_wp2_with fail
      refine (zzBytes1_any _ _ _ _ _ _ _ hlm).mono ?_
      rintro e w' ⟨rfl, rfl⟩
      rw [hd]
      go_wp2
      go_ret
      exact ⟨rfl, Below.refl _ _⟩
  · have hd : decide (l ≤ 1048576) = false := decide_eq_false hb
    go_enter Try.func3, Try.ntmps3
    go_wp2_with fail
    refine (zzBytes1_any _ _ _ _ _ _ _ hlm).mono ?_
    rintro e w' ⟨rfl, rfl⟩
    rw [hd]
    go_wp2
    go_ret
    exact ⟨rfl, Below.refl _ _⟩

set_option maxHeartbeats 2000000 in
theorem law3_nil (d m n : Int) (w : World) :
    Calls Try.prog 3 #[.slice none 0 0, .int .i64 d, .int .i64 m, .int .i64 n] w fun e w' => e = .returned (.bool true) ∧ Below w.heap.size w w' := by
  have hne := fun w => nenil w none 0 0
  go_enter Try.func3, Try.ntmps3
  go_wp2_with fail
  refine (zzBytes1_any _ _ _ _ _ _ _ (by unfold maxLen; omega)).mono ?_
  rintro e w ⟨rfl, rfl⟩
  rw [show decide (0 ≤ 1048576) = true from rfl]
  go_wp2
  refine wp_loop_rounds 1 ?_
  rw [rounds_succ]
  go_wp2_with fail
  refine (newDays_nil _).mono ?_
  rintro e w3 ⟨rfl, hb3⟩
  have HB3 : Hid (Below w.heap.size w w3) := hb3
  have hs3 := hb3.size
  clear hb3
  go_wp2_with fail
  refine (newDate_any _ _).mono ?_
  rintro e w4 ⟨rfl, hb4⟩
  have c11 : w4.cell? ⟨w3.heap.size, 0, none⟩ = some (.slice none 0 0) := new_cell hb4
  have hs4 := new_size hb4
  have HB4 : Hid (Below w.heap.size w w4) := new_below HB3.out (by omega) hb4
  clear hb4 HB3
  go_wp2_with fail
  refine (after_empty _ _ _).mono ?_
  rintro e w5 ⟨rfl, hb5⟩
  have d11 := Keeps.alloc hb5 _ _ c11
  have d12 : w5.cell? ⟨w4.heap.size, 0, none⟩ = some (.int .i64 d) := new_cell hb5
  have hs5 := new_size hb5
  have HB5 : Hid (Below w.heap.size w w5) := new_below HB4.out (by omega) hb5
  clear hb5 HB4 c11
  go_wp2_with fail
  refine (dateDays_any _ _).mono ?_
  rintro e w6 ⟨rfl, hb6⟩
  have e11 := Keeps.alloc hb6 _ _ d11
  have e12 := Keeps.alloc hb6 _ _ d12
  have hs6 := new_size hb6
  have HB6 : Hid (Below w.heap.size w w6) := new_below HB5.out (by omega) hb6
  clear hb6 HB5 d11 d12
  go_wp2_with fail
  refine (nth_empty _ _ _ _ _).mono ?_
  rintro e w6 ⟨rfl, rfl⟩
  by_cases hm1 : 1 ≤ m
  · by_cases hn1 : 1 ≤ n
    · by_cases hm2 : m ≤ 1073741824
      · by_cases hn2 : n ≤ 1073741824
        · go_wp2_with fail
          refine (after_empty _ _ _).mono ?_
          rintro e w7 ⟨rfl, hb7⟩
          have hs7 := hb7.size
          have HB7 : Hid (Below w.heap.size w w7) := keep_below HB6.out (by omega) hb7
          clear hb7
          go_wp2
          go_ret
          exact ⟨rfl, HB7.out.alloc (by omega) _⟩
        · go_wp2
          go_ret
          exact ⟨rfl, HB6.out⟩
      · go_wp2
        go_ret
        exact ⟨rfl, HB6.out⟩
    · go_wp2
      go_ret
      exact ⟨rfl, HB6.out⟩
  · go_wp2
    go_ret
    exact ⟨rfl, HB6.out⟩
end Go.Proofs.Qxb6630672a
