/-
  THE WALK of FnAfterKeptByCalendarCut.
-/
import Derived.Test.Qxb6630672aWalksE
namespace Go.Proofs.Qxb6630672a
open Go.ChangeShapes Go.WideShapes Go.ChangeAt Go.RowKit

set_option linter.unusedSimpArgs false in
set_option linter.unusedVariables false in
set_option maxHeartbeats 4000000 in
theorem law4_some (x : Addr) (c : Nat) (zs : List Int) (d n kk : Int) (w : World) (hcap : zs.length ≤ c) (hmax : c ≤ maxLen) (hc : SRow x zs w) :
    Calls Try.prog 4 #[.slice (some x) zs.length c, .int .i64 d, .int .i64 n, .int .i64 kk] w fun e w' => e = .returned (.bool true) ∧ Below w.heap.size w w' := by
  obtain ⟨l, hl⟩ : ∃ l, l = zs.length := ⟨_, rfl⟩
  rw [← hl] at hcap ⊢
  have Hl : Hid (l = zs.length) := hl
  clear hl
  have hlm : l ≤ maxLen := by omega
  unfold maxLen at hmax
  by_cases hb : l ≤ 1048576
  · by_cases hb2 : l ≤ 131072
    · by_cases hk0 : kk < 0
      · have hd : decide (l ≤ 1048576) = true := decide_eq_true hb
        go_enter Try.func4, Try.ntmps4
        go_wp2_with fail
        refine (zzBytes2_any _ _ _ _ _ _ _ hlm).mono ?_
        rintro e w' ⟨rfl, rfl⟩
        rw [hd]
        go_wp2
        go_ret
        exact ⟨rfl, Below.refl _ _⟩
      · by_cases hkl : (l : Int) < kk
        · have hd : decide (l ≤ 1048576) = true := decide_eq_true hb
          go_enter Try.func4, Try.ntmps4
          go_wp2_with fail
          refine (zzBytes2_any _ _ _ _ _ _ _ hlm).mono ?_
          rintro e w' ⟨rfl, rfl⟩
          rw [hd]
          go_wp2
          go_ret
          exact ⟨rfl, Below.refl _ _⟩
        · obtain ⟨K, rfl⟩ : ∃ K : Nat, kk = K := ⟨kk.toNat, by omega⟩
          have hKl : K ≤ l := by omega
          clear hk0 hkl
          have hne := fun w => nenil w (some x) l c
          have hmk := fun w => make2 l hb w
          have hd : decide (l ≤ 1048576) = true := decide_eq_true hb
          have HC : Hid (SRow x zs w) := hc
          clear hc
          go_enter Try.func4, Try.ntmps4
          go_wp2_with fail
          refine (zzBytes2_any _ _ _ _ _ _ _ hlm).mono ?_
          rintro e w ⟨rfl, rfl⟩
          rw [hd]
          go_wp2_with (refine wpList_copied (w := w) rfl (.tmp 41) (.tmp 42) rfl x l c zs Hl.out HC.out rfl rfl ?_; rintro w2 hr hb hs)
          clear hne hmk hd HC
          have HB0 : Hid (Below w.heap.size w w2) := hb
          have HR0 : Hid (DRow w.heap.size zs w2) := hr
          clear hb hr
          go_loopw [10] (fun i wr => ∃ k : Nat, 1 ≤ k ∧ (k ≤ l ∨ k = 1) ∧ i = .int .i64 k ∧ Hid (Below w.heap.size w wr) ∧ Hid (DRow w.heap.size zs wr) ∧ w.heap.size < wr.heap.size ∧ Hid (∀ j, j + 1 < k → zs.getD j 0 < zs.getD (j + 1) 0)) (fun i _ => l - (intOf i).toNat)
          case atStart => exact ⟨1, Nat.le_refl _, .inr rfl, rfl, HB0, HR0, hs, fun j hj => by omega⟩
          case round =>
            obtain ⟨k, hk1, hk2, rfl, HB, HR, hs2, HA⟩ := hrel
            clear HB0 HR0 hs w2
            by_cases hkl : k < l
            · obtain ⟨j, rfl⟩ : ∃ j, k = j + 1 := ⟨k - 1, by omega⟩
              have hc1 : wr.cell? ⟨w.heap.size, j, none⟩ = some (.int .i64 (zs.getD j 0)) := HR.out j (by have := Hl.out; omega)
              have hc2 : wr.cell? ⟨w.heap.size, j + 1, none⟩ = some (.int .i64 (zs.getD (j + 1) 0)) := HR.out (j + 1) (by have := Hl.out; omega)
              obtain ⟨y1, hy1⟩ : ∃ y, Hid (zs.getD j 0 = y) := ⟨_, rfl⟩
              obtain ⟨y2, hy2⟩ : ∃ y, Hid (zs.getD (j + 1) 0 = y) := ⟨_, rfl⟩
              rw [hy1.out] at hc1
              rw [hy2.out] at hc2
              by_cases hge : y2 ≤ y1
              · go_upto_region 14 with fail
                go_region
                go_wp2
                go_ret
                exact ⟨rfl, HB.out.drew⟩
              · go_upto_region 14 with fail
                go_region
                go_wp2
                refine ⟨⟨j + 1 + 1, by omega, .inl (by omega), rfl, HB.out.drew, HR.out.step hs2 (Below.refl _ _).drew, hs2, fun i hi => ?_⟩, by simp only [intOf]; omega⟩
                rcases Nat.lt_or_ge i j with h | h
                · exact HA.out i (by omega)
                · obtain rfl : i = j := by omega
                  rw [hy1.out, hy2.out]
                  omega
            · have HAs : Hid (Asc zs) := asc_of_steps fun j hj => HA.out j (by have := Hl.out; omega)
              clear HA
              obtain ⟨q, hq⟩ := partsLe_ex zs d HAs.out
              have HQ : Hid (PartsLe zs d q) := hq
              clear hq
              have HQ2 : Hid (PartsLe (zs.take K) d (min q K)) := partsLe_take K (by have := Hl.out; omega) HQ.out
              have HAs2 : Hid (Asc (zs.take K)) := asc_take K HAs.out
              have Hl2 : Hid (K = (zs.take K).length) := by
                show _ = _
                rw [List.length_take, ← Hl.out]
                omega
              have hKb : K ≤ 1048576 := by omega
              obtain ⟨AO1, hAO1⟩ : ∃ AO, Hid (aok zs q n = AO) := ⟨_, rfl⟩
              obtain ⟨AF1, hAF1⟩ : ∃ AF, Hid (aft zs q n = AF) := ⟨_, rfl⟩
              obtain ⟨AO2, hAO2⟩ : ∃ AO, Hid (aok (zs.take K) (min q K) n = AO) := ⟨_, rfl⟩
              obtain ⟨AF2, hAF2⟩ : ∃ AF, Hid (aft (zs.take K) (min q K) n = AF) := ⟨_, rfl⟩
              have HO : Hid (within zs q K n = AO2) := (cut_ok K n HAs.out (by have := Hl.out; omega)).symm.trans hAO2.out
              have HF : Hid ((if AO2 = true then AF1 else 0) = AF2) := by
                have h := cut_aft (q := q) K n HAs.out (by have := Hl.out; omega)
                rw [hAF2.out, HO.out, hAF1.out] at h
                exact h.symm
              go_wp2_with fail
              refine (newDays_l _ _ _ _ _ Hl.out hs2 hb (Nat.le_refl _) HR.out).mono ?_
              rintro e w3 ⟨⟨G, rfl, hG1, hG2, hRG⟩, hb3⟩
              have HB3 : Hid (Below w.heap.size w w3) := keep_below HB.out (by omega) hb3
              have HR3 : Hid (DRow w.heap.size zs w3) := (Keeps.of hb3).row HR.out
              have HG3 : Hid (DRow G zs w3) := hRG
              have hs3 : w.heap.size < w3.heap.size := by have := hb3.size; omega
              clear hb3 hRG HR HB hs2 hG1 wr
              go_wp2_with fail
              refine (newDays_l _ _ _ (zs.take K) _ Hl2.out (by rw [size_alloc]; omega) hKb hKl (fun i hi => ?_)).mono ?_
              · have h1 := Hl2.out
                rw [getD_take _ _ _ (by omega)]
                exact HR3.out.step (B := w3.heap.size) hs3 ((Below.refl _ _).alloc (Nat.le_refl _) _) i (by have := Hl.out; omega)
              rintro e w4 ⟨⟨G2, rfl, hG3, hG4, hRG2⟩, hb4⟩
              have c11 : w4.cell? ⟨w3.heap.size, 0, none⟩ = some (.slice (some ⟨G, 0, none⟩) l l) := new_cell hb4
              have hs4 := new_size hb4
              have HB4 : Hid (Below w.heap.size w w4) := new_below HB3.out (by omega) hb4
              have HR4 : Hid (DRow w.heap.size zs w4) := (Keeps.alloc hb4).row HR3.out
              have HG4 : Hid (DRow G zs w4) := (Keeps.alloc hb4).row HG3.out
              have HP4 : Hid (DRow G2 (zs.take K) w4) := hRG2
              clear hb4 hRG2 HB3 HR3 HG3 hG3
              go_wp2_with fail
              refine (newDate_any _ _).mono ?_
              rintro e w5 ⟨rfl, hb5⟩
              have d11 := Keeps.alloc hb5 _ _ c11
              have d12 : w5.cell? ⟨w4.heap.size, 0, none⟩ = some (.slice (some ⟨G2, 0, none⟩) K K) := new_cell hb5
              have hs5 := new_size hb5
              have HB5 : Hid (Below w.heap.size w w5) := new_below HB4.out (by omega) hb5
              have HR5 : Hid (DRow w.heap.size zs w5) := (Keeps.alloc hb5).row HR4.out
              have HG5 : Hid (DRow G zs w5) := (Keeps.alloc hb5).row HG4.out
              have HP5 : Hid (DRow G2 (zs.take K) w5) := (Keeps.alloc hb5).row HP4.out
              have h35 : w3.heap.size < w5.heap.size := by omega
              clear hb5 HB4 HR4 HG4 HP4 c11
              go_wp2_with fail
              refine (after_l _ _ zs _ _ q AO1 AF1 _ Hl.out HAs.out HQ.out hAO1.out hAF1.out (by rw [size_alloc]; omega) hb (HG5.out.step (B := w5.heap.size) (by omega) ((Below.refl _ _).alloc (Nat.le_refl _) _))).mono ?_
              rintro e w6 ⟨rfl, hb6⟩
              have e12 := Keeps.alloc hb6 _ _ d12
              have e13 : w6.cell? ⟨w5.heap.size, 0, none⟩ = some (.int .i64 d) := new_cell hb6
              have hs6 := new_size hb6
              have HB6 : Hid (Below w.heap.size w w6) := new_below HB5.out (by omega) hb6
              have HR6 : Hid (DRow w.heap.size zs w6) := (Keeps.alloc hb6).row HR5.out
              have HP6 : Hid (DRow G2 (zs.take K) w6) := (Keeps.alloc hb6).row HP5.out
              have h46 : w4.heap.size < w6.heap.size := by omega
              clear hb6 HB5 HR5 HG5 HP5 d11 d12 h35
              go_wp2_with fail
              refine (after_l _ _ (zs.take K) _ _ (min q K) AO2 AF2 _ Hl2.out HAs2.out HQ2.out hAO2.out hAF2.out (by rw [size_alloc]; omega) hKb (HP6.out.step (B := w6.heap.size) (by omega) ((Below.refl _ _).alloc (Nat.le_refl _) _))).mono ?_
              rintro e w7 ⟨rfl, hb7⟩
              have f14 : w7.cell? ⟨w6.heap.size, 0, none⟩ = some (.int .i64 AF1) := new_cell hb7
              have hs7 := new_size hb7
              have HB7 : Hid (Below w.heap.size w w7) := new_below HB6.out (by omega) hb7
              have HR7 : Hid (DRow w.heap.size zs w7) := (Keeps.alloc hb7).row HR6.out
              clear hb7 HB6 HR6 HP6 e12 e13 h46
              go_wp2_with fail
              refine (dateDays_any _ _).mono ?_
              rintro e w8 ⟨rfl, hb8⟩
              have k14 := Keeps.alloc hb8 _ _ f14
              have k16 : w8.cell? ⟨w7.heap.size, 0, none⟩ = some (.int .i64 AF2) := new_cell hb8
              have hs8 := new_size hb8
              have HB8 : Hid (Below w.heap.size w w8) := new_below HB7.out (by omega) hb8
              have HR8 : Hid (DRow w.heap.size zs w8) := (Keeps.alloc hb8).row HR7.out
              clear hb8 HB7 HR7 f14
              go_wp2_with fail
              refine (nth_l _ _ zs _ _ _ _ _ Hl.out (by rw [← hAO1.out, ← hAF1.out]; exact nth_true n HAs.out HQ.out) hb HR8.out).mono ?_
              rintro e w8 ⟨rfl, rfl⟩
              cases AO1
              · have h2 : AO2 = false := by rw [← HO.out, within, hAO1.out]; rfl
                subst h2
                have h3 : AF2 = 0 := HF.out.symm
                subst h3
                go_upto_region 24 with fail
                go_region
                go_wp2_with fail
                refine (dateDays_any _ _).mono ?_
                rintro e wy ⟨rfl, hby⟩
                go_wp2
                go_ret
                exact ⟨rfl, keep_below HB8.out.drew (by show _ ≤ w8.heap.size; omega) hby⟩
              · by_cases hK : K = 0
                · subst hK
                  have h2 : AO2 = false := by rw [← HO.out, within, hAO1.out]; rfl
                  subst h2
                  have h3 : AF2 = 0 := HF.out.symm
                  subst h3
                  go_upto_region 24 with fail
                  go_region
                  go_wp2_with fail
                  refine (dateDays_any _ _).mono ?_
                  rintro e wy ⟨rfl, hby⟩
                  go_wp2
                  go_ret
                  exact ⟨rfl, keep_below HB8.out.drew (by show _ ≤ w8.heap.size; omega) hby⟩
                · obtain ⟨j, rfl⟩ : ∃ j, K = j + 1 := ⟨K - 1, by omega⟩
                  have hcell : w8.cell? ⟨w.heap.size, j, none⟩ = some (.int .i64 (zs.getD j 0)) := HR8.out j (by have := Hl.out; omega)
                  obtain ⟨y, hy⟩ : ∃ y, Hid (zs.getD j 0 = y) := ⟨_, rfl⟩
                  rw [hy.out] at hcell
                  have h2 : AO2 = decide (AF1 ≤ y) := by
                    rw [← HO.out, within, hAO1.out, hAF1.out, Nat.add_sub_cancel, hy.out, decide_eq_true (show 0 < ((j + 1 : Nat) : Int) by omega)]
                    rfl
                  clear HR8
                  have hjl : j < l := by omega
                  have hwj : IntKind.i64.wrap (j : Int) = j := by rw [IntKind.wrap_i64]; omega
                  go_upto_region 24 with fail
                  refine wp_region_noPanic ?_
                  refine wp_region_held_drew (S := (fun w' => w'.cell? ⟨w6.heap.size, 0, none⟩ = some (.int .i64 AF1) ∧ w'.cell? ⟨w.heap.size, j, none⟩ = some (.int .i64 y))) (by kernel_rfl) ⟨k14, hcell⟩ (fun hHeld => ?_)
                  refine wpAnyH_take (i := 0) (v := .bool true) rfl (by kernel_rfl) (by kernel_rfl) (by kernel_rfl) (fun _ _ _ h => h) (Or.inl ⟨by kernel_rfl, fun wz _ => by go_simp⟩) hHeld ?_
                  try simp only [Act.put, List.setIfInBounds_toArray, List.set_cons_zero, List.set_cons_succ]
                  refine wpAnyH_take (i := 1) (v := .bool true) rfl (by kernel_rfl) (by kernel_rfl) (by kernel_rfl) (fun _ _ _ h => h) (Or.inl ⟨by kernel_rfl, fun wz _ => by go_simp⟩) hHeld ?_
                  try simp only [Act.put, List.setIfInBounds_toArray, List.set_cons_zero, List.set_cons_succ]
                  refine wpAnyH_take (i := 2) (v := .int .i64 ((j + 1 : Nat) : Int)) rfl (by kernel_rfl) (by kernel_rfl) (by kernel_rfl) (fun _ _ _ h => h) (Or.inl ⟨by kernel_rfl, fun wz _ => by go_simp⟩) hHeld ?_
                  try simp only [Act.put, List.setIfInBounds_toArray, List.set_cons_zero, List.set_cons_succ]
                  refine wpAnyH_take (i := 3) (v := .bool true) rfl (by kernel_rfl) (by kernel_rfl) (by kernel_rfl) (fun _ _ _ h => h) (Or.inl ⟨by kernel_rfl, fun wz _ => by go_simp⟩) hHeld ?_
                  try simp only [Act.put, List.setIfInBounds_toArray, List.set_cons_zero, List.set_cons_succ]
                  refine wpAnyH_take (i := 4) (v := .bool true) rfl (by kernel_rfl) (by kernel_rfl) (by kernel_rfl) (fun _ _ _ h => h) (Or.inl ⟨by kernel_rfl, fun wz _ => by go_simp⟩) hHeld ?_
                  try simp only [Act.put, List.setIfInBounds_toArray, List.set_cons_zero, List.set_cons_succ]
                  refine wpAnyH_take (i := 5) (v := .bool true) rfl (by kernel_rfl) (by kernel_rfl) (by kernel_rfl) (fun _ _ _ h => h) (Or.inl ⟨by kernel_rfl, fun wz _ => by go_simp⟩) hHeld ?_
                  try simp only [Act.put, List.setIfInBounds_toArray, List.set_cons_zero, List.set_cons_succ]
                  refine wpAnyH_take (i := 6) (v := .agg #[.int .i64 AF1]) rfl (by kernel_rfl) (by kernel_rfl) (by kernel_rfl) (fun _ _ _ h => h) (Or.inl ⟨by kernel_rfl, fun wz hz => by have h1 := hz.1; have h2 := hz.2; go_simp⟩) hHeld ?_
                  try simp only [Act.put, List.setIfInBounds_toArray, List.set_cons_zero, List.set_cons_succ]
                  refine wpAnyH_take (i := 8) (v := .slice (some ⟨w.heap.size, 0, none⟩) l l) rfl (by kernel_rfl) (by kernel_rfl) (by kernel_rfl) (fun _ _ _ h => h) (Or.inl ⟨by kernel_rfl, fun wz _ => by go_simp⟩) hHeld ?_
                  try simp only [Act.put, List.setIfInBounds_toArray, List.set_cons_zero, List.set_cons_succ]
                  refine wpAnyH_take (i := 9) (v := .int .i64 ((j + 1 : Nat) : Int)) rfl (by kernel_rfl) (by kernel_rfl) (by kernel_rfl) (fun _ _ _ h => h) (Or.inl ⟨by kernel_rfl, fun wz _ => by go_simp⟩) hHeld ?_
                  try simp only [Act.put, List.setIfInBounds_toArray, List.set_cons_zero, List.set_cons_succ]
                  refine wpAnyH_take (i := 10) (v := .int .i64 (j : Int)) rfl (by kernel_rfl) (by kernel_rfl) (by kernel_rfl) (fun _ _ _ h => h) (Or.inl ⟨by kernel_rfl, fun wz _ => by go_simp⟩) hHeld ?_
                  try simp only [Act.put, List.setIfInBounds_toArray, List.set_cons_zero, List.set_cons_succ]
                  refine wpAnyH_take (i := 11) (v := .pointer (some ⟨w.heap.size, j, none⟩)) rfl (by kernel_rfl) (by kernel_rfl) (by kernel_rfl) (fun _ _ _ h => h) (Or.inl ⟨by kernel_rfl, fun wz _ => by go_simp⟩) hHeld ?_
                  try simp only [Act.put, List.setIfInBounds_toArray, List.set_cons_zero, List.set_cons_succ]
                  refine wpAnyH_take (i := 12) (v := .int .i64 y) rfl (by kernel_rfl) (by kernel_rfl) (by kernel_rfl) (fun _ _ _ h => h) (Or.inl ⟨by kernel_rfl, fun wz hz => by have h1 := hz.1; have h2 := hz.2; go_simp⟩) hHeld ?_
                  try simp only [Act.put, List.setIfInBounds_toArray, List.set_cons_zero, List.set_cons_succ]
                  refine wpAnyH_ready (rs := [7]) (by kernel_rfl) (by simp) ?_
                  refine AllReadyH.cons rfl (fun KK hKK => ?_) AllReadyH.nil
                  rw [if_pos ?hwant]
                  case hwant => kernel_rfl
                  go_simp
                  refine (dateDays_any _ _).mono ?_
                  rintro e w9 ⟨rfl, hb9⟩
                  have hb9' : Below w8.heap.size w8 w9 := (Below.refl _ w8).drew.trans hb9
                  clear hb9
                  refine hKK.out _ _ ⟨Keeps.of hb9' _ _ k14, Keeps.of hb9' _ _ hcell⟩ (fun hHeld => ?_)
                  clear hKK KK
                  have l14 := Keeps.of hb9' _ _ k14
                  have l16 := Keeps.of hb9' _ _ k16
                  have HB9 : Hid (Below w.heap.size w w9) := keep_below HB8.out (by omega) hb9'
                  have hs9 := hb9'.size
                  clear hb9' hcell k14 k16 HB8
                  try simp only [Act.put, List.setIfInBounds_toArray, List.set_cons_zero, List.set_cons_succ]
                  by_cases hle : AF1 ≤ y
                  · rw [decide_eq_true hle] at h2
                    subst h2
                    have h3 : AF2 = AF1 := HF.out.symm
                    subst h3
                    have hdt : decide (AF2 ≤ y) = true := decide_eq_true hle
                    refine wpAnyH_take (i := 13) (v := .bool true) rfl (by kernel_rfl) (by kernel_rfl) (by kernel_rfl) (fun _ _ _ h => h) (Or.inl ⟨by kernel_rfl, fun wz _ => by go_simp⟩) hHeld ?_
                    try simp only [Act.put, List.setIfInBounds_toArray, List.set_cons_zero, List.set_cons_succ]
                    refine wpAnyH_take (i := 14) (v := .bool true) rfl (by kernel_rfl) (by kernel_rfl) (by kernel_rfl) (fun _ _ _ h => h) (Or.inl ⟨by kernel_rfl, fun wz _ => by go_simp⟩) hHeld ?_
                    try simp only [Act.put, List.setIfInBounds_toArray, List.set_cons_zero, List.set_cons_succ]
                    refine wpAnyH_done (by kernel_rfl) ?_ _
                    refine NoPanic.normal ?_
                    simp only [List.getElem_toArray, List.getElem_cons_zero, List.getElem_cons_succ, Act.put, List.setIfInBounds_toArray, List.set_cons_zero, List.set_cons_succ]
                    go_wp2
                    go_ret
                    exact ⟨rfl, HB9.out⟩
                  · rw [decide_eq_false hle] at h2
                    subst h2
                    have h3 : AF2 = 0 := HF.out.symm
                    subst h3
                    have hdf : decide (AF1 ≤ y) = false := decide_eq_false hle
                    refine wpAnyH_take (i := 13) (v := .bool false) rfl (by kernel_rfl) (by kernel_rfl) (by kernel_rfl) (fun _ _ _ h => h) (Or.inl ⟨by kernel_rfl, fun wz _ => by go_simp⟩) hHeld ?_
                    try simp only [Act.put, List.setIfInBounds_toArray, List.set_cons_zero, List.set_cons_succ]
                    refine wpAnyH_take (i := 14) (v := .bool false) rfl (by kernel_rfl) (by kernel_rfl) (by kernel_rfl) (fun _ _ _ h => h) (Or.inl ⟨by kernel_rfl, fun wz _ => by go_simp⟩) hHeld ?_
                    try simp only [Act.put, List.setIfInBounds_toArray, List.set_cons_zero, List.set_cons_succ]
                    refine wpAnyH_done (by kernel_rfl) ?_ _
                    refine NoPanic.normal ?_
                    simp only [List.getElem_toArray, List.getElem_cons_zero, List.getElem_cons_succ, Act.put, List.setIfInBounds_toArray, List.set_cons_zero, List.set_cons_succ]
                    go_wp2_with fail
                    refine (dateDays_any _ _).mono ?_
                    rintro e wy ⟨rfl, hby⟩
                    go_wp2
                    go_ret
                    exact ⟨rfl, keep_below HB9.out (by omega) hby⟩
    · have hd : decide (l ≤ 1048576) = true := decide_eq_true hb
      go_enter Try.func4, Try.ntmps4
      go_wp2_with fail
      refine (zzBytes2_any _ _ _ _ _ _ _ hlm).mono ?_
      rintro e w' ⟨rfl, rfl⟩
      rw [hd]
      go_wp2
      go_ret
      exact ⟨rfl, Below.refl _ _⟩
  · have hd : decide (l ≤ 1048576) = false := decide_eq_false hb
    go_enter Try.func4, Try.ntmps4
    go_wp2_with fail
    refine (zzBytes2_any _ _ _ _ _ _ _ hlm).mono ?_
    rintro e w' ⟨rfl, rfl⟩
    rw [hd]
    go_wp2
    go_ret
    exact ⟨rfl, Below.refl _ _⟩

set_option maxHeartbeats 2000000 in
theorem law4_nil (d n kk : Int) (w : World) :
    Calls Try.prog 4 #[.slice none 0 0, .int .i64 d, .int .i64 n, .int .i64 kk] w fun e w' => e = .returned (.bool true) ∧ Below w.heap.size w w' := by
  have hne := fun w => nenil w none 0 0
  by_cases hk0 : kk < 0
  · go_enter Try.func4, Try.ntmps4
    go_wp2_with fail
    refine (zzBytes2_any _ _ _ _ _ _ _ (by unfold maxLen; omega)).mono ?_
    rintro e w ⟨rfl, rfl⟩
    rw [show decide (0 ≤ 1048576) = true from rfl]
    go_wp2
    go_ret
    exact ⟨rfl, Below.refl _ _⟩
  · by_cases hk1 : 0 < kk
    · go_enter Try.func4, Try.ntmps4
      go_wp2_with fail
      refine (zzBytes2_any _ _ _ _ _ _ _ (by unfold maxLen; omega)).mono ?_
      rintro e w ⟨rfl, rfl⟩
      rw [show decide (0 ≤ 1048576) = true from rfl]
      go_wp2
      go_ret
      exact ⟨rfl, Below.refl _ _⟩
    · obtain rfl : kk = 0 := by omega
      clear hk0 hk1
      go_enter Try.func4, Try.ntmps4
      go_wp2_with fail
      refine (zzBytes2_any _ _ _ _ _ _ _ (by unfold maxLen; omega)).mono ?_
      rintro e w ⟨rfl, rfl⟩
      rw [show decide (0 ≤ 1048576) = true from rfl]
      go_wp2
      refine wp_loop_rounds 1 ?_
      rw [rounds_succ]
      go_wp2_with fail
      refine (newDays_nil _).mono ?_
      rintro e w3 ⟨rfl, hb3⟩
      have HB3 : Hid (Below w.heap.size w w3) := hb3
      have hs3 := hb3.size
      clear hb3
      go_wp2_with fail
      refine (newDays_nil _).mono ?_
      rintro e w4 ⟨rfl, hb4⟩
      have c11 : w4.cell? ⟨w3.heap.size, 0, none⟩ = some (.slice none 0 0) := new_cell hb4
      have hs4 := new_size hb4
      have HB4 : Hid (Below w.heap.size w w4) := new_below HB3.out (by omega) hb4
      clear hb4 HB3
      go_wp2_with fail
      refine (newDate_any _ _).mono ?_
      rintro e w5 ⟨rfl, hb5⟩
      have d11 := Keeps.alloc hb5 _ _ c11
      have d12 : w5.cell? ⟨w4.heap.size, 0, none⟩ = some (.slice none 0 0) := new_cell hb5
      have hs5 := new_size hb5
      have HB5 : Hid (Below w.heap.size w w5) := new_below HB4.out (by omega) hb5
      have h35 : w3.heap.size < w5.heap.size := by omega
      clear hb5 HB4 c11
      go_wp2_with fail
      refine (after_empty _ _ _).mono ?_
      rintro e w6 ⟨rfl, hb6⟩
      have e12 := Keeps.alloc hb6 _ _ d12
      have e13 : w6.cell? ⟨w5.heap.size, 0, none⟩ = some (.int .i64 d) := new_cell hb6
      have hs6 := new_size hb6
      have HB6 : Hid (Below w.heap.size w w6) := new_below HB5.out (by omega) hb6
      have h46 : w4.heap.size < w6.heap.size := by omega
      clear hb6 HB5 d11 d12 h35
      go_wp2_with fail
      refine (after_empty _ _ _).mono ?_
      rintro e w7 ⟨rfl, hb7⟩
      have f14 : w7.cell? ⟨w6.heap.size, 0, none⟩ = some (.int .i64 0) := new_cell hb7
      have hs7 := new_size hb7
      have HB7 : Hid (Below w.heap.size w w7) := new_below HB6.out (by omega) hb7
      clear hb7 HB6 e12 e13 h46
      go_wp2_with fail
      refine (dateDays_any _ _).mono ?_
      rintro e w8 ⟨rfl, hb8⟩
      have k14 := Keeps.alloc hb8 _ _ f14
      have k16 : w8.cell? ⟨w7.heap.size, 0, none⟩ = some (.int .i64 0) := new_cell hb8
      have hs8 := new_size hb8
      have HB8 : Hid (Below w.heap.size w w8) := new_below HB7.out (by omega) hb8
      clear hb8 HB7 f14
      go_wp2_with fail
      refine (nth_empty _ _ _ _ _).mono ?_
      rintro e w8 ⟨rfl, rfl⟩
      go_upto_region 24 with fail
      go_region
      go_wp2_with fail
      refine (dateDays_any _ _).mono ?_
      rintro e wy ⟨rfl, hby⟩
      go_wp2
      go_ret
      exact ⟨rfl, keep_below HB8.out.drew (by show _ ≤ w8.heap.size; omega) hby⟩
end Go.Proofs.Qxb6630672a
