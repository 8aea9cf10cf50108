/-
  searchBack, search.
-/
import Derived.Test.Qxb6630565aB
namespace Go.Proofs.Qxb6630565a
open Go.ChangeShapes Go.WideShapes Go.ChangeAt Go.RowKit

set_option linter.unusedSimpArgs false in
set_option maxHeartbeats 4000000 in
theorem back_any (C o g n cap : Nat) (T X : Nat → Int) (q : Nat) (h : Int) (w : World) (hm : Mono T n) (hn : 1 ≤ n) (hn2 : n ≤ 1048576) (hcap : n ≤ cap) (hcm : cap ≤ maxLen) (hv : VC g 0 n T X w)
    (hC : w.cell? ⟨C, o, none⟩ = some (.slice (some ⟨g, 0, none⟩) n cap)) (hq : w.cell? ⟨q, 0, none⟩ = some (.int .u64 h)) :
    Calls Try.prog 61 #[.pointer (some ⟨C, o, none⟩), aft q] w fun e w' => (∃ r : Nat, e = .returned (.int .i64 r) ∧ Cut T n h r) ∧ Below w.heap.size w w' := by
  have HM : Hid (Mono T n) := hm
  have HV : Hid (VC g 0 n T X w) := hv
  clear hm hv
  unfold maxLen at hcm
  have lC : C < w.heap.size := by simpa using World.block_lt_of_cell? _ _ hC
  have hmf : ∀ (fn : Fn) (first cap : Array Value) (w : World), (Instr.makeFunc fn first cap).run Try.prog w = .ok (.func fn first cap) w := fun _ _ _ _ => rfl
  go_enter Try.func61, Try.ntmps61
  go_wp2
  go_loopw [5, 6, 7] (fun a b c wr => ∃ hi st lo : Nat, a = .int .i64 hi ∧ b = .int .i64 st ∧ c = .int .i64 lo ∧ lo < hi ∧ hi ≤ n ∧ Hid (st + hi = n + 1 ∧ lo = hi - st) ∧ Hid (Below (w.heap.size + 1) (w.alloc (.cells #[aft q] 114)) wr) ∧
      Hid (∀ i, hi ≤ i → i < n → h < T i)) (fun a _ _ _ => (intOf a).toNat)
  case atStart => exact ⟨n, 1, n - 1, rfl, rfl, by go_num, by omega, by omega, ⟨by omega, by omega⟩, Below.refl _ _, fun i h1 h2 => by omega⟩
  case round =>
    obtain ⟨hi, st, lo, rfl, rfl, rfl, hlh, hhn, HS, HB, HP⟩ := hrel
    have hst1 : st ≤ n := by have := HS.out; omega
    have hk := (Keeps.alloc1 w (.cells #[aft q] 114)).trans (Keeps.of (by rw [size_alloc]; exact HB.out))
    have hPw : wr.cell? ⟨w.heap.size, 0, none⟩ = some (aft q) := Keeps.of (by rw [size_alloc]; exact HB.out) _ _ (cell_of (heap_alloc_new w (.cells #[aft q] 114)) rfl)
    have hCw := hk _ _ hC
    have hqw := hk _ _ hq
    have HVw : Hid (VC g 0 n T X wr) := HV.out.keep hk
    have hsz : w.heap.size + 1 ≤ wr.heap.size := by
      have := HB.out.size
      rwa [size_alloc] at this
    clear hk
    by_cases hl0 : 0 < lo
    · have hln : lo < n := by omega
      have HV6 := HVw.out lo hln
      rw [Nat.zero_add] at HV6
      obtain ⟨y, hy⟩ : ∃ y, Hid (T lo = y) := ⟨_, rfl⟩
      obtain ⟨z, hz⟩ : ∃ z, X lo = z := ⟨_, rfl⟩
      rw [hy.out, hz] at HV6
      clear hz
      go_upto_region 3 with fail
      refine wp_region_noPanic ?_
      refine wp_region_held_drew (S := (fun w' => w'.cell? ⟨w.heap.size, 0, none⟩ = some (aft q) ∧ w'.cell? ⟨C, o, none⟩ = some (.slice (some ⟨g, 0, none⟩) n cap) ∧ w'.cell? ⟨q, 0, none⟩ = some (.int .u64 h) ∧ V6 g (lo * 6) y z w')) (by kernel_rfl) ⟨hPw, hCw, hqw, HV6⟩ (fun hHeld => ?_)
      refine wpAnyH_take (i := 0) (v := .int .i64 lo) rfl (by kernel_rfl) (by kernel_rfl) (by kernel_rfl) (fun _ _ _ h => h) (Or.inl ⟨by kernel_rfl, fun wz _ => by go_simp⟩) hHeld ?_
      try simp only [Act.put, List.setIfInBounds_toArray, List.set_cons_zero, List.set_cons_succ]
      refine wpAnyH_take (i := 1) (v := .bool true) rfl (by kernel_rfl) (by kernel_rfl) (by kernel_rfl) (fun _ _ _ h => h) (Or.inl ⟨by kernel_rfl, fun wz _ => by go_simp⟩) hHeld ?_
      try simp only [Act.put, List.setIfInBounds_toArray, List.set_cons_zero, List.set_cons_succ]
      refine wpAnyH_take (i := 2) (v := .bool true) rfl (by kernel_rfl) (by kernel_rfl) (by kernel_rfl) (fun _ _ _ h => h) (Or.inl ⟨by kernel_rfl, fun wz _ => by go_simp⟩) hHeld ?_
      try simp only [Act.put, List.setIfInBounds_toArray, List.set_cons_zero, List.set_cons_succ]
      refine wpAnyH_take (i := 3) (v := aft q) rfl (by kernel_rfl) (by kernel_rfl) (by kernel_rfl) (fun _ _ _ h => h) (Or.inl ⟨by kernel_rfl, fun wz hz => by obtain ⟨h1, h2, h3, g0, g1, g2, g3, g4, g5⟩ := hz; go_simp⟩) hHeld ?_
      try simp only [Act.put, List.setIfInBounds_toArray, List.set_cons_zero, List.set_cons_succ]
      refine wpAnyH_take (i := 4) (v := .pointer (some ⟨C, o, none⟩)) rfl (by kernel_rfl) (by kernel_rfl) (by kernel_rfl) (fun _ _ _ h => h) (Or.inl ⟨by kernel_rfl, fun wz _ => by go_simp⟩) hHeld ?_
      try simp only [Act.put, List.setIfInBounds_toArray, List.set_cons_zero, List.set_cons_succ]
      refine wpAnyH_take (i := 5) (v := .pointer (some ⟨C, o, none⟩)) rfl (by kernel_rfl) (by kernel_rfl) (by kernel_rfl) (fun _ _ _ h => h) (Or.inl ⟨by kernel_rfl, fun wz hz => by obtain ⟨h1, h2, h3, g0, g1, g2, g3, g4, g5⟩ := hz; go_simp⟩) hHeld ?_
      try simp only [Act.put, List.setIfInBounds_toArray, List.set_cons_zero, List.set_cons_succ]
      refine wpAnyH_take (i := 6) (v := .pointer (some ⟨C, o, none⟩)) rfl (by kernel_rfl) (by kernel_rfl) (by kernel_rfl) (fun _ _ _ h => h) (Or.inl ⟨by kernel_rfl, fun wz hz => by obtain ⟨h1, h2, h3, g0, g1, g2, g3, g4, g5⟩ := hz; go_simp⟩) hHeld ?_
      try simp only [Act.put, List.setIfInBounds_toArray, List.set_cons_zero, List.set_cons_succ]
      refine wpAnyH_take (i := 7) (v := .slice (some ⟨g, 0, none⟩) n cap) rfl (by kernel_rfl) (by kernel_rfl) (by kernel_rfl) (fun _ _ _ h => h) (Or.inl ⟨by kernel_rfl, fun wz hz => by obtain ⟨h1, h2, h3, g0, g1, g2, g3, g4, g5⟩ := hz; go_simp⟩) hHeld ?_
      try simp only [Act.put, List.setIfInBounds_toArray, List.set_cons_zero, List.set_cons_succ]
      refine wpAnyH_take (i := 8) (v := .int .i64 lo) rfl (by kernel_rfl) (by kernel_rfl) (by kernel_rfl) (fun _ _ _ h => h) (Or.inl ⟨by kernel_rfl, fun wz _ => by go_simp⟩) hHeld ?_
      try simp only [Act.put, List.setIfInBounds_toArray, List.set_cons_zero, List.set_cons_succ]
      refine wpAnyH_take (i := 9) (v := .pointer (some ⟨g, lo * 6, none⟩)) rfl (by kernel_rfl) (by kernel_rfl) (by kernel_rfl) (fun _ _ _ h => h) (Or.inl ⟨by kernel_rfl, fun wz _ => by go_simp⟩) hHeld ?_
      try simp only [Act.put, List.setIfInBounds_toArray, List.set_cons_zero, List.set_cons_succ]
      refine wpAnyH_take (i := 10) (v := ver y z) rfl (by kernel_rfl) (by kernel_rfl) (by kernel_rfl) (fun _ _ _ h => h) (Or.inl ⟨by kernel_rfl, fun wz hz => by obtain ⟨h1, h2, h3, g0, g1, g2, g3, g4, g5⟩ := hz; go_simp⟩) hHeld ?_
      try simp only [Act.put, List.setIfInBounds_toArray, List.set_cons_zero, List.set_cons_succ]
      refine wpAnyH_ready (rs := [11]) (by kernel_rfl) (by simp) ?_
      refine AllReadyH.cons rfl (fun KK hKK => ?_) AllReadyH.nil
      rw [if_pos ?hwant]
      case hwant => kernel_rfl
      go_simp
      refine (stamp_any _ _ _ _ _ _ _ (by omega)).mono ?_
      rintro e w3 ⟨rfl, hb3⟩
      have hb3' : Below wr.heap.size wr w3 := (Below.refl _ wr).drew.trans hb3
      clear hb3
      have k1 := Keeps.of hb3'
      refine hKK.out _ _ ⟨k1 _ _ hPw, k1 _ _ hCw, k1 _ _ hqw, HV6.keep k1⟩ (fun hHeld => ?_)
      clear hKK KK
      try simp only [Act.put, List.setIfInBounds_toArray, List.set_cons_zero, List.set_cons_succ]
      refine wpAnyH_ready (rs := [12]) (by kernel_rfl) (by simp) ?_
      refine AllReadyH.cons rfl (fun KK hKK => ?_) AllReadyH.nil
      rw [if_pos ?hwant]
      case hwant => kernel_rfl
      go_simp
      refine (after1_any _ _ _ _ h _ (k1 _ _ hqw)).mono ?_
      rintro e w4 ⟨rfl, hb4⟩
      refine hKK.out _ _ ⟨Keeps.of hb4 _ _ (k1 _ _ hPw), Keeps.of hb4 _ _ (k1 _ _ hCw), Keeps.of hb4 _ _ (k1 _ _ hqw), (HV6.keep k1).keep (Keeps.of hb4)⟩ (fun hHeld => ?_)
      clear hKK KK
      try simp only [Act.put, List.setIfInBounds_toArray, List.set_cons_zero, List.set_cons_succ]
      have HBc : Hid (Below (w.heap.size + 1) (w.alloc (.cells #[aft q] 114)) w4) := keep_below (keep_below HB.out (by omega) hb3') (by have := hb3'.size; omega) hb4
      clear hb4 hb3' k1 HV6
      by_cases hyh : h < y
      · have hdt : decide (h < y) = true := decide_eq_true hyh
        refine wpAnyH_take (i := 13) (v := .bool true) rfl (by kernel_rfl) (by kernel_rfl) (by kernel_rfl) (fun _ _ _ h => h) (Or.inl ⟨by kernel_rfl, fun wz _ => by go_simp⟩) hHeld ?_
        try simp only [Act.put, List.setIfInBounds_toArray, List.set_cons_zero, List.set_cons_succ]
        refine wpAnyH_done (by kernel_rfl) ?_ _
        refine NoPanic.normal ?_
        try simp only [List.getElem_toArray, List.getElem_cons_zero, List.getElem_cons_succ, Act.put, List.setIfInBounds_toArray, List.set_cons_zero, List.set_cons_succ]
        go_wp2
        have hS := HS.out
        refine ⟨⟨lo, 2 * st, lo - 2 * st, rfl, by go_num, ?_, by omega, by omega, ⟨by omega, rfl⟩, HBc, fun i h1 h2 => ?_⟩, by simp only [intOf]; omega⟩
        · congr 1
          split <;> omega
        · have := HM.out lo i h1 h2
          rw [hy.out] at this
          omega
      · have hdt : decide (h < y) = false := decide_eq_false hyh
        refine wpAnyH_take (i := 13) (v := .bool false) rfl (by kernel_rfl) (by kernel_rfl) (by kernel_rfl) (fun _ _ _ h => h) (Or.inl ⟨by kernel_rfl, fun wz _ => by go_simp⟩) hHeld ?_
        try simp only [Act.put, List.setIfInBounds_toArray, List.set_cons_zero, List.set_cons_succ]
        refine wpAnyH_done (by kernel_rfl) ?_ _
        refine NoPanic.normal ?_
        try simp only [List.getElem_toArray, List.getElem_cons_zero, List.getElem_cons_succ, Act.put, List.setIfInBounds_toArray, List.set_cons_zero, List.set_cons_succ]
        have hsz4 : w.heap.size + 1 ≤ w4.heap.size := by
          have := HBc.out.size
          rwa [size_alloc] at this
        have hk4 := (Keeps.alloc1 w (.cells #[aft q] 114)).trans (Keeps.of (by rw [size_alloc]; exact HBc.out))
        have hP4 : w4.cell? ⟨w.heap.size, 0, none⟩ = some (aft q) := Keeps.of (by rw [size_alloc]; exact HBc.out) _ _ (cell_of (heap_alloc_new w (.cells #[aft q] 114)) rfl)
        have hC4 := hk4 _ _ hC
        have hq4 := hk4 _ _ hq
        have HV4 : Hid (VC g 0 n T X w4) := HV.out.keep hk4
        clear hk4
        go_wp2_with fail
        refine (bsf_any g (lo * 6) (hi - lo) _ (fun i => T (lo + i)) (fun i => X (lo + i)) w.heap.size q h _ (fun i j h1 h2 => HM.out _ _ (by omega) (by omega)) (by omega) (fun i hi' => ?_) hP4 hq4).mono ?_
        · have := HV4.out (lo + i) (by omega)
          rwa [show 0 + (lo + i) * 6 = lo * 6 + i * 6 by omega] at this
        rintro e w5 ⟨⟨r, rfl, hr1, hr2, hr3⟩, hb5⟩
        have HB5 : Hid (Below w.heap.size w w5) := keep_below (((Below.refl _ w).alloc (Nat.le_refl _) _).trans (HBc.out.mono (by omega))) (by omega) hb5
        have HCut : Hid (Cut T n h (lo + r)) := by
          refine ⟨by omega, fun i h1 => ?_, fun i h1 h2 => ?_⟩
          · rcases Nat.lt_or_ge i lo with h3 | h3
            · have := HM.out i lo (by omega) (by omega)
              rw [hy.out] at this
              omega
            · have := hr2 (i - lo) (by omega)
              simp only [show lo + (i - lo) = i by omega] at this
              exact this
          · rcases Nat.lt_or_ge i hi with h3 | h3
            · have := hr3 (i - lo) (by omega) (by omega)
              simp only [show lo + (i - lo) = i by omega] at this
              exact this
            · exact HP.out i h3 h2
        clear hr2 hr3 hb5
        go_wp2
        go_ret
        exact ⟨⟨lo + r, by go_num, HCut.out⟩, HB5.out⟩
    · obtain rfl : lo = 0 := by omega
      go_upto_region 3 with fail
      go_region
      go_wp2_with fail
      refine (bsf_any g 0 hi _ T X w.heap.size q h _ (fun i j h1 h2 => HM.out _ _ h1 (by omega)) (by omega) (fun i hi' => ?_) ?_ ?_).mono ?_
      · exact (HVw.out i (by omega)).keep (Keeps.of (Below.refl _ _).drew)
      · exact hPw
      · exact hqw
      rintro e w5 ⟨⟨r, rfl, hr1, hr2, hr3⟩, hb5⟩
      have HB5 : Hid (Below w.heap.size w w5) := keep_below (((Below.refl _ w).alloc (Nat.le_refl _) _).trans (HB.out.mono (by omega))) (by omega) ((Below.refl _ wr).drew.trans hb5)
      have HCut : Hid (Cut T n h r) := by
        refine ⟨by omega, hr2, fun i h1 h2 => ?_⟩
        rcases Nat.lt_or_ge i hi with h3 | h3
        · exact hr3 i h1 h3
        · exact HP.out i h3 h2
      clear hr2 hr3 hb5
      go_wp2
      go_ret
      exact ⟨⟨r, by go_num, HCut.out⟩, HB5.out⟩
end Go.Proofs.Qxb6630565a
