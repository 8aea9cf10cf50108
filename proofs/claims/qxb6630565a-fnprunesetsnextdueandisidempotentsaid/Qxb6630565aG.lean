/-
  (*chain).prune.
-/
import Derived.Test.Qxb6630565aG0
namespace Go.Proofs.Qxb6630565a
open Go.ChangeShapes Go.WideShapes Go.ChangeAt Go.RowKit

theorem delnil (w : World) : Calls Try.prog 50 #[.slice none 0 0, .int .i64 0, .int .i64 0] w fun e w' => e = .returned (.slice none 0 0) ∧ w' = w := by
  go_enter Try.func50, Try.ntmps50
  go_wp2
  go_ret
  exact ⟨rfl, rfl⟩

set_option linter.unusedSimpArgs false in
set_option maxRecDepth 100000 in
set_option maxHeartbeats 4000000 in
theorem prune_any (C o g n cap : Nat) (T X : Nat → Int) (h fl : Int) (cur0 : Array Value) (w : World) (hm : Mono T n) (hn : 2 ≤ n) (hn2 : n ≤ 1048576) (h1 : T 1 ≤ h) (hV : VR w g cap n T X) (hC : CH w C o (.slice (some ⟨g, 0, none⟩) n cap) fl cur0) :
    Calls Try.prog 27 #[.pointer (some ⟨C, o, none⟩), .int .u64 h] w fun e w' => e = .returned (.tuple #[]) ∧ ∃ k, 1 ≤ k ∧ k < n ∧ Cut T n h (k + 1) ∧ ∃ g' cap', VR w' g' cap' (n - k) (fun i => T (k + i)) (fun i => X (k + i)) ∧
      CH w' C o (.slice (some ⟨g', 0, none⟩) (n - k) cap') (if fl < T k then T k else fl) cur0 ∧ (g' = g ∨ w.heap.size ≤ g') ∧ Fr (fun b => b = C ∨ b = g) w w' := by
  have HV : Hid (VR w g cap n T X) := hV
  have HC : Hid (CH w C o (.slice (some ⟨g, 0, none⟩) n cap) fl cur0) := hC
  have HM : Hid (Mono T n) := hm
  have H1 : Hid (T 1 ≤ h) := h1
  clear hV hC hm h1
  go_enter Try.func27, Try.ntmps27
  go_wp2_with fail
  refine (search_any C o g n cap T X h _ HM.out (by omega) hn2 HV.out.len HV.out.cap HV.out.vc HC.out.c0).mono ?_
  rintro e w2 ⟨⟨r, rfl, hr⟩, hb2⟩
  have hr2 : 2 ≤ r := by
    rcases Nat.lt_or_ge r 2 with h3 | h3
    · have := hr.2.2 1 (by omega) (by omega)
      have := H1.out
      omega
    · exact h3
  obtain ⟨k, rfl⟩ : ∃ k, r = k + 1 := ⟨r - 1, by omega⟩
  have hk1 : 1 ≤ k := by omega
  have hkn : k < n := by have := hr.1; omega
  have HR : Hid (Cut T n h (k + 1)) := hr
  have F2 : Hid (Fr (fun b => b = C ∨ b = g) w w2) := Fr.below hb2
  have HV2 : Hid (VR w2 g cap n T X) := HV.out.fr (Fr.below (B := fun _ => False) hb2) (fun h => h)
  have HC2 : Hid (CH w2 C o (.slice (some ⟨g, 0, none⟩) n cap) fl cur0) := HC.out.fr (Fr.below (B := fun _ => False) hb2) (fun h => h)
  clear hr hr2 hb2
  have hlen := HV.out.len
  have hc0 := HC2.out.c0
  have hc7 := HC2.out.c7
  have hf7 := HC2.out.fro (o + 7)
  obtain ⟨y, hy⟩ : ∃ y, Hid (T k = y) := ⟨_, rfl⟩
  have hvk := (HV2.out.vc k hkn).1
  rw [Nat.zero_add, hy.out] at hvk
  go_upto_region 2 with fail
  go_region
  obtain ⟨FL, hFL⟩ : ∃ FL, Hid ((if fl < y then y else fl) = FL) := ⟨_, rfl⟩
  rw [hFL.out]
  obtain ⟨w3, hw3⟩ : ∃ w3, (w2.setCell ⟨C, o + 7, none⟩ (.int .u64 FL)).drew = w3 := ⟨_, rfl⟩
  rw [hw3]
  have hCg := HC2.out.ne HV2.out
  have HC3 : Hid (CH w3 C o (.slice (some ⟨g, 0, none⟩) n cap) FL cur0) := by
    rw [← hw3]
    exact (HC2.out.set7 FL).fr (Fr.refl (fun _ => False) _).drew (fun h => h)
  have G3 : Fr (fun b => b = C) w2 w3 := by
    rw [← hw3]
    exact ((Fr.refl (fun b => b = C) w2).setCell (p := ⟨C, o + 7, none⟩) rfl _).drew
  have HV3 : Hid (VR w3 g cap n T X) := HV2.out.fr G3 (fun e => hCg e.symm)
  have F3 : Hid (Fr (fun b => b = C ∨ b = g) w w3) := F2.out.trans (G3.mono fun _ => Or.inl)
  clear hw3 G3 hc0 hc7 hf7 hvk HC2 HV2 F2 w2
  have hc0 := HC3.out.c0
  have hf0 := HC3.out.fro o
  go_wp2_with fail
  refine (delete_any g cap n k T X w3 HV3.out hk1 hkn).mono ?_
  rintro e w4 ⟨rfl, hv4, hf4⟩
  have HV4 : Hid (VR w4 g cap (n - k) (fun i => T (k + i)) (fun i => X (k + i))) := hv4
  have HC4 : Hid (CH w4 C o (.slice (some ⟨g, 0, none⟩) n cap) FL cur0) := HC3.out.fr hf4 hCg
  have F4 : Hid (Fr (fun b => b = C ∨ b = g) w w4) := F3.out.trans (hf4.mono fun _ => Or.inr)
  clear hv4 hf4 hc0 hf0 HV3 HC3 F3 w3
  have hc0 := HC4.out.c0
  have hf0 := HC4.out.fro o
  go_upto_region 4 with fail
  obtain ⟨w5, hw5⟩ : ∃ w5, w4.setCell ⟨C, o, none⟩ (.slice (some ⟨g, 0, none⟩) (n - k) cap) = w5 := ⟨_, rfl⟩
  rw [hw5]
  have HC5 : Hid (CH w5 C o (.slice (some ⟨g, 0, none⟩) (n - k) cap) FL cur0) := by
    rw [← hw5]
    exact HC4.out.set0 _
  have G5 : Fr (fun b => b = C) w4 w5 := by
    rw [← hw5]
    exact (Fr.refl (fun b => b = C) w4).setCell (p := ⟨C, o, none⟩) rfl _
  have HV5 : Hid (VR w5 g cap (n - k) (fun i => T (k + i)) (fun i => X (k + i))) := HV4.out.fr G5 (fun e => hCg e.symm)
  have F5 : Hid (Fr (fun b => b = C ∨ b = g) w w5) := F4.out.trans (G5.mono fun _ => Or.inl)
  clear hw5 G5 hc0 hf0 HC4 HV4 F4 w4
  have hc1 := HC5.out.c1
  have hf1 := HC5.out.fro (o + 1)
  have hld := ld32 ⟨C, o + 1, none⟩ 0 w5 hc1
  have hldd := ld32 ⟨C, o + 1, none⟩ 0 w5.drew hc1
  have hst := st32 ⟨C, o + 1, none⟩ 0 _ w5 hc1 hf1
  have hstd := st32 ⟨C, o + 1, none⟩ 0 _ w5.drew hc1 hf1
  have hk0 : 0 < k := hk1
  have hw0 : IntKind.i64.wrap 0 = 0 := by decide
  have hw32 : IntKind.i32.wrap 0 = 0 := by decide
  have hwk : IntKind.i64.wrap (-(k : Int)) = -k := by rw [IntKind.wrap_i64]; omega
  have HC6 : Hid (CH (w5.drew.setCell ⟨C, o + 1, none⟩ (.int .i32 0)) C o (.slice (some ⟨g, 0, none⟩) (n - k) cap) FL cur0) := (HC5.out.fr (Fr.refl (fun _ => False) w5).drew (fun h => h)).set1
  have hmx : (if (0 : Int) - k < 0 then (0 : Int) else 0 - k) = 0 := if_pos (by omega)
  refine wp_region_noPanic ?_
  refine wp_region_held_drew (S := (fun w' => w'.cell? ⟨C, o + 1, none⟩ = some (.int .i32 0))) (by kernel_rfl) hc1 (fun hHeld => ?_)
  refine wpAnyH_take (i := 0) (v := .pointer (some ⟨C, o, none⟩)) rfl (by kernel_rfl) (by kernel_rfl) (by kernel_rfl) (fun _ _ _ h => h) (Or.inl ⟨by kernel_rfl, fun wz _ => by go_simp⟩) hHeld ?_
  try simp only [Act.put, List.setIfInBounds_toArray, List.set_cons_zero, List.set_cons_succ]
  refine wpAnyH_take (i := 1) (v := .pointer (some ⟨C, o, none⟩)) rfl (by kernel_rfl) (by kernel_rfl) (by kernel_rfl) (fun _ _ _ h => h) (Or.inl ⟨by kernel_rfl, fun wz _ => by go_simp⟩) hHeld ?_
  try simp only [Act.put, List.setIfInBounds_toArray, List.set_cons_zero, List.set_cons_succ]
  refine wpAnyH_take (i := 2) (v := .pointer (some ⟨C, o + 1, none⟩)) rfl (by kernel_rfl) (by kernel_rfl) (by kernel_rfl) (fun _ _ _ h => h) (Or.inl ⟨by kernel_rfl, fun wz _ => by go_simp⟩) hHeld ?_
  try simp only [Act.put, List.setIfInBounds_toArray, List.set_cons_zero, List.set_cons_succ]
  refine wpAnyH_take (i := 3) (v := .pointer (some ⟨C, o, none⟩)) rfl (by kernel_rfl) (by kernel_rfl) (by kernel_rfl) (fun _ _ _ h => h) (Or.inl ⟨by kernel_rfl, fun wz _ => by go_simp⟩) hHeld ?_
  try simp only [Act.put, List.setIfInBounds_toArray, List.set_cons_zero, List.set_cons_succ]
  refine wpAnyH_take (i := 4) (v := .pointer (some ⟨C, o, none⟩)) rfl (by kernel_rfl) (by kernel_rfl) (by kernel_rfl) (fun _ _ _ h => h) (Or.inl ⟨by kernel_rfl, fun wz _ => by go_simp⟩) hHeld ?_
  try simp only [Act.put, List.setIfInBounds_toArray, List.set_cons_zero, List.set_cons_succ]
  refine wpAnyH_take (i := 5) (v := .pointer (some ⟨C, o + 1, none⟩)) rfl (by kernel_rfl) (by kernel_rfl) (by kernel_rfl) (fun _ _ _ h => h) (Or.inl ⟨by kernel_rfl, fun wz _ => by go_simp⟩) hHeld ?_
  try simp only [Act.put, List.setIfInBounds_toArray, List.set_cons_zero, List.set_cons_succ]
  refine wpAnyH_take (i := 8) (v := .int .i64 k) rfl (by kernel_rfl) (by kernel_rfl) (by kernel_rfl) (fun _ _ _ h => h) (Or.inl ⟨by kernel_rfl, fun wz _ => by go_simp⟩) hHeld ?_
  try simp only [Act.put, List.setIfInBounds_toArray, List.set_cons_zero, List.set_cons_succ]
  refine wpAnyH_ready (rs := [6]) (by kernel_rfl) (by simp) ?_
  refine AllReadyH.cons rfl (fun KK hKK => ?_) AllReadyH.nil
  go_simp
  refine hKK.out _ _ hc1 (fun hHeld => ?_)
  clear hKK KK
  try simp only [Act.put, List.setIfInBounds_toArray, List.set_cons_zero, List.set_cons_succ]
  refine wpAnyH_take (i := 7) (v := .int .i64 0) rfl (by kernel_rfl) (by kernel_rfl) (by kernel_rfl) (fun _ _ _ h => h) (Or.inl ⟨by kernel_rfl, fun wz _ => by go_simp⟩) hHeld ?_
  try simp only [Act.put, List.setIfInBounds_toArray, List.set_cons_zero, List.set_cons_succ]
  refine wpAnyH_take (i := 9) (v := .int .i64 (-k)) rfl (by kernel_rfl) (by kernel_rfl) (by kernel_rfl) (fun _ _ _ h => h) (Or.inl ⟨by kernel_rfl, fun wz _ => by go_simp⟩) hHeld ?_
  try simp only [Act.put, List.setIfInBounds_toArray, List.set_cons_zero, List.set_cons_succ]
  refine wpAnyH_ready (rs := [10]) (by kernel_rfl) (by simp) ?_
  refine AllReadyH.cons rfl (fun KK hKK => ?_) AllReadyH.nil
  go_simp
  refine hKK.out _ _ hc1 (fun hHeld => ?_)
  clear hKK KK
  try simp only [Act.put, List.setIfInBounds_toArray, List.set_cons_zero, List.set_cons_succ]
  refine wpAnyH_take (i := 11) (v := .int .i32 0) rfl (by kernel_rfl) (by kernel_rfl) (by kernel_rfl) (fun _ _ _ h => h) (Or.inl ⟨by kernel_rfl, fun wz _ => by go_simp⟩) hHeld ?_
  try simp only [Act.put, List.setIfInBounds_toArray, List.set_cons_zero, List.set_cons_succ]
  refine wpAnyH_ready (rs := [12]) (by kernel_rfl) (by simp) ?_
  refine AllReadyH.cons rfl (fun KK hKK => ?_) AllReadyH.nil
  go_simp
  refine hKK.out _ _ HC6.out.c1 (fun hHeld => ?_)
  clear hKK KK
  try simp only [Act.put, List.setIfInBounds_toArray, List.set_cons_zero, List.set_cons_succ]
  refine wpAnyH_done (by kernel_rfl) ?_ _
  refine NoPanic.normal ?_
  try simp only [List.getElem_toArray, List.getElem_cons_zero, List.getElem_cons_succ, Act.put, List.setIfInBounds_toArray, List.set_cons_zero, List.set_cons_succ]
  obtain ⟨w6, hw6⟩ : ∃ w6, (w5.setCell ⟨C, o + 1, none⟩ (.int .i32 0)).drew = w6 := ⟨_, rfl⟩
  rw [hw6]
  have HC7 : Hid (CH w6 C o (.slice (some ⟨g, 0, none⟩) (n - k) cap) FL cur0) := by
    rw [← hw6]
    exact HC6.out
  have G6 : Fr (fun b => b = C) w5 w6 := by
    rw [← hw6]
    exact ((Fr.refl (fun b => b = C) w5).setCell (p := ⟨C, o + 1, none⟩) rfl _).drew
  have HV6 : Hid (VR w6 g cap (n - k) (fun i => T (k + i)) (fun i => X (k + i))) := HV5.out.fr G6 (fun e => hCg e.symm)
  have F6 : Hid (Fr (fun b => b = C ∨ b = g) w w6) := F5.out.trans (G6.mono fun _ => Or.inl)
  clear hw6 G6 hc1 hf1 hld hldd hst hstd hw0 hw32 hwk HC6 hmx HC5 HV5 F5
  have hc0 := HC7.out.c0
  have hlen6 := HV6.out.len
  have hcm : cap ≤ 9223372036854775807 := HV.out.cap
  have hnk : 1 ≤ n - k := by omega
  have hnk2 : n - k ≤ 1048576 := by omega
  go_upto_region 5 with fail
  go_region
  go_upto_if 66 with fail
  go_cut [] (fun wx => ∃ g' cap', Hid (VR wx g' cap' (n - k) (fun i => T (k + i)) (fun i => X (k + i))) ∧ Hid (CH wx C o (.slice (some ⟨g', 0, none⟩) (n - k) cap') FL cur0) ∧ (g' = g ∨ w.heap.size ≤ g') ∧ Hid (Fr (fun b => b = C ∨ b = g) w wx))
  case first =>
    by_cases hbig : 4 * ((n - k : Nat) : Int) + 1 < cap
    · have hmk : ∀ w, (Instr.makeSlice 43 (.int .i64 0) (.int .i64 (2 * ((n - k : Nat) : Int) + 1))).run Try.prog w = .ok (.slice (some ⟨w.heap.size, 0, none⟩) 0 (2 * (n - k) + 1)) (w.alloc (.cells (madeCells z72 ((2 * (n - k) + 1) * 6)) 72)) := fun w => make72 (n - k) hnk2 w
      have hwm : IntKind.i64.wrap (2 * ((n - k : Nat) : Int)) = 2 * ((n - k : Nat) : Int) := by rw [IntKind.wrap_i64]; omega
      have hwm2 : IntKind.i64.wrap (2 * ((n - k : Nat) : Int) + 1) = 2 * ((n - k : Nat) : Int) + 1 := by rw [IntKind.wrap_i64]; omega
      have hf0 := HC7.out.fro o
      have hgs : g < w6.heap.size := by
        obtain ⟨cur, h1, _⟩ := HV6.out.row
        exact (Array.getElem?_eq_some_iff.1 h1).1
      have hCs := HC7.out.lt
      go_upto_region 6 with fail
      go_region_law (refine step_repack (.tmp 75) (.tmp 79) rfl rfl w6.heap.size (2 * (n - k) + 1) g (n - k) cap (fun i => T (k + i)) (fun i => X (k + i)) rfl rfl (HV6.out.fr (B := fun _ => False) (by repeat (first | exact Fr.refl _ _ | refine Fr.alloc ?_ _ | refine Fr.drew ?_)) (fun h => h)) (by exact made_row _ _) (by omega) (by unfold maxLen; omega) ?_; intro w7 hv7 hf7; have hCx : CH w7 C o (.slice (some ⟨g, 0, none⟩) (n - k) cap) FL cur0 := (HC7.out.fr (B := fun _ => False) (by repeat (first | exact Fr.refl _ _ | refine Fr.alloc ?_ _ | refine Fr.drew ?_)) (fun h => h)).fr hf7 (by omega); have hFx : Fr (fun b => b = C ∨ b = g) w w7 := (F6.out.trans (by repeat (first | exact Fr.refl _ _ | refine Fr.alloc ?_ _ | refine Fr.drew ?_))).trans' hf7 (fun i hi => .inr (by have := F6.out.size; omega)); have hcx := hCx.c0; have hfx := hCx.fro o; have HVx : Hid (VR w7 w6.heap.size (2 * (n - k) + 1) (n - k) (fun i => T (k + i)) (fun i => X (k + i))) := hv7; have HCx : Hid (CH w7 C o (.slice (some ⟨g, 0, none⟩) (n - k) cap) FL cur0) := hCx; have HFx : Hid (Fr (fun b => b = C ∨ b = g) w w7) := hFx; clear hv7 hf7 hCx hFx)
      all_goals
        go_wp2
        go_meet
        have hCg2 : C ≠ w6.heap.size := by omega
        exact ⟨w6.heap.size, 2 * (n - k) + 1, HVx.out.fr ((Fr.refl (fun b => b = C) _).setCell (p := ⟨C, o, none⟩) rfl _) (fun e => hCg2 e.symm), HCx.out.set0 _, .inr (by have := F6.out.size; omega), HFx.out.setCell (p := ⟨C, o, none⟩) (.inl rfl) _⟩
    · go_wp2
      go_meet
      exact ⟨g, cap, HV6.out.fr (Fr.refl (fun _ => False) _).drew (fun h => h), HC7.out.fr (Fr.refl (fun _ => False) _).drew (fun h => h), .inl rfl, F6.out.drew⟩
  case rest =>
    obtain ⟨g', cap', HV8, HC8, hg', F8⟩ := hcut
    clear HC7 HV6 F6 hc0 hlen6 hcm hlen
    obtain ⟨m, hm⟩ : ∃ m, n - k = m := ⟨_, rfl⟩
    rw [hm] at HV8 HC8 hnk hnk2
    have HMm : Hid (n - k = m) := hm
    clear hm
    have hc0 := HC8.out.c0
    have hc6 := HC8.out.c6
    go_wp2
    go_loopw [5, 6, 93] (fun a b c wr => ∃ i : Nat, a = .int .i64 0 ∧ b = .int .i64 0 ∧ c = .int .i64 i ∧ i ≤ m ∧ Hid (Below wc.heap.size wc wr)) (fun _ _ c _ => m - (intOf c).toNat)
    case atStart => exact ⟨0, rfl, rfl, rfl, by omega, Below.refl _ _⟩
    case round =>
      obtain ⟨i, rfl, rfl, rfl, him, HB⟩ := hrel
      by_cases hi : i < m
      · obtain ⟨x0, x1, x2, x3, x4, x5⟩ := (HV8.out.vc i hi).keep (Keeps.of HB.out)
        rw [Nat.zero_add] at x0 x1 x2 x3 x4 x5
        have hsz := HB.out.size
        go_wp2
        exact ⟨⟨i + 1, rfl, rfl, rfl, by omega, HB.out.alloc hsz _⟩, by simp only [intOf]; omega⟩
      · have HV9 : Hid (VR wr g' cap' m (fun i => T (k + i)) (fun i => X (k + i))) := HV8.out.fr (Fr.below (B := fun _ => False) HB.out) (fun h => h)
        have HC9 : Hid (CH wr C o (.slice (some ⟨g', 0, none⟩) m cap') FL cur0) := HC8.out.fr (Fr.below (B := fun _ => False) HB.out) (fun h => h)
        have F9 : Hid (Fr (fun b => b = C ∨ b = g) w wr) := F8.out.trans (Fr.below HB.out)
        clear HV8 HC8 F8 hc0 hc6 HB
        have hc6 := HC9.out.c6
        have hf6 := HC9.out.fro (o + 6)
        have hCg' := HC9.out.ne HV9.out
        go_wp2_with fail
        refine (delnil _).mono ?_
        rintro e wr ⟨rfl, rfl⟩
        have HC10 : Hid (CH (wr.setCell ⟨C, o + 6, none⟩ (.slice none 0 0)) C o (.slice (some ⟨g', 0, none⟩) m cap') FL cur0) := HC9.out.set6
        have HV10 : Hid (VR (wr.setCell ⟨C, o + 6, none⟩ (.slice none 0 0)) g' cap' m (fun i => T (k + i)) (fun i => X (k + i))) := HV9.out.fr ((Fr.refl (fun b => b = C) _).setCell (p := ⟨C, o + 6, none⟩) rfl _) (fun e => hCg' e.symm)
        have F10 : Hid (Fr (fun b => b = C ∨ b = g) w (wr.setCell ⟨C, o + 6, none⟩ (.slice none 0 0))) := F9.out.setCell (p := ⟨C, o + 6, none⟩) (.inl rfl) _
        have hc0 : wr.cell? ⟨C, o, none⟩ = some (.slice (some ⟨g', 0, none⟩) m cap') := HC9.out.c0
        go_wp2
        obtain ⟨w10, hw10⟩ : ∃ w10, wr.setCell ⟨C, o + 6, none⟩ (.slice none 0 0) = w10 := ⟨_, rfl⟩
        rw [hw10] at HC10 HV10 F10 ⊢
        clear hw10 HC9 HV9 F9 hc6 hf6 hc0
        have hc0 := HC10.out.c0
        have hc5 := HC10.out.c5
        go_loop [131] (fun c => ∃ i : Nat, c = .int .i64 i ∧ i ≤ m) (fun c => m - (intOf c).toNat)
        case atStart => exact ⟨0, rfl, by omega⟩
        case round =>
          obtain ⟨j, rfl, hjm⟩ := hrel
          by_cases hj : j < m
          · have x3 := (HV10.out.vc j hj).2.2.2.1
            rw [Nat.zero_add] at x3
            go_wp2
            exact ⟨⟨j + 1, rfl, by omega⟩, by simp only [intOf]; omega⟩
          · go_wp2
            go_end0
            refine ⟨rfl, k, hk1, hkn, HR.out, g', cap', ?_, ?_, hg', F10.out⟩
            · rw [HMm.out]
              exact HV10.out
            · rw [HMm.out, hy.out, hFL.out]
              exact HC10.out
end Go.Proofs.Qxb6630565a
