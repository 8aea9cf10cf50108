/-
  ZZappendVersion.
-/
import Derived.Test.Qxb6630565aK
namespace Go.Proofs.Qxb6630565a
open Go.ChangeShapes Go.WideShapes Go.ChangeAt Go.RowKit

theorem CH.setlast {w : World} {C o : Nat} {sv : Value} {fl : Int} {cur0 : Array Value} (h : CH w C o sv fl cur0) (r : Nat) (hr : r = 2 ∨ r = 3 ∨ r = 4) (v : Value) : CH (w.setCell ⟨C, o + r, none⟩ v) C o sv fl cur0 := by
  obtain ⟨cur, h1, h2, h3, h4, h5, ⟨l0, l1, l2, h6, h7, h8⟩, h9, h10, h11⟩ := h
  rcases hr with rfl | rfl | rfl
  · refine ⟨_, setCell_heap h1 v, by simp [h2], fun j hj => (set_ne (by omega)).trans (h3 j hj), (set_ne (by omega)).trans h4, (set_ne (by omega)).trans h5, ⟨v, l1, l2, set_eq h6, ?_, ?_⟩, ?_, ?_, ?_⟩ <;> (refine (set_ne (by omega)).trans ?_; assumption)
  · refine ⟨_, setCell_heap h1 v, by simp [h2], fun j hj => (set_ne (by omega)).trans (h3 j hj), (set_ne (by omega)).trans h4, (set_ne (by omega)).trans h5, ⟨l0, v, l2, ?_, set_eq h7, ?_⟩, ?_, ?_, ?_⟩ <;> (refine (set_ne (by omega)).trans ?_; assumption)
  · refine ⟨_, setCell_heap h1 v, by simp [h2], fun j hj => (set_ne (by omega)).trans (h3 j hj), (set_ne (by omega)).trans h4, (set_ne (by omega)).trans h5, ⟨l0, l1, v, ?_, ?_, set_eq h8⟩, ?_, ?_, ?_⟩ <;> (refine (set_ne (by omega)).trans ?_; assumption)
theorem CH.clast {w : World} {C o : Nat} {sv : Value} {fl : Int} {cur0 : Array Value} (h : CH w C o sv fl cur0) : ∃ l0 l1 l2, w.cell? ⟨C, o + 2, none⟩ = some l0 ∧ w.cell? ⟨C, o + 3, none⟩ = some l1 ∧ w.cell? ⟨C, o + 4, none⟩ = some l2 := by
  obtain ⟨cur, h1, _, _, _, _, ⟨l0, l1, l2, h6, h7, h8⟩, _⟩ := h
  exact ⟨l0, l1, l2, (cell_row h1 _).trans h6, (cell_row h1 _).trans h7, (cell_row h1 _).trans h8⟩

/-- a chain of the row turned, the others as they were -/
theorem KS.turn {w w' : World} {B C cap N i n2 : Nat} {sv : Nat → Value} {fl fl' : Nat → Int} {n n' : Nat → Nat} {T X T' X' : Nat → Nat → Int} {cur : Array Value} {sv2 : Value} {fl2 : Int} {P : Nat → Prop}
    (hb : B ≤ C) (hl : N ≤ cap) (hc : cap ≤ maxLen) (hsz : cur.size = cap * 8) (hca : ∀ j, j < N → CA cur (j * 8) (sv j) (fl j)) (hVV : ∀ j, j < N → VV w B (sv j) (n j) (T j) (X j))
    (hinj : ∀ i j g, i < N → j < N → (sv i).ownBlock = some g → (sv j).ownBlock = some g → i = j) (hi : i < N)
    (hCH : CH w' C (i * 8) sv2 fl2 cur) (hV2 : VV w' B sv2 n2 (T' i) (X' i)) (hg2 : ∀ g, sv2.ownBlock = some g → (sv i).ownBlock = some g ∨ w.heap.size ≤ g)
    (f : Fr P w w') (hP : ∀ b, P b → b = C ∨ (sv i).ownBlock = some b) (hw : Typ w C 49)
    (hn : ∀ j, j < N → n' j = if j = i then n2 else n j) (hfl : ∀ j, j < N → fl' j = if j = i then fl2 else fl j) (hT : ∀ j, j < N → j ≠ i → T' j = T j ∧ X' j = X j) :
    KS w' B (.slice (some ⟨C, 0, none⟩) N cap) N n' T' X' fl' := by
  obtain ⟨cur', h1, h2, h3, h4⟩ := hCH
  refine ⟨fun j => if j = i then sv2 else sv j, .inr ⟨C, cap, cur', rfl, hb, hl, hc, h1, h2.trans hsz, fun j hj => ?_⟩, fun j hj => ?_, fun j k g hj hk hg hk2 => ?_⟩
  · show CA cur' (j * 8) (if j = i then sv2 else sv j) _
    rw [hfl j hj]
    by_cases e : j = i
    · rw [if_pos e, if_pos e, e]
      exact h4
    · rw [if_neg e, if_neg e]
      have f : ∀ r, r < 8 → cur'[j * 8 + r]? = cur[j * 8 + r]? := fun r hr => h3 _ (by omega)
      obtain ⟨a, b, ⟨l0, l1, l2, c, d, e⟩, k, m, q⟩ := hca j hj
      exact ⟨(f 0 (by omega)).trans a, (f 1 (by omega)).trans b, ⟨l0, l1, l2, (f 2 (by omega)).trans c, (f 3 (by omega)).trans d, (f 4 (by omega)).trans e⟩, (f 5 (by omega)).trans k, (f 6 (by omega)).trans m, (f 7 (by omega)).trans q⟩
  · show VV w' B (if j = i then sv2 else sv j) _ _ _
    rw [hn j hj]
    by_cases e : j = i
    · rw [if_pos e, if_pos e, e]
      exact hV2
    · rw [if_neg e, if_neg e, (hT j hj e).1, (hT j hj e).2]
      refine (hVV j hj).fr f fun g hg hp => ?_
      rcases hP g hp with rfl | h
      · cases ((hVV j hj).typ hg).2.inj hw
      · exact e (hinj j i g hj hi hg h)
  · have hg : (if j = i then sv2 else sv j).ownBlock = some g := hg
    have hk2 : (if k = i then sv2 else sv k).ownBlock = some g := hk2
    have old : ∀ j, j < N → (sv j).ownBlock = some g → g < w.heap.size := fun j hj h => by
      obtain ⟨_, c, r, h5⟩ := (hVV j hj).typ h
      exact (Array.getElem?_eq_some_iff.1 h5).1
    by_cases e : j = i
    · by_cases e2 : k = i
      · rw [e, e2]
      · rw [if_pos e] at hg
        rw [if_neg e2] at hk2
        rcases hg2 g hg with h5 | h5
        · exact absurd (hinj k i g hk hi hk2 h5) e2
        · have := old k hk hk2
          omega
    · by_cases e2 : k = i
      · rw [if_neg e] at hg
        rw [if_pos e2] at hk2
        rcases hg2 g hk2 with h5 | h5
        · exact absurd (hinj j i g hj hi hg h5) e
        · have := old j hj hg
          omega
      · rw [if_neg e] at hg
        rw [if_neg e2] at hk2
        exact hinj j k g hj hk hg hk2

theorem V6.fr {g o : Nat} {t x : Int} {w w' : World} {B : Nat → Prop} (h : V6 g o t x w) (f : Fr B w w') (hB : ¬ B g) : V6 g o t x w' :=
  ⟨f.cell hB h.1, f.cell hB h.2.1, f.cell hB h.2.2.1, f.cell hB h.2.2.2.1, f.cell hB h.2.2.2.2.1, f.cell hB h.2.2.2.2.2⟩
theorem appver_v {w3 w3' w4 : World} {g : Nat} {sv : Value} {t x : Int} (h : V6 g 0 t x w3) (f : Fr (fun _ => False) w3 w3') (k : Fr (fun b => sv.ownBlock = some b) w3' w4) (hn : ¬ sv.ownBlock = some g) : Hid (V6 g 0 t x w4) :=
  (V6.fr h f (fun h => h)).fr k hn
theorem appver_w {w w3 w3' w4 : World} {sv : Value} (h : Below w.heap.size w w3) (k : Fr (fun b => sv.ownBlock = some b) w3' w4) (f : Fr (fun b => sv.ownBlock = some b) w3 w3') : Hid (Fr (fun b => sv.ownBlock = some b) w w4) :=
  (Fr.trans (Fr.below h) f).trans k
theorem appver_ch {w3 w3' w4 : World} {C o : Nat} {sv sv' : Value} {fl : Int} {cur : Array Value} (h : CH w3 C o sv' fl cur) (f : Fr (fun _ => False) w3 w3') (k : Fr (fun b => sv.ownBlock = some b) w3' w4) (hn : ¬ sv.ownBlock = some C) : Hid (CH w4 C o sv' fl cur) :=
  (h.fr f (fun h => h)).fr k hn

set_option maxHeartbeats 4000000 in
theorem appendVersion_any (B S N i m : Nat) (n n' : Nat → Nat) (T X : Nat → Nat → Int) (fl : Nat → Int) (l0 l4 : Int) (I M : Nat) (cv pv : Value) (due : Int) (w : World) (hBw : B ≤ w.heap.size) (hST : ST w S l0 l4 I M cv pv due) (hKS : KS w B cv N n T X fl)
    (hi : i < N) (hm : n i = m) (hmm : m ≤ 1048575) (hn' : ∀ j, j < N → n' j = if j = i then m + 1 else n j) (t x : Int) (ht : T i m = t) (hx : X i m = x) :
    Calls Try.prog 17 #[.pointer (some ⟨S, 0, none⟩), .int .i64 i, .int .u64 t, .int .u64 x] w fun e w' => e = .returned (.tuple #[]) ∧ KS w' B cv N n' T X fl ∧ Fr (fun b => Kb w B b) w w' := by
  obtain ⟨sv, hCR, hVV, hinj⟩ := hKS
  rcases hCR with ⟨h0, _⟩ | ⟨C, cap, cur, rfl, hCB, hNc, hcm, hg, hsz, hca⟩
  · omega
  have HCA : Hid (cur.size = cap * 8 ∧ ∀ j, j < N → CA cur (j * 8) (sv j) (fl j)) := ⟨hsz, hca⟩
  have HV : Hid (∀ i, i < N → VV w B (sv i) (n i) (T i) (X i)) := hVV
  have HI : Hid (∀ i j g, i < N → j < N → (sv i).ownBlock = some g → (sv j).ownBlock = some g → i = j) := hinj
  have HM : Hid (n i = m) := hm
  have HT : Hid (T i m = t) := ht
  have HX : Hid (X i m = x) := hx
  have HN' : Hid (∀ j, j < N → n' j = if j = i then m + 1 else n j) := hn'
  have HCH : Hid (CH w C (i * 8) (sv i) (fl i) cur) := ⟨cur, hg, rfl, fun _ _ => rfl, hca i hi⟩
  have HTy : Hid (Typ w C 49) := ⟨_, _, hg⟩
  have c7 : w.cell? ⟨S, 7, none⟩ = some (.slice (some ⟨C, 0, none⟩) N cap) := hST.cell 7
  clear hST hVV hinj hm ht hx hn' hca hsz hg
  go_enter Try.func17, Try.ntmps17
  go_wp2_with fail
  refine (keep_any _ _ _ _ _).mono ?_
  rintro e w2 ⟨rfl, hb2⟩
  have HB2 : Hid (Below w.heap.size w w2) := hb2
  have hs2 := hb2.size
  have HCH2 : Hid (CH w2 C (i * 8) (sv i) (fl i) cur) := HCH.out.fr (Fr.below (B := fun _ => False) hb2) (fun h => h)
  have lC := HCH2.out.lt
  have hc0 := HCH2.out.c0
  clear hb2
  go_upto_region 2 with fail
  obtain ⟨w3, hw3⟩ : ∃ w3, w2.alloc (.cells (vcs t x) 72) = w3 := ⟨_, rfl⟩
  rw [hw3]
  have hk3 : w3.heap[w2.heap.size]? = some (.cells (vcs t x) 72 (0, 0)) := by rw [← hw3]; exact heap_alloc_new _ _
  have hs3 : w3.heap.size = w2.heap.size + 1 := by rw [← hw3]; exact size_alloc _ _
  have HB3 : Hid (Below w.heap.size w w3) := by rw [← hw3]; exact HB2.out.alloc hs2 _
  have HCH3 : Hid (CH w3 C (i * 8) (sv i) (fl i) cur) := HCH.out.fr (Fr.below (B := fun _ => False) HB3.out) (fun h => h)
  have HV3 : Hid (VV w3 B (sv i) m (T i) (X i)) := by
    have := (HV.out i hi).fr (P := fun _ => False) (Fr.below HB3.out) (fun _ _ h => h)
    rwa [HM.out] at this
  have HK3 : Hid (V6 w2.heap.size 0 t x w3) := ⟨cell_of hk3 rfl, cell_of hk3 rfl, cell_of hk3 rfl, cell_of hk3 rfl, cell_of hk3 rfl, cell_of hk3 rfl⟩
  have hC3 : C ≠ w2.heap.size := by omega
  have HG : Hid (∀ g, (sv i).ownBlock = some g → g < w.heap.size ∧ g ≠ C) := fun g hg => by
    obtain ⟨_, hty⟩ := (HV.out i hi).typ hg
    refine ⟨?_, fun e => by subst e; cases hty.inj HTy.out⟩
    obtain ⟨c, r, h5⟩ := hty
    exact (Array.getElem?_eq_some_iff.1 h5).1
  clear hw3 hc0 HCH2 hk3
  have hc0 := HCH3.out.c0
  obtain ⟨v0, v1, v2, v3, v4, v5⟩ := HK3.out
  have lC3 : C < w3.heap.size := by omega
  have l23 : w2.heap.size < w3.heap.size := by omega
  have HS3 := hide hs3
  clear hs3
  go_region_law (refine step_appver (.tmp 26) (.tmp 28) rfl rfl B m w3.heap.size (sv i) (T i) (X i) rfl rfl (HV3.out.fr (P := fun _ => False) (by repeat (first | exact Fr.refl _ _ | refine Fr.alloc ?_ _ | refine Fr.drew ?_)) (fun _ _ h => h)) (by omega) (Nat.le_trans (Nat.le_trans hBw HB3.out.size) (Fr.size (B := fun _ => False) (by repeat (first | exact Fr.refl _ _ | refine Fr.alloc ?_ _ | refine Fr.drew ?_)))) (by rw [HT.out, HX.out]; exact heap_alloc_new _ _) ?_; intro g' cap' w4 hv4 hb4 hg4 hf4; have HV4 := hide hv4; have HF4 := hide hf4; have HG4 := hide hg4; clear hv4 hf4 hg4; have HCH4 := appver_ch HCH3.out (by repeat (first | exact Fr.refl _ _ | refine Fr.alloc ?_ _ | refine Fr.drew ?_)) HF4.out (fun h => (HG.out _ h).2 rfl); have HW4 := appver_w HB3.out HF4.out (by repeat (first | exact Fr.refl _ _ | refine Fr.alloc ?_ _ | refine Fr.drew ?_)); have HK4 := appver_v HK3.out (by repeat (first | exact Fr.refl _ _ | refine Fr.alloc ?_ _ | refine Fr.drew ?_)) HF4.out (fun h => by have := (HG.out _ h).1; omega); have d0 := HCH4.out.c0; have df := HCH4.out.fro (i * 8))
  all_goals
    obtain ⟨w5, hw5⟩ : ∃ w5, w4.setCell ⟨C, i * 8, none⟩ (.slice (some ⟨g', 0, none⟩) (m + 1) cap') = w5 := ⟨_, rfl⟩
    rw [hw5]
    have G5 : Fr (fun b => b = C) w4 w5 := by
      rw [← hw5]
      exact (Fr.refl (fun b => b = C) w4).setCell (p := ⟨C, i * 8, none⟩) rfl _
    have HCH5 : Hid (CH w5 C (i * 8) (.slice (some ⟨g', 0, none⟩) (m + 1) cap') (fl i) cur) := by
      rw [← hw5]
      exact HCH4.out.set0 _
    have hgC : g' ≠ C := by
      rcases HG4.out with h | h
      · exact (HG.out _ h).2
      · have := HS3.out
        have h' : g' = w3.heap.size + 1 := by rw [h]; exact size_alloc _ _
        omega
    have HV5 : Hid (VR w5 g' cap' (m + 1) (T i) (X i)) := HV4.out.fr G5 (fun e => hgC e)
    have HK5 : Hid (V6 w2.heap.size 0 t x w5) := V6.fr HK4.out G5 (fun e => hC3 e.symm)
    have F5 : Hid (Fr (fun b => b = C ∨ (sv i).ownBlock = some b) w w5) := (HW4.out.mono fun _ => Or.inr).trans (G5.mono fun _ => Or.inl)
    have hgs : Hid ((sv i).ownBlock = some g' ∨ w.heap.size ≤ g') := by
      rcases HG4.out with h | h
      · exact .inl h
      · have := HS3.out
        have h' : g' = w3.heap.size + 1 := by rw [h]; exact size_alloc _ _
        exact .inr (by omega)
    clear hw5 G5 HCH4 HV4 HK4 HW4 HF4 HG4 d0 df HK3 HV3 HCH3 hc0 v0 v1 v2 v3 v4 v5 lC3 l23
    obtain ⟨v0, v1, v2, v3, v4, v5⟩ := HK5.out
    go_wp2_with fail
    refine (stamp_any _ _ _ _ _ _ _ (by omega)).mono ?_
    rintro e w6 ⟨rfl, hb6⟩
    have HCH6 : Hid (CH w6 C (i * 8) (.slice (some ⟨g', 0, none⟩) (m + 1) cap') (fl i) cur) := HCH5.out.fr (Fr.below (B := fun _ => False) hb6) (fun h => h)
    have HV6 : Hid (VR w6 g' cap' (m + 1) (T i) (X i)) := HV5.out.fr (Fr.below (B := fun _ => False) hb6) (fun h => h)
    have F6 : Hid (Fr (fun b => b = C ∨ (sv i).ownBlock = some b) w w6) := F5.out.trans (Fr.below hb6)
    clear hb6 v0 v1 v2 v3 v4 v5 HK5 HCH5 HV5 F5
    obtain ⟨q0, q1, q2, p0, p1, p2⟩ := HCH6.out.clast
    have z2 := HCH6.out.fro (i * 8 + 2)
    have z3 := HCH6.out.fro (i * 8 + 3)
    have z4 := HCH6.out.fro (i * 8 + 4)
    go_wp2
    go_end0
    have hCH7 := ((HCH6.out.setlast 2 (.inl rfl) (.int .u64 t)).setlast 3 (.inr (.inl rfl)) (.int .u64 x)).setlast 4 (.inr (.inr rfl)) (.int .i64 0)
    have Gz : Fr (fun b => b = C) w6 (((w6.setCell ⟨C, i * 8 + 2, none⟩ (.int .u64 t)).setCell ⟨C, i * 8 + 3, none⟩ (.int .u64 x)).setCell ⟨C, i * 8 + 4, none⟩ (.int .i64 0)) :=
      (((Fr.refl (fun b => b = C) w6).setCell (p := ⟨C, i * 8 + 2, none⟩) rfl _).setCell (p := ⟨C, i * 8 + 3, none⟩) rfl _).setCell (p := ⟨C, i * 8 + 4, none⟩) rfl _
    have F7 := F6.out.trans (Gz.mono fun _ => Or.inl)
    have hV7 := HV6.out.fr Gz (fun e => hgC e)
    refine ⟨rfl, KS.turn hCB hNc hcm HCA.out.1 HCA.out.2 HV.out HI.out hi hCH7 (.inr ⟨g', cap', rfl, hb4, hV7⟩) (fun g hg => by cases hg; exact hgs.out) F7 (fun _ h => h) HTy.out HN'.out (fun j _ => ?_) (fun _ _ _ => ⟨rfl, rfl⟩), F7.mono fun b hb => ?_⟩
    · by_cases e : j = i
      · rw [if_pos e, e]
      · rw [if_neg e]
    · rcases hb with rfl | hb
      · exact ⟨hCB, .inl HTy.out⟩
      · have := (HV.out i hi).typ hb
        exact ⟨this.1, .inr this.2⟩
end Go.Proofs.Qxb6630565a
