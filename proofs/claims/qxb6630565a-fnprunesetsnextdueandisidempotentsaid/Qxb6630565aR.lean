/-
  slices.Insert at the periods: the walk.
-/
import Derived.Test.Qxb6630565aQ
namespace Go.Proofs.Qxb6630565a
open Go.ChangeShapes Go.WideShapes Go.ChangeAt Go.RowKit

def ins (ps : List Int) (i : Nat) (p : Int) : List Int := ps.take i ++ p :: ps.drop i
theorem ins_len (ps : List Int) (i : Nat) (p : Int) (h : i ≤ ps.length) : (ins ps i p).length = ps.length + 1 := by
  unfold ins
  simp
  omega
theorem ins_at (ps : List Int) (i : Nat) (p : Int) (h : i ≤ ps.length) (j : Nat) : (ins ps i p).getD j 0 = if j < i then ps.getD j 0 else if j = i then p else ps.getD (j - 1) 0 := by
  unfold ins
  have hl : (ps.take i).length = i := by simp; omega
  simp only [List.getD_eq_getElem?_getD, List.getElem?_append, hl]
  split
  · rename_i h1
    rw [List.getElem?_take, if_pos h1]
  · by_cases h2 : j = i
    · subst h2
      simp
    · rw [if_neg h2, show j - i = (j - 1 - i) + 1 by omega, List.getElem?_cons_succ, List.getElem?_drop]
      congr 2
      omega
theorem ins_end (ps : List Int) (p : Int) : ins ps ps.length p = ps ++ [p] := by
  unfold ins
  simp

def INS (B : Nat) (pv : Value) (xs : List Int) (w : World) (e : Ending) (w' : World) : Prop :=
  ∃ v', e = .returned v' ∧ RT 42 .u64 w' B v' xs ∧ (v'.ownBlock = pv.ownBlock ∨ v'.ownBlock = some w.heap.size) ∧ Fr (fun b => pv.ownBlock = some b) w w'
theorem INS.mk {B : Nat} {pv v' : Value} {xs : List Int} {w w' : World} (h : RT 42 .u64 w' B v' xs) (h1 : v'.ownBlock = pv.ownBlock ∨ v'.ownBlock = some w.heap.size) (h2 : Fr (fun b => pv.ownBlock = some b) w w') : INS B pv xs w (.returned v') w' := ⟨v', rfl, h, h1, h2⟩

set_option maxRecDepth 100000 in
set_option maxHeartbeats 2000000 in
theorem insert_any (B : Nat) (pv : Value) (ps : List Int) (i : Nat) (p : Int) (V9 : Nat) (w : World) (hPR : RT 42 .u64 w B pv ps) (hV : w.heap[V9]? = some (.cells #[.int .u64 p] 42 (0, 0))) (hne : ¬ pv.ownBlock = some V9) (hi : i ≤ ps.length) (hl : ps.length ≤ 1048576) (hB : B ≤ w.heap.size) :
    Calls Try.prog 33 #[pv, .int .i64 i, .slice (some ⟨V9, 0, none⟩) 1 1] w fun e w' => INS B pv (ins ps i p) w e w' := by
  by_cases hie : i = ps.length
  · subst hie
    obtain ⟨v', w', hr, hRT, hbl, hf⟩ := append1 kd65 hPR p V9 65 (cell_of hV rfl) hl hB
    have HR := hide hr
    have HI : Hid (INS B pv (ins ps ps.length p) w (.returned v') w') := by
      rw [ins_end]
      exact INS.mk hRT hbl hf
    obtain ⟨XS, hXS⟩ : ∃ XS, ins ps ps.length p = XS := ⟨_, rfl⟩
    rw [hXS] at HI ⊢
    clear hr hRT hbl hf hV hne hB hi hXS
    rcases hPR with ⟨rfl, rfl⟩ | ⟨P, o, cap, cur, rfl, hb, hg, hfit, hlc, hcm, hc⟩
    · go_enter Try.func33, Try.ntmps33
      go_wp2_with (at_builtin; refine wpList_plain rfl fun KK hKK => ?_; refine wp_append2 (.tmp 23) (.tmp 24) 65 65 rfl _ _ _ _ rfl rfl HR.out ?_; refine hKK _ _ ?_; clear hKK KK)
      go_ret
      exact HI.out
    · obtain ⟨n, hn⟩ : ∃ n, ps.length = n := ⟨_, rfl⟩
      rw [hn] at HR HI hlc hl ⊢
      clear hb hg hfit hc
      unfold maxLen at hcm
      by_cases hcn : cap = n
      · subst hcn
        go_enter Try.func33, Try.ntmps33
        go_wp2_with (at_builtin; refine wpList_plain rfl fun KK hKK => ?_; refine wp_append2 (.tmp 23) (.tmp 24) 65 65 rfl _ _ _ _ rfl rfl HR.out ?_; refine hKK _ _ ?_; clear hKK KK)
        go_ret
        exact HI.out
      · go_enter Try.func33, Try.ntmps33
        go_wp2_with (at_builtin; refine wpList_plain rfl fun KK hKK => ?_; refine wp_append2 (.tmp 23) (.tmp 24) 65 65 rfl _ _ _ _ rfl rfl HR.out ?_; refine hKK _ _ ?_; clear hKK KK)
        go_ret
        exact HI.out
  · rcases hPR with ⟨rfl, rfl⟩ | ⟨P, o, cap, cur, rfl, hb, hg, hfit, hlc, hcm, hc⟩
    · simp at hi hie
      omega
    obtain ⟨n, hn⟩ : ∃ n, ps.length = n := ⟨_, rfl⟩
    have hn2 : n ≤ 1048576 := by omega
    have hin : i < n := by omega
    have HC := hide hc
    have HN := hide hn
    have HG := hide hg
    have HV := hide hV
    have HNE : Hid (V9 ≠ P) := fun e => hne (by rw [e]; rfl)
    clear hc hg hV hne
    have hcm2 : cap ≤ 9223372036854775807 := hcm
    by_cases hroom : n + 1 ≤ cap
    · have hPlt : P < w.heap.size := (Array.getElem?_eq_some_iff.1 HG.out).1
      have hVlt : V9 < w.heap.size := (Array.getElem?_eq_some_iff.1 HV.out).1
      have hr1 := copy42 w.drew 3 P (o + (i + 1)) (n - i) (cap - (i + 1)) P (o + i) (n + 1 - i) (cap - i) cur (ps.drop i) HG.out (by rw [List.length_drop, hn]; exact (Nat.min_eq_right (by omega)).symm) (by rw [List.length_drop, hn]; omega) (fun j hj => by
        rw [List.length_drop, hn] at hj
        rw [Nat.add_assoc]
        show w.cell? ⟨P, o + (i + j), none⟩ = _
        rw [cell_row HG.out, HC.out (i + j) (by omega)]
        simp [List.getD_eq_getElem?_getD])
      have hfit1 : o + (i + 1) + ((ps.drop i).map (Value.int .u64 ·)).length ≤ cur.size := by rw [List.length_map, List.length_drop, hn]; omega
      have hg1 := setRow_heap w.drew P cur (laid cur (o + (i + 1)) ((ps.drop i).map (Value.int .u64 ·))) 42 (0, 0) HG.out
      have hs1 := laid_size cur (o + (i + 1)) ((ps.drop i).map (Value.int .u64 ·)) hfit1
      have ha1 := laid_at cur (o + (i + 1)) ((ps.drop i).map (Value.int .u64 ·)) hfit1
      obtain ⟨c1, hc1⟩ : ∃ c1, laid cur (o + (i + 1)) ((ps.drop i).map (Value.int .u64 ·)) = c1 := ⟨_, rfl⟩
      rw [hc1] at hg1 hs1 ha1 hr1
      obtain ⟨w1, hw1⟩ : ∃ w1, w.drew.setRow P c1 = w1 := ⟨_, rfl⟩
      rw [hw1] at hg1 hr1
      have hV1 : w1.heap[V9]? = some (.cells #[.int .u64 p] 42 (0, 0)) := by
        rw [← hw1, setRow_other _ _ _ _ HNE.out]
        exact HV.out
      have hr2 := copy42 w1 3 P (o + i) (n + 1 - i) (cap - i) V9 0 1 1 c1 [p] hg1 (show 1 = Nat.min 1 (n + 1 - i) from (Nat.min_eq_left (by omega)).symm) (show o + i + 1 ≤ c1.size by omega) (fun j hj => by
        have : j = 0 := by simpa using hj
        subst this
        exact (cell_row hV1 0).trans rfl)
      have hfit2 : o + i + ([p].map (Value.int .u64 ·)).length ≤ c1.size := show o + i + 1 ≤ c1.size by omega
      have hg2 := setRow_heap w1 P c1 (laid c1 (o + i) ([p].map (Value.int .u64 ·))) 42 (0, 0) hg1
      have HI : Hid (INS B (.slice (some ⟨P, o, none⟩) n cap) (ins ps i p) w (.returned (.slice (some ⟨P, o, none⟩) (n + 1) cap)) (w1.setRow P (laid c1 (o + i) ([p].map (Value.int .u64 ·))))) := by
        have hil := ins_len ps i p (by omega)
        rw [hn] at hil
        refine INS.mk (.inr ⟨P, o, cap, _, by rw [hil], hb, hg2, by rw [laid_size _ _ _ hfit2, hs1]; exact hfit, by rw [hil]; exact hroom, hcm, fun j hj => ?_⟩) (.inl rfl) ?_
        · rw [hil] at hj
          rw [ins_at _ _ _ (by omega), laid_at _ _ _ hfit2, ha1]
          simp only [List.length_map, List.length_drop, hn, List.length_cons, List.length_nil]
          by_cases h1 : j < i
          · rw [if_neg (by omega), if_neg (by omega), if_pos h1]
            exact HC.out j (by omega)
          · by_cases h2 : j = i
            · subst h2
              rw [if_pos (by omega), if_neg h1, if_pos rfl]
              simp
            · rw [if_neg (by omega), if_pos (by omega), if_neg h1, if_neg h2, List.getElem?_map, List.getElem?_drop, show i + (o + j - (o + (i + 1))) = j - 1 by omega]
              have : j - 1 < ps.length := by omega
              simp [this]
        · rw [← hw1]
          exact ((Fr.refl (fun b => (Value.slice (some ⟨P, o, none⟩) n cap).ownBlock = some b) w).drew.setRow (g := P) rfl _).setRow (g := P) rfl _
      have hov : (callFunc 56 #[.slice (some ⟨V9, 0, none⟩) 1 1, .slice (some ⟨P, o + (i + 1), none⟩) (n - i) (cap - (i + 1))]).run Try.prog w = .ok (.value (.bool false)) w :=
        overlaps_no w V9 P (o + (i + 1)) 1 (n - i) (cap - (i + 1)) _ cur HV.out HG.out HNE.out (by omega)
      obtain ⟨XS, hXS⟩ : ∃ XS, ins ps i p = XS := ⟨_, rfl⟩
      rw [hXS] at HI ⊢
      have h1 : (Builtin.copy_ #[65, 65] 3 #[.slice (some ⟨P, o + (i + 1), none⟩) (n - i) (cap - (i + 1)), .slice (some ⟨P, o + i, none⟩) (n + 1 - i) (cap - i)]).run Try.prog w.drew = .ok (.int .i64 (n - i : Nat)) w1 := by
        rw [hr1, List.length_drop, hn]
        rfl
      obtain ⟨w2, hw2⟩ : ∃ w2, w1.setRow P (laid c1 (o + i) ([p].map (Value.int .u64 ·))) = w2 := ⟨_, rfl⟩
      rw [hw2] at HI hr2
      have h2 : (Builtin.copy_ #[65, 65] 3 #[.slice (some ⟨P, o + i, none⟩) (n + 1 - i) (cap - i), .slice (some ⟨V9, 0, none⟩) 1 1]).run Try.prog w1 = .ok (.int .i64 1) w2 := hr2
      rw [hn]
      clear hr1 hr2 hg1 hg2 hs1 ha1 hV1 hw1 hw2 hc1 hXS HG HC HV HNE hn hi hl hie hlc hfit hfit1 hfit2
      have e1 : ¬ cap = i := by omega
      have e2 : ¬ cap = i + 1 := by omega
      have e3 : n ≤ cap := by omega
      have e4 : i ≤ n := by omega
      have e5 : ¬ ((i : Int) = n) := by omega
      have e6 : ¬ (cap < n + 1) := by omega
      go_enter Try.func33, Try.ntmps33
      go_upto_region 15 with fail
      go_region
      go_wp2
      go_ret
      exact HI.out
    · obtain rfl : n = cap := by omega
      obtain ⟨arr, hs1, ha1, hr1⟩ := appendZ w 65 P o i (n + 1 - i) n ps cur HG.out HC.out (by omega) (by omega) (by omega) (by omega)
      rw [show i + (n + 1 - i) = n + 1 by omega] at hs1 hr1
      rw [show ((n + 1 - i : Nat) : Int) = (n : Int) + 1 - i by omega] at hr1
      have hge := grownCap_ge w (n + 1) n 42
      have hgm := grownCap_le_maxLen w (n + 1) n 42 (by unfold maxLen; omega)
      obtain ⟨c2, hc2⟩ : ∃ c2, grownCap w (n + 1) n 42 = c2 := ⟨_, rfl⟩
      rw [hc2] at hs1 hr1 hge hgm
      have hg2 : (w.drew.alloc (.cells arr 42)).heap[w.heap.size]? = some (.cells arr 42 (0, 0)) := heap_alloc_new w.drew _
      have hVlt : V9 < w.heap.size := (Array.getElem?_eq_some_iff.1 HV.out).1
      have hPlt : P < w.heap.size := (Array.getElem?_eq_some_iff.1 HG.out).1
      have hr2 := copy42 (w.drew.alloc (.cells arr 42)) 3 w.heap.size i (n + 1 - i) (c2 - i) V9 0 1 1 arr [p] hg2 (show 1 = Nat.min 1 (n + 1 - i) from (Nat.min_eq_left (by omega)).symm) (show i + 1 ≤ arr.size by omega) (fun j hj => by
        have : j = 0 := by simpa using hj
        subst this
        exact (cell_row ((heap_alloc_old w.drew _ hVlt).trans HV.out) 0).trans rfl)
      have hg3 := setRow_heap (w.drew.alloc (.cells arr 42)) w.heap.size arr (laid arr i ([p].map (Value.int .u64 ·))) 42 (0, 0) hg2
      obtain ⟨w3, hw3⟩ : ∃ w3, (w.drew.alloc (.cells arr 42)).setRow w.heap.size (laid arr i ([p].map (Value.int .u64 ·))) = w3 := ⟨_, rfl⟩
      rw [hw3] at hg3 hr2
      have hP3 : w3.heap[P]? = some (.cells cur 42 (0, 0)) := by
        rw [← hw3, setRow_other _ _ _ _ (by omega)]
        exact (heap_alloc_old w.drew _ hPlt).trans HG.out
      have hls : (laid arr i ([p].map (Value.int .u64 ·))).size = c2 := (laid_size _ _ _ (by simp; omega)).trans hs1
      have hr3 := copy42 w3.drew 3 w.heap.size (i + 1) (n + 1 - (i + 1)) (c2 - (i + 1)) P (o + i) (n - i) (n - i) (laid arr i ([p].map (Value.int .u64 ·))) (ps.drop i) hg3 (by rw [List.length_drop, HN.out]; exact (Nat.min_eq_left (by omega)).symm) (by rw [List.length_drop, HN.out, hls]; omega) (fun j hj => by
        rw [List.length_drop, HN.out] at hj
        rw [Nat.add_assoc]
        show w3.cell? ⟨P, o + (i + j), none⟩ = _
        rw [cell_row hP3, HC.out (i + j) (by rw [HN.out]; omega)]
        simp [List.getD_eq_getElem?_getD])
      have hg4 := setRow_heap w3.drew w.heap.size _ (laid (laid arr i ([p].map (Value.int .u64 ·))) (i + 1) ((ps.drop i).map (Value.int .u64 ·))) 42 (0, 0) hg3
      obtain ⟨w4, hw4⟩ : ∃ w4, w3.drew.setRow w.heap.size (laid (laid arr i ([p].map (Value.int .u64 ·))) (i + 1) ((ps.drop i).map (Value.int .u64 ·))) = w4 := ⟨_, rfl⟩
      rw [hw4] at hg4 hr3
      have HI : Hid (INS B (.slice (some ⟨P, o, none⟩) n n) (ins ps i p) w (.returned (.slice (some ⟨w.heap.size, 0, none⟩) (n + 1) c2)) w4) := by
        have hil := ins_len ps i p (by omega)
        rw [HN.out] at hil
        refine INS.mk (.inr ⟨w.heap.size, 0, c2, _, by rw [hil], hB, hg4, ?_, by rw [hil]; exact hge, hgm, fun j hj => ?_⟩) (.inr rfl) ?_
        · rw [laid_size _ _ _ (by rw [List.length_map, List.length_drop, HN.out, hls]; omega), hls]
          omega
        · rw [hil] at hj
          rw [Nat.zero_add, ins_at _ _ _ (by omega), laid_at _ _ _ (by rw [List.length_map, List.length_drop, HN.out, hls]; omega), laid_at _ _ _ (by simp; omega)]
          simp only [List.length_map, List.length_drop, HN.out, List.length_cons, List.length_nil]
          by_cases h1 : j < i
          · rw [if_neg (by omega), if_neg (by omega), if_pos h1]
            exact ha1 j h1
          · by_cases h2 : j = i
            · subst h2
              rw [if_neg (by omega), if_pos (by omega), if_neg h1, if_pos rfl]
              simp
            · rw [if_pos (by omega), if_neg h1, if_neg h2, List.getElem?_map, List.getElem?_drop, show i + (j - (i + 1)) = j - 1 by omega]
              have : j - 1 < ps.length := by rw [HN.out]; omega
              simp [this]
        · rw [← hw4, ← hw3]
          have f1 : Fr (fun b => b = w.heap.size) (w.drew.alloc (.cells arr 42)) (((w.drew.alloc (.cells arr 42)).setRow w.heap.size (laid arr i ([p].map (Value.int .u64 ·)))).drew.setRow w.heap.size (laid (laid arr i ([p].map (Value.int .u64 ·))) (i + 1) ((ps.drop i).map (Value.int .u64 ·)))) :=
            ((Fr.refl (fun b => b = w.heap.size) _).setRow (g := w.heap.size) rfl _).drew.setRow (g := w.heap.size) rfl _
          exact ((Fr.refl _ w).drew.alloc _).trans' f1 (fun b hb => .inr (Nat.le_of_eq hb.symm))
      obtain ⟨XS, hXS⟩ : ∃ XS, ins ps i p = XS := ⟨_, rfl⟩
      rw [hXS] at HI ⊢
      have H1 := hide hr1
      have h2 : (Builtin.copy_ #[65, 65] 3 #[.slice (some ⟨w.heap.size, i, none⟩) (n + 1 - i) (c2 - i), .slice (some ⟨V9, 0, none⟩) 1 1]).run Try.prog (w.alloc (.cells arr 42)).drew = .ok (.int .i64 1) w3 := hr2
      have h3 : (Builtin.copy_ #[65, 65] 3 #[.slice (some ⟨w.heap.size, i + 1, none⟩) (n - i) (c2 - (i + 1)), .slice (some ⟨P, o + i, none⟩) (n - i) (n - i)]).run Try.prog w3.drew = .ok (.int .i64 (n - i : Nat)) w4 := by
        rw [show n + 1 - (i + 1) = n - i by omega] at hr3
        rw [hr3, List.length_drop, HN.out]
        rfl
      rw [hn]
      clear hr1 hr2 hr3 hg2 hg3 hg4 hP3 hls hw3 hw4 hs1 ha1 hXS HG HC HV HNE hc2 hn hi hl hie hlc hroom hfit
      have e1 : ¬ c2 = i := by omega
      have e2 : ¬ c2 = i + 1 := by omega
      have e3 : ¬ n = i := by omega
      have e4 : i ≤ n := by omega
      have e5 : ¬ ((i : Int) = n) := by omega
      go_enter Try.func33, Try.ntmps33
      go_wp2_with (at_builtin; refine wpList_plain rfl fun KK hKK => ?_; refine wp_append2 (.tmp 34) (.tmp 39) 65 3 rfl _ _ _ _ rfl rfl H1.out ?_; refine hKK _ _ ?_; clear hKK KK)
      go_region
      go_wp2
      go_ret
      exact HI.out
end Go.Proofs.Qxb6630565a
