/-
  slices.Delete on a row of versions.
-/
import Derived.Test.Qxb6630565aL
namespace Go.Proofs.Qxb6630565a
open Go.ChangeShapes Go.WideShapes Go.ChangeAt Go.RowKit

theorem zero72 (w : World) : (zeroValue 72).run Try.prog w = .ok (.agg #[.int .u64 0, .int .u64 0, .int .i32 0, .int .i32 0, .int .i32 0, .int .i32 0]) w := Try.zeroValue72 w

theorem zc_len (m : Nat) : (Builtin.zeroCells #[.int .u64 0, .int .u64 0, .int .i32 0, .int .i32 0, .int .i32 0, .int .i32 0] m).toList.length = m * 6 := by
  rw [Array.length_toList, size_zeroCells]; rfl
theorem zc_one (m : Nat) : ∀ v ∈ (Builtin.zeroCells #[.int .u64 0, .int .u64 0, .int .i32 0, .int .i32 0, .int .i32 0, .int .i32 0] m).toList, v.oneCell' = true := by
  intro v hv
  simp [Builtin.zeroCells] at hv
  obtain ⟨j, _, rfl⟩ := hv
  have h6 : j % 6 < 6 := Nat.mod_lt _ (by omega)
  generalize j % 6 = r at h6
  match r, h6 with
  | 0, _ => rfl
  | 1, _ => rfl
  | 2, _ => rfl
  | 3, _ => rfl
  | 4, _ => rfl
  | 5, _ => rfl

theorem clear72 (w : World) (ty : TypeId) (g o m c : Nat) (cur : Array Value) (hg : w.heap[g]? = some (.cells cur 72 (0, 0))) (hm : 0 < m) (hfit : o + m * 6 ≤ cur.size) :
    ∃ cs : Array Value, cs.size = cur.size ∧ (∀ j, j < o → cs[j]? = cur[j]?) ∧ (Builtin.clear_ #[43] ty #[.slice (some ⟨g, o, none⟩) m c]).run Try.prog w = .ok (.tuple #[]) (w.setRow g cs) := by
  obtain ⟨m', rfl⟩ : ∃ m', m = m' + 1 := ⟨m - 1, by omega⟩
  have hl := zc_len (m' + 1)
  have ho := zc_one (m' + 1)
  obtain ⟨Z, hZ⟩ : ∃ Z, (Builtin.zeroCells #[.int .u64 0, .int .u64 0, .int .i32 0, .int .i32 0, .int .i32 0, .int .i32 0] (m' + 1)).toList = Z := ⟨_, rfl⟩
  rw [hZ] at hl ho
  have hst := run_storeCells_at Try.prog g o 72 Z 0 cur w hg (by rw [hl]; omega) ho
  simp only [Nat.add_zero] at hst
  refine ⟨(cur.toList.take o ++ Z ++ cur.toList.drop (o + Z.length)).toArray, ?_, ?_, ?_⟩
  · rw [List.size_toArray, List.length_append, List.length_append, hl, List.length_take, List.length_drop, Array.length_toList]
    omega
  · intro j hj
    rw [List.getElem?_toArray, List.append_assoc, List.getElem?_append_left (by rw [List.length_take, Array.length_toList]; omega), List.getElem?_take, if_pos hj, Array.getElem?_toList]
  · simp [Builtin.clear_, run_underlying Try.underlying43, Value.cells, hZ, hst]

theorem append72 (w : World) (ty : TypeId) (g n k cap : Nat) (T X : Nat → Int) (h : VR w g cap n T X) (hk : k ≤ n) :
    ∃ cs : Array Value, cs.size = cap * 6 ∧ (∀ j, j < (n - k) * 6 → cs[j]? = w.cell? ⟨g, k * 6 + j, none⟩) ∧
      (Builtin.append_ #[43, 43] ty #[.slice (some ⟨g, 0, none⟩) 0 cap, .slice (some ⟨g, k * 6, none⟩) (n - k) (cap - k)]).run Try.prog w = .ok (.slice (some ⟨g, 0, none⟩) (n - k) cap) (w.setRow g cs) := by
  obtain ⟨cur, hg, hsz⟩ := h.row
  obtain ⟨i, hi, hz, hs, hby⟩ := info_open info72
  have hlen := h.len
  obtain ⟨news, hnews⟩ : ∃ news, news = (cur.toList.drop (k * 6)).take ((n - k) * 6) := ⟨_, rfl⟩
  have hnl : news.length = (n - k) * 6 := by rw [hnews, List.length_take, List.length_drop, Array.length_toList, hsz]; omega
  have hna : ∀ j, j < (n - k) * 6 → news[j]? = cur[k * 6 + j]? := fun j hj => by
    rw [hnews, List.getElem?_take, if_pos hj, List.getElem?_drop, Array.getElem?_toList]
  have hadd : ∀ j, ((⟨g, k * 6, none⟩ : Addr).add j) = ⟨g, k * 6 + j, none⟩ := fun j => by unfold Addr.add; split <;> simp_all
  have hlt : ∀ j (u : Value), news[j]? = some u → j < (n - k) * 6 := fun j u hu => by rw [← hnl]; exact (List.getElem?_eq_some_iff.1 hu).1
  have hr := run_append_room (P := Try.prog) w 43 ty 72 i Try.underlying43 hi g 0 cap cur hg ⟨g, k * 6, none⟩ (n - k) (cap - k) news (by rw [hs]; exact hnl)
    (fun j u hu => by rw [hadd, cell_row hg, ← hna j (hlt j u hu)]; exact hu)
    (fun u hu => by
      obtain ⟨j, hj, rfl⟩ := List.getElem_of_mem hu
      rw [hnl] at hj
      obtain ⟨v, hv, h1⟩ := h.vc.at (k * 6 + j) (by omega)
      have h2 := hna j hj
      rw [← cell_row hg, hv, List.getElem?_eq_getElem (by omega)] at h2
      rw [Option.some.inj h2]
      exact h1)
    (by omega) (by rw [hnl, hsz]; omega)
  simp only [Nat.zero_mul, Nat.zero_add, List.take_zero, List.nil_append] at hr
  refine ⟨_, ?_, ?_, hr⟩
  · rw [List.size_toArray, List.length_append, hnl, List.length_drop, Array.length_toList, hsz]
    omega
  · intro j hj
    rw [List.getElem?_toArray, List.getElem?_append_left (by rw [hnl]; exact hj), hna j hj, cell_row hg]

set_option linter.unusedSimpArgs false in
set_option maxHeartbeats 2000000 in
theorem delete_any (g cap n k : Nat) (T X : Nat → Int) (w : World) (h : VR w g cap n T X) (hk1 : 1 ≤ k) (hkn : k < n) :
    Calls Try.prog 47 #[.slice (some ⟨g, 0, none⟩) n cap, .int .i64 0, .int .i64 k] w fun e w' =>
      e = .returned (.slice (some ⟨g, 0, none⟩) (n - k) cap) ∧ VR w' g cap (n - k) (fun i => T (k + i)) (fun i => X (k + i)) ∧ Fr (· = g) w w' := by
  have HV : Hid (VR w g cap n T X) := h
  have hlen := h.len
  have hcap := h.cap
  clear h
  unfold maxLen at hcap
  go_enter Try.func47, Try.ntmps47
  go_upto_region 5 with fail
  have hkc : ¬ cap = k := by omega
  have hkc2 : ¬ cap = n - k := by omega
  have hkn' : k ≤ n := by omega
  refine wp_region_noPanic ?_
  refine wp_region_held_drew (S := (fun _ => True)) (by kernel_rfl) trivial (fun hHeld => ?_)
  refine wpAnyH_take (i := 0) (v := .slice (some ⟨g, 0, none⟩) n cap) rfl (by kernel_rfl) (by kernel_rfl) (by kernel_rfl) (fun _ _ _ h => h) (Or.inl ⟨by kernel_rfl, fun wz _ => by go_simp⟩) hHeld ?_
  try simp only [Act.put, List.setIfInBounds_toArray, List.set_cons_zero, List.set_cons_succ]
  refine wpAnyH_take (i := 1) (v := .int .i64 0) rfl (by kernel_rfl) (by kernel_rfl) (by kernel_rfl) (fun _ _ _ h => h) (Or.inl ⟨by kernel_rfl, fun wz _ => by go_simp⟩) hHeld ?_
  try simp only [Act.put, List.setIfInBounds_toArray, List.set_cons_zero, List.set_cons_succ]
  refine wpAnyH_take (i := 2) (v := .slice (some ⟨g, 0, none⟩) 0 cap) rfl (by kernel_rfl) (by kernel_rfl) (by kernel_rfl) (fun _ _ _ h => h) (Or.inl ⟨by kernel_rfl, fun wz _ => by go_simp⟩) hHeld ?_
  try simp only [Act.put, List.setIfInBounds_toArray, List.set_cons_zero, List.set_cons_succ]
  refine wpAnyH_take (i := 3) (v := .slice (some ⟨g, 0, none⟩) n cap) rfl (by kernel_rfl) (by kernel_rfl) (by kernel_rfl) (fun _ _ _ h => h) (Or.inl ⟨by kernel_rfl, fun wz _ => by go_simp⟩) hHeld ?_
  try simp only [Act.put, List.setIfInBounds_toArray, List.set_cons_zero, List.set_cons_succ]
  refine wpAnyH_take (i := 4) (v := .int .i64 k) rfl (by kernel_rfl) (by kernel_rfl) (by kernel_rfl) (fun _ _ _ h => h) (Or.inl ⟨by kernel_rfl, fun wz _ => by go_simp⟩) hHeld ?_
  try simp only [Act.put, List.setIfInBounds_toArray, List.set_cons_zero, List.set_cons_succ]
  refine wpAnyH_take (i := 5) (v := .slice (some ⟨g, k * 6, none⟩) (n - k) (cap - k)) rfl (by kernel_rfl) (by kernel_rfl) (by kernel_rfl) (fun _ _ _ h => h) (Or.inl ⟨by kernel_rfl, fun wz _ => by go_simp⟩) hHeld ?_
  try simp only [Act.put, List.setIfInBounds_toArray, List.set_cons_zero, List.set_cons_succ]
  have hwv : VR w.drew g cap n T X := HV.out.fr (Fr.refl (fun _ => False) w).drew (fun h => h)
  obtain ⟨cs1, hs1, hc1, hap⟩ := append72 w.drew 43 g n k cap T X hwv (by omega)
  obtain ⟨cur, hg, hsz⟩ := hwv.row
  have hg1 : (w.drew.setRow g cs1).heap[g]? = some (.cells cs1 72 (0, 0)) := setRow_heap w.drew g cur cs1 72 (0, 0) hg
  obtain ⟨cs2, hs2, hc2, hcl⟩ := clear72 (w.drew.setRow g cs1) 0 g ((n - k) * 6) (n - (n - k)) (cap - (n - k)) cs1 hg1 (by omega) (by rw [hs1]; omega)
  have HC1 : Hid (∀ j, j < (n - k) * 6 → cs1[j]? = w.drew.cell? ⟨g, k * 6 + j, none⟩) := hc1
  have HC2 : Hid (cs2.size = cs1.size ∧ cs1.size = cap * 6 ∧ ∀ j, j < (n - k) * 6 → cs2[j]? = cs1[j]?) := ⟨hs2, hs1, hc2⟩
  have HG : Hid ((w.drew.setRow g cs1).heap[g]? = some (.cells cs1 72 (0, 0))) := hg1
  have HAP : Hid _ := hap
  have HCL : Hid _ := hcl
  clear hap hcl hc1 hc2 hs1 hs2 hg1 hg hsz hwv cur
  refine wpAnyH_ready (rs := [6]) (by kernel_rfl) (by simp) ?_
  refine AllReadyH.cons rfl (fun KK hKK => ?_) AllReadyH.nil
  refine step_of rfl (wp_append2 (.tmp 22) (.tmp 25) 43 43 rfl _ _ _ _ rfl rfl HAP.out ?_)
  refine hKK.out _ _ trivial (fun hHeld => ?_)
  clear hKK KK
  try simp only [Act.put, List.setIfInBounds_toArray, List.set_cons_zero, List.set_cons_succ]
  refine wpAnyH_take (i := 7) (v := .slice (some ⟨g, 0, none⟩) (n - k) cap) rfl (by kernel_rfl) (by kernel_rfl) (by kernel_rfl) (fun _ _ _ h => h) (Or.inl ⟨by kernel_rfl, fun wz _ => by go_simp⟩) hHeld ?_
  try simp only [Act.put, List.setIfInBounds_toArray, List.set_cons_zero, List.set_cons_succ]
  refine wpAnyH_done (by kernel_rfl) ?_ _
  refine NoPanic.normal ?_
  try simp only [List.getElem_toArray, List.getElem_cons_zero, List.getElem_cons_succ, Act.put, List.setIfInBounds_toArray, List.set_cons_zero, List.set_cons_succ]
  go_wp2_with (guard_target =~ wpList _ _ _ (Oper.mk _ (Op.call { callee := Callee.builtin Builtin.clear, args := #[Operand.tmp 31], argTypes := #[43] }) _ _ _ _ :: _) _ _; refine wpList_plain rfl fun KK hKK => ?_; refine wp_clear1 (.tmp 31) 43 rfl _ _ _ rfl HCL.out ?_; refine hKK _ _ ?_; clear hKK KK)
  go_ret
  refine ⟨rfl, ?_, ((Fr.refl (· = g) w).drew.setRow (g := g) rfl _).setRow (g := g) rfl _⟩
  obtain ⟨h1, h2, h3⟩ := HC2.out
  have hg2 := setRow_heap (w.drew.setRow g cs1) g cs1 cs2 72 (0, 0) HG.out
  refine ⟨⟨cs2, hg2, h1.trans h2⟩, by omega, HV.out.cap, ?_⟩
  have hsub : VC g (k * 6) (n - k) (fun i => T (k + i)) (fun i => X (k + i)) w := fun i hi => by
    have := HV.out.vc (k + i) (by omega)
    rwa [show 0 + (k + i) * 6 = k * 6 + i * 6 by omega] at this
  refine hsub.move (fun _ _ => rfl) (fun _ _ => rfl) (fun j v hj hv => ?_)
  rw [Nat.zero_add, cell_row hg2, h3 j hj, HC1.out j hj]
  exact hv
end Go.Proofs.Qxb6630565a
