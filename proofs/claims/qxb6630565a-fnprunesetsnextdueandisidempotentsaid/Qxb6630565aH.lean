/-
  keep: a version with an empty value.
-/
import Derived.Test.Qxb6630565aL
import Derived.Deep.RegionLaw
namespace Go.Proofs.Qxb6630565a
open Go.ChangeShapes Go.WideShapes Go.ChangeAt Go.RowKit

set_option maxHeartbeats 2000000 in
theorem le_zero (b o n c : Nat) (w : World) (hn : 4 ≤ n) (h0 : w.cell? ⟨b, o, none⟩ = some (.int .u8 0)) (h1 : w.cell? ⟨b, o + 1, none⟩ = some (.int .u8 0)) (h2 : w.cell? ⟨b, o + 2, none⟩ = some (.int .u8 0)) (h3 : w.cell? ⟨b, o + 3, none⟩ = some (.int .u8 0)) :
    Calls Try.prog 30 #[.agg #[], .slice (some ⟨b, o, none⟩) n c] w fun e w' => e = .returned (.int .u32 0) ∧ Below w.heap.size w w' := by
  have lb : b < w.heap.size := by simpa using World.block_lt_of_cell? _ _ h0
  have i0 : 0 < n := by omega
  have i1 : 1 < n := by omega
  have i2 : 2 < n := by omega
  have i3 : 3 < n := by omega
  go_enter Try.func30, Try.ntmps30
  go_upto_region 2 with fail
  go_quiet (fail)
  go_wp2
  go_ret
  exact ⟨rfl, below_drewN ((Below.refl _ w).alloc (Nat.le_refl _) _) _⟩

/-- eight zero bytes -/
def Z8 (b : Nat) (w : World) : Prop := w.cell? ⟨b, 0, none⟩ = some (.int .u8 0) ∧ w.cell? ⟨b, 1, none⟩ = some (.int .u8 0) ∧ w.cell? ⟨b, 2, none⟩ = some (.int .u8 0) ∧ w.cell? ⟨b, 3, none⟩ = some (.int .u8 0) ∧
  w.cell? ⟨b, 4, none⟩ = some (.int .u8 0) ∧ w.cell? ⟨b, 5, none⟩ = some (.int .u8 0) ∧ w.cell? ⟨b, 6, none⟩ = some (.int .u8 0) ∧ w.cell? ⟨b, 7, none⟩ = some (.int .u8 0)
theorem Z8.keep {b : Nat} {w w' : World} (h : Z8 b w) (k : Keeps w w') : Z8 b w' :=
  ⟨k _ _ h.1, k _ _ h.2.1, k _ _ h.2.2.1, k _ _ h.2.2.2.1, k _ _ h.2.2.2.2.1, k _ _ h.2.2.2.2.2.1, k _ _ h.2.2.2.2.2.2.1, k _ _ h.2.2.2.2.2.2.2⟩

theorem Keeps.same {w : World} {p : Addr} {v : Value} (h : w.cell? p = some v) : Keeps w (w.setCell p v) := fun q u hu => by
  by_cases hq : q = p
  · subst hq
    rw [h] at hu
    rw [World.cell?_setCell_same _ _ _ h]
    exact hu
  · rw [World.cell?_setCell_other _ _ _ _ (Ne.symm hq)]
    exact hu
theorem le_lo (b : Nat) (w : World) (h : Z8 b w) : Calls Try.prog 30 #[.agg #[], .slice (some ⟨b, 0, none⟩) 4 8] w fun e w' => e = .returned (.int .u32 0) ∧ Below w.heap.size w w' := by
  obtain ⟨h0, h1, h2, h3, _⟩ := h
  exact le_zero b 0 4 8 w (by omega) h0 h1 h2 h3
theorem le_hi (b : Nat) (w : World) (h : Z8 b w) : Calls Try.prog 30 #[.agg #[], .slice (some ⟨b, 4, none⟩) 4 4] w fun e w' => e = .returned (.int .u32 0) ∧ Below w.heap.size w w' := by
  obtain ⟨_, _, _, _, h0, h1, h2, h3⟩ := h
  exact le_zero b 4 4 4 w (by omega) h0 h1 h2 h3
theorem heap4_1 (w : World) (A R K B : Obj) : ((((w.alloc A).alloc R).alloc K).alloc B).heap[w.heap.size + 1]? = some R := by
  have h := heap_alloc_new (w.alloc A) R
  rw [size_alloc] at h
  rw [heap_alloc_old _ _ (by simp only [size_alloc]; omega), heap_alloc_old _ _ (by simp only [size_alloc]; omega), h]
theorem heap4_2 (w : World) (A R K B : Obj) : ((((w.alloc A).alloc R).alloc K).alloc B).heap[w.heap.size + 1 + 1]? = some K := by
  have h := heap_alloc_new ((w.alloc A).alloc R) K
  rw [size_alloc, size_alloc] at h
  rw [heap_alloc_old _ _ (by simp only [size_alloc]; omega), h]
theorem heap4_3 (w : World) (A R K B : Obj) : ((((w.alloc A).alloc R).alloc K).alloc B).heap[w.heap.size + 1 + 1 + 1]? = some B := by
  have h := heap_alloc_new (((w.alloc A).alloc R).alloc K) B
  rwa [size_alloc, size_alloc, size_alloc] at h
theorem step_copynil {w : World} {ops : Array Oper} {o : Oper} {a : Act} {K : Act → World → Prop} {Q : Exit → Act → World → Prop} {E : Prop} {ad : Addr} (hgd : o.guard = none) (ho : o.op = .call { callee := .builtin .copy, args := #[.tmp 22, .tmp 24], argTypes := #[46, 46] })
    (hs : a.eval (.tmp 22) = .slice (some ad) 8 8) (hx : a.eval (.tmp 24) = .slice none 0 0) (h : K (a.put o.dst (.int .i64 0)) w) : if Region.wanted o (yielded ops a.tmps) = true then Oper.wp Try.prog o a w K Q else E :=
  step_of hgd (wp_copy2 (.tmp 22) (.tmp 24) 46 46 ho _ _ _ _ hs hx (run_copy_nil Try.prog w 46 46 _ 5 _ 8 8 Try.underlying46 (by kernel_rfl)) h)

set_option linter.unusedSimpArgs false in
set_option maxRecDepth 100000 in
set_option maxHeartbeats 4000000 in
theorem keep_any (c : Value) (t x : Int) (k : ByteArray) (w : World) :
    Calls Try.prog 22 #[c, .agg #[.string k, .int .u64 t, .int .u64 x, .int .i64 0, .slice none 0 0]] w fun e w' => e = .returned (ver t x) ∧ Below w.heap.size w w' := by
  go_enter Try.func22, Try.ntmps22
  go_upto_region 4 with fail
  go_region_law (refine step_copynil rfl rfl rfl rfl ?_)
  go_upto_region 6 with fail
  obtain ⟨w5, hw5⟩ : ∃ w5, ((((w.alloc (.cells #[.string k, .int .u64 t, .int .u64 x, .int .i64 0, .slice none 0 0] 77)).alloc (.cells #[.int .u64 0, .int .u64 0, .int .i32 0, .int .i32 0, .int .i32 0, .int .i32 0] 72)).alloc (.cells (vcs t x) 72)).alloc
    (.cells #[.int .u8 0, .int .u8 0, .int .u8 0, .int .u8 0, .int .u8 0, .int .u8 0, .int .u8 0, .int .u8 0] 84)).drew = w5 := ⟨_, rfl⟩
  rw [hw5]
  have hr5 : w5.heap[w.heap.size + 1]? = some (.cells #[.int .u64 0, .int .u64 0, .int .i32 0, .int .i32 0, .int .i32 0, .int .i32 0] 72 (0, 0)) := by rw [← hw5]; exact heap4_1 _ _ _ _ _
  have hk5 : w5.heap[w.heap.size + 1 + 1]? = some (.cells (vcs t x) 72 (0, 0)) := by rw [← hw5]; exact heap4_2 _ _ _ _ _
  have hz5 : w5.heap[w.heap.size + 1 + 1 + 1]? = some (.cells #[.int .u8 0, .int .u8 0, .int .u8 0, .int .u8 0, .int .u8 0, .int .u8 0, .int .u8 0, .int .u8 0] 84 (0, 0)) := by rw [← hw5]; exact heap4_3 _ _ _ _ _
  have HB5 : Hid (Below w.heap.size w w5) := by
    rw [← hw5]
    refine (((((Below.refl _ w).alloc (Nat.le_refl _) _).alloc ?_ _).alloc ?_ _).alloc ?_ _).drew <;> (simp only [size_alloc]; omega)
  have hs5 : w5.heap.size = w.heap.size + 4 := by
    rw [← hw5]
    show (World.heap (World.alloc _ _)).size = _
    simp only [size_alloc]
  have HZ5 : Hid (Z8 (w.heap.size + 1 + 1 + 1) w5) := ⟨cell_of hz5 rfl, cell_of hz5 rfl, cell_of hz5 rfl, cell_of hz5 rfl, cell_of hz5 rfl, cell_of hz5 rfl, cell_of hz5 rfl, cell_of hz5 rfl⟩
  have HK5 : Hid (V6 (w.heap.size + 1 + 1) 0 t x w5) := ⟨cell_of hk5 rfl, cell_of hk5 rfl, cell_of hk5 rfl, cell_of hk5 rfl, cell_of hk5 rfl, cell_of hk5 rfl⟩
  clear hw5 hz5
  have hw32 : IntKind.i32.wrap 0 = 0 := by decide
  refine wp_region_noPanic ?_
  refine wp_region_held_drew (S := (fun w' => Z8 (w.heap.size + 1 + 1 + 1) w' ∧ V6 (w.heap.size + 1 + 1) 0 t x w')) (by kernel_rfl) ⟨HZ5.out, HK5.out⟩ (fun hHeld => ?_)
  refine wpAnyH_take (i := 0) (v := .agg #[]) rfl (by kernel_rfl) (by kernel_rfl) (by kernel_rfl) (fun _ _ _ h => h) (Or.inl ⟨by kernel_rfl, fun wz _ => by go_simp⟩) hHeld ?_
  try simp only [Act.put, List.setIfInBounds_toArray, List.set_cons_zero, List.set_cons_succ]
  refine wpAnyH_take (i := 1) (v := .slice (some ⟨w.heap.size + 1 + 1 + 1, 0, none⟩) 4 8) rfl (by kernel_rfl) (by kernel_rfl) (by kernel_rfl) (fun _ _ _ h => h) (Or.inl ⟨by kernel_rfl, fun wz _ => by go_simp⟩) hHeld ?_
  try simp only [Act.put, List.setIfInBounds_toArray, List.set_cons_zero, List.set_cons_succ]
  refine wpAnyH_take (i := 4) (v := .agg #[]) rfl (by kernel_rfl) (by kernel_rfl) (by kernel_rfl) (fun _ _ _ h => h) (Or.inl ⟨by kernel_rfl, fun wz _ => by go_simp⟩) hHeld ?_
  try simp only [Act.put, List.setIfInBounds_toArray, List.set_cons_zero, List.set_cons_succ]
  refine wpAnyH_take (i := 5) (v := .slice (some ⟨w.heap.size + 1 + 1 + 1, 4, none⟩) 4 4) rfl (by kernel_rfl) (by kernel_rfl) (by kernel_rfl) (fun _ _ _ h => h) (Or.inl ⟨by kernel_rfl, fun wz _ => by go_simp⟩) hHeld ?_
  try simp only [Act.put, List.setIfInBounds_toArray, List.set_cons_zero, List.set_cons_succ]
  refine wpAnyH_ready (rs := [2]) (by kernel_rfl) (by simp) ?_
  refine AllReadyH.cons rfl (fun KK hKK => ?_) AllReadyH.nil
  go_simp
  refine (le_lo (w.heap.size + 1 + 1 + 1) w5.drew (HZ5.out.keep (Keeps.of (Below.refl _ w5).drew))).mono ?_
  rintro e w7 ⟨rfl, hb7⟩
  have HB7 : Hid (Below w5.heap.size w5 w7) := (Below.refl _ w5).drew.trans hb7
  clear hb7
  have HZ7 : Hid (Z8 (w.heap.size + 1 + 1 + 1) w7) := HZ5.out.keep (Keeps.of HB7.out)
  have HK7 : Hid (V6 (w.heap.size + 1 + 1) 0 t x w7) := HK5.out.keep (Keeps.of HB7.out)
  refine hKK.out _ _ ⟨HZ7.out, HK7.out⟩ (fun hHeld => ?_)
  clear hKK KK
  try simp only [Act.put, List.setIfInBounds_toArray, List.set_cons_zero, List.set_cons_succ]
  refine wpAnyH_take (i := 3) (v := .int .i32 0) rfl (by kernel_rfl) (by kernel_rfl) (by kernel_rfl) (fun _ _ _ h => h) (Or.inl ⟨by kernel_rfl, fun wz _ => by go_simp⟩) hHeld ?_
  try simp only [Act.put, List.setIfInBounds_toArray, List.set_cons_zero, List.set_cons_succ]
  refine wpAnyH_take (i := 8) (v := .pointer (some ⟨w.heap.size + 1 + 1, 4, none⟩)) rfl (by kernel_rfl) (by kernel_rfl) (by kernel_rfl) (fun _ _ _ h => h) (Or.inl ⟨by kernel_rfl, fun wz _ => by go_simp⟩) hHeld ?_
  try simp only [Act.put, List.setIfInBounds_toArray, List.set_cons_zero, List.set_cons_succ]
  refine wpAnyH_ready (rs := [6]) (by kernel_rfl) (by simp) ?_
  refine AllReadyH.cons rfl (fun KK hKK => ?_) AllReadyH.nil
  go_simp
  refine (le_hi (w.heap.size + 1 + 1 + 1) w7 HZ7.out).mono ?_
  rintro e w8 ⟨rfl, hb8⟩
  have HB8 : Hid (Below w5.heap.size w5 w8) := keep_below HB7.out HB7.out.size hb8
  have HZ8 : Hid (Z8 (w.heap.size + 1 + 1 + 1) w8) := HZ7.out.keep (Keeps.of hb8)
  have HK8 : Hid (V6 (w.heap.size + 1 + 1) 0 t x w8) := HK7.out.keep (Keeps.of hb8)
  clear hb8
  have hk8 : w8.heap[w.heap.size + 1 + 1]? = some (.cells (vcs t x) 72 (0, 0)) := (HB8.out.block _ (by have := HK5.out.1; exact World.block_lt_of_cell? _ _ this)).trans hk5
  have c4 := HK8.out.2.2.2.2.1
  have c5 := HK8.out.2.2.2.2.2
  have f4 := fro_row hk8 4
  have f5 := fro_row hk8 5
  refine hKK.out _ _ ⟨HZ8.out, HK8.out⟩ (fun hHeld => ?_)
  clear hKK KK
  try simp only [Act.put, List.setIfInBounds_toArray, List.set_cons_zero, List.set_cons_succ]
  refine wpAnyH_take (i := 7) (v := .int .i32 0) rfl (by kernel_rfl) (by kernel_rfl) (by kernel_rfl) (fun _ _ _ h => h) (Or.inl ⟨by kernel_rfl, fun wz _ => by go_simp⟩) hHeld ?_
  try simp only [Act.put, List.setIfInBounds_toArray, List.set_cons_zero, List.set_cons_succ]
  have KS1 := Keeps.same c4
  refine wpAnyH_ready (rs := [9]) (by kernel_rfl) (by simp) ?_
  refine AllReadyH.cons rfl (fun KK hKK => ?_) AllReadyH.nil
  go_simp
  refine hKK.out _ _ ⟨HZ8.out.keep KS1, HK8.out.keep KS1⟩ (fun hHeld => ?_)
  clear hKK KK
  try simp only [Act.put, List.setIfInBounds_toArray, List.set_cons_zero, List.set_cons_succ]
  have c5' := KS1 _ _ c5
  have KS2 := Keeps.same c5'
  refine wpAnyH_take (i := 10) (v := .pointer (some ⟨w.heap.size + 1 + 1, 5, none⟩)) rfl (by kernel_rfl) (by kernel_rfl) (by kernel_rfl) (fun _ _ _ h => h) (Or.inl ⟨by kernel_rfl, fun wz _ => by go_simp⟩) hHeld ?_
  try simp only [Act.put, List.setIfInBounds_toArray, List.set_cons_zero, List.set_cons_succ]
  refine wpAnyH_ready (rs := [11]) (by kernel_rfl) (by simp) ?_
  refine AllReadyH.cons rfl (fun KK hKK => ?_) AllReadyH.nil
  go_simp
  refine hKK.out _ _ ⟨(HZ8.out.keep KS1).keep KS2, (HK8.out.keep KS1).keep KS2⟩ (fun hHeld => ?_)
  clear hKK KK
  try simp only [Act.put, List.setIfInBounds_toArray, List.set_cons_zero, List.set_cons_succ]
  refine wpAnyH_done (by kernel_rfl) ?_ _
  refine NoPanic.normal ?_
  try simp only [List.getElem_toArray, List.getElem_cons_zero, List.getElem_cons_succ, Act.put, List.setIfInBounds_toArray, List.set_cons_zero, List.set_cons_succ]
  obtain ⟨w9, hw9⟩ : ∃ w9, (w8.setCell ⟨w.heap.size + 1 + 1, 4, none⟩ (.int .i32 0)).setCell ⟨w.heap.size + 1 + 1, 5, none⟩ (.int .i32 0) = w9 := ⟨_, rfl⟩
  rw [hw9]
  have hr9 : w9.heap[w.heap.size + 1]? = some (.cells #[.int .u64 0, .int .u64 0, .int .i32 0, .int .i32 0, .int .i32 0, .int .i32 0] 72 (0, 0)) := by
    rw [← hw9, setCell_other_heap _ _ _ _ (by simp), setCell_other_heap _ _ _ _ (by simp)]
    exact (HB8.out.block _ (by omega)).trans hr5
  have HK9 : Hid (V6 (w.heap.size + 1 + 1) 0 t x w9) := by
    rw [← hw9]
    exact (HK8.out.keep KS1).keep KS2
  have HB9 : Hid (Below w.heap.size w w9) := by
    rw [← hw9]
    exact ((HB5.out.trans (HB8.out.mono (by omega))).setCell (p := ⟨w.heap.size + 1 + 1, 4, none⟩) (show w.heap.size ≤ w.heap.size + 1 + 1 by omega) _).setCell (p := ⟨w.heap.size + 1 + 1, 5, none⟩) (show w.heap.size ≤ w.heap.size + 1 + 1 by omega) _
  clear hw9 KS1 KS2 c4 c5 c5' f4 f5 hk8 HB8 HZ8 HK8 HB7 HZ7 HK7 hr5 hk5 HB5 HZ5 HK5 hs5 hw32
  obtain ⟨v0, v1, v2, v3, v4, v5⟩ := HK9.out
  have r0 : w9.cell? ⟨w.heap.size + 1, 0, none⟩ = some (.int .u64 0) := cell_of hr9 rfl
  have r1 : w9.cell? ⟨w.heap.size + 1, 1, none⟩ = some (.int .u64 0) := cell_of hr9 rfl
  have r2 : w9.cell? ⟨w.heap.size + 1, 2, none⟩ = some (.int .i32 0) := cell_of hr9 rfl
  have r3 : w9.cell? ⟨w.heap.size + 1, 3, none⟩ = some (.int .i32 0) := cell_of hr9 rfl
  have r4 : w9.cell? ⟨w.heap.size + 1, 4, none⟩ = some (.int .i32 0) := cell_of hr9 rfl
  have r5 : w9.cell? ⟨w.heap.size + 1, 5, none⟩ = some (.int .i32 0) := cell_of hr9 rfl
  have f0 := fro_row hr9 0
  have f1 := fro_row hr9 1
  have f2 := fro_row hr9 2
  have f3 := fro_row hr9 3
  have f4 := fro_row hr9 4
  have f5 := fro_row hr9 5
  clear hr9
  go_wp2
  have hle : w.heap.size ≤ w.heap.size + 1 := by omega
  refine bodyPost_ret (v := ver t x) (by simp [results, Try.results22, go_sem, r0, r1, r2, r3, r4, r5]) rfl ⟨rfl, ?_⟩
  exact (((((HB9.out.setCell (p := ⟨w.heap.size + 1, 0, none⟩) hle _).setCell (p := ⟨w.heap.size + 1, 1, none⟩) hle _).setCell (p := ⟨w.heap.size + 1, 2, none⟩) hle _).setCell (p := ⟨w.heap.size + 1, 3, none⟩) hle _).setCell (p := ⟨w.heap.size + 1, 4, none⟩) hle _).setCell (p := ⟨w.heap.size + 1, 5, none⟩) hle _
end Go.Proofs.Qxb6630565a
