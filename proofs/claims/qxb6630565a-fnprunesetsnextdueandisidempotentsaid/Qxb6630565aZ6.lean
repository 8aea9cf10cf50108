/-
  A SECOND Prune AT THE SAME HORIZON; the slice of lengths.
-/
import Derived.Test.Qxb6630565aZ3
import Derived.Test.Qxb6630565aZ4
import Derived.Deep.OwnRows
namespace Go.Proofs.Qxb6630565a
open Go.ChangeShapes Go.WideShapes Go.ChangeAt Go.RowKit

set_option maxRecDepth 100000 in
set_option maxHeartbeats 4000000 in
theorem again_any (B S I M N : Nat) (cv : Value) (len : Nat → Nat) (t : Nat → Nat → Int) (st : Nat → Nat) (h : Int) (pd : Int → Option (List Int)) (lk : Int → Option Value) (ps : List Int) (pv : Value) (w : World)
    (hSM : SMx w B S 0 0 I M cv N len t st pd lk ps pv) (he : ∀ p ∈ ps, h < p + 67108863) :
    Calls Try.prog 19 #[.pointer (some ⟨S, 0, none⟩), .int .u64 h] w fun e w' => e = .returned (.tuple #[]) ∧ SMx w' B S 0 0 I M cv N len t st pd lk ps pv ∧ Fr (· = S) w w' := by
  have HSM := hide hSM
  have HE := hide he
  have c10 : w.cell? ⟨S, 10, none⟩ = some (.int .u64 (dueOf ps)) := hSM.s.cell 10
  obtain ⟨du, hdu⟩ : ∃ du, Hid (dueOf ps = du) := ⟨_, rfl⟩
  rw [hdu.out] at c10
  clear hSM he
  by_cases hdue : du ≤ h
  · cases ps with
    | cons p0 rest =>
      exfalso
      have h1 := HE.out p0 (List.mem_cons_self ..)
      have h2 : p0 + 67108863 = du := hdu.out
      omega
    | nil =>
      go_enter Try.func19, Try.ntmps19
      go_wp2
      refine wp_loop_rounds 1 ?_
      rw [rounds_succ]
      go_wp2_with fail
      refine (load_any S 10 du w c10).mono ?_
      rintro e w ⟨rfl, rfl⟩
      go_wp2_with fail
      refine (lock_any B S w HSM.out).mono ?_
      rintro e w1 ⟨rfl, hs1, hf1⟩
      have HSM1 := hide hs1
      have HF1 := hide hf1
      have c9 : w1.cell? ⟨S, 9, none⟩ = some pv := hs1.s.cell 9
      clear hs1 hf1 c10
      obtain ⟨pa, pc, rfl⟩ := HSM1.out.r.form2
      go_wp2_with fail
      refine (unlock_any B S w1 HSM1.out).mono ?_
      rintro e w2 ⟨rfl, hs2, hf2⟩
      have HSM2 := hide hs2
      have HF2 : Hid (Fr (· = S) w w2) := HF1.out.trans hf2
      clear hs2 hf2 c9
      go_wp2
      first | go_end0 | refine bodyPost_ret (results_none rfl _ _ _) rfl ?_
      exact ⟨rfl, HSM2.out, HF2.out⟩
  · go_enter Try.func19, Try.ntmps19
    go_wp2
    refine wp_loop_rounds 1 ?_
    rw [rounds_succ]
    go_wp2_with fail
    refine (load_any S 10 du w c10).mono ?_
    rintro e w ⟨rfl, rfl⟩
    go_wp2
    first | go_end0 | refine bodyPost_ret (results_none rfl _ _ _) rfl ?_
    exact ⟨rfl, HSM.out, Fr.refl _ _⟩

theorem zzagain_any (B S I M N : Nat) (cv : Value) (len : Nat → Nat) (t : Nat → Nat → Int) (st : Nat → Nat) (h : Int) (pd : Int → Option (List Int)) (lk : Int → Option Value) (ps : List Int) (pv : Value) (w : World)
    (hSM : SMx w B S 0 0 I M cv N len t st pd lk ps pv) (he : ∀ p ∈ ps, h < p + 67108863) :
    Calls Try.prog 8 #[.pointer (some ⟨S, 0, none⟩), .int .u64 h] w fun e w' => e = .returned (.tuple #[]) ∧ SMx w' B S 0 0 I M cv N len t st pd lk ps pv ∧ Fr (· = S) w w' := by
  have H := again_any B S I M N cv len t st h pd lk ps pv w hSM he
  clear hSM he
  go_enter Try.func8, Try.ntmps8
  go_wp2_with fail
  refine H.mono ?_
  rintro e w' ⟨rfl, hp, hf⟩
  have HP := hide hp
  have HF := hide hf
  clear hp hf H
  go_wp2
  first | go_end0 | refine bodyPost_ret (results_none rfl _ _ _) rfl ?_
  exact ⟨rfl, HP.out, HF.out⟩

theorem make3 (n : Nat) (hbig : n ≤ 1048576) (w : World) :
    (Instr.makeSlice 36 (.int .i64 (n : Int)) (.int .i64 (n : Int))).run Try.prog w = .ok (.slice (some ⟨w.heap.size, 0, none⟩) n n) (w.alloc (.cells (madeCells #[.int .i64 0] n) 3)) :=
  run_make_row' 36 3 _ 8 (by kernel_rfl) info3 rfl .i64 .i64 n (by omega) (by omega) w

/-- the first k lengths are laid -/
def LN (w : World) (G n : Nat) (f : Nat → Nat) (k : Nat) : Prop := ∃ cs : Array Value, w.heap[G]? = some (.cells cs 3 (0, 0)) ∧ cs.size = n ∧ ∀ i, i < k → cs[i]? = some (.int .i64 (f i : Nat))
theorem LN.cell {w : World} {G n k : Nat} {f : Nat → Nat} (h : LN w G n f k) {i : Nat} (hi : i < n) : ∃ v, w.cell? ⟨G, i, none⟩ = some v := by
  obtain ⟨cs, h1, h2, _⟩ := h
  exact ⟨cs[i]'(by omega), (cell_row h1 i).trans (Array.getElem?_eq_getElem (by omega))⟩
theorem LN.fro {w : World} {G n k : Nat} {f : Nat → Nat} (h : LN w G n f k) (i : Nat) : w.frozen? ⟨G, i, none⟩ = false := by
  obtain ⟨cs, h1, _, _⟩ := h
  exact fro_row h1 i
theorem LN.at {w : World} {G n k : Nat} {f : Nat → Nat} (h : LN w G n f k) {i : Nat} (hi : i < k) : w.cell? ⟨G, i, none⟩ = some (.int .i64 (f i : Nat)) := by
  obtain ⟨cs, h1, _, h3⟩ := h
  exact (cell_row h1 i).trans (h3 i hi)
theorem LN.put {w : World} {G n k : Nat} {f : Nat → Nat} (h : LN w G n f k) (hk : k < n) : LN (w.setCell ⟨G, k, none⟩ (.int .i64 (f k : Nat))) G n f (k + 1) := by
  obtain ⟨cs, h1, h2, h3⟩ := h
  refine ⟨cs.setIfInBounds k (.int .i64 (f k : Nat)), setCell_heap h1 _, by simp [h2], fun i hi => ?_⟩
  by_cases hik : i = k
  · subst hik
    simp [h2, hk]
  · rw [Array.getElem?_setIfInBounds_ne (by omega)]
    exact h3 i (by omega)
theorem LN.fr {w w' : World} {G n k : Nat} {f : Nat → Nat} (h : LN w G n f k) {P : Nat → Prop} (hf : Fr P w w') (hP : ¬ P G) : LN w' G n f k := by
  obtain ⟨cs, h1, h2⟩ := h
  exact ⟨cs, hf.heap hP h1, h2⟩
end Go.Proofs.Qxb6630565a
