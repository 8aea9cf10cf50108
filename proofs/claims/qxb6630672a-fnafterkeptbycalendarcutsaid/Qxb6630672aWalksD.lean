/-
  THE WALKS of TradingDays.After on a nil calendar, of ZZnewTradingDays.
-/
import Derived.Test.Qxb6630672aWalksC
import Derived.Deep.OwnRows
import Derived.Laws.CopyOwn
import Derived.BigQuiet
import Derived.WalkSpells
namespace Go.Proofs.Qxb6630672a
open Go.ChangeShapes Go.WideShapes Go.ChangeAt Go.RowKit

set_option maxHeartbeats 2000000 in
theorem after_empty (d m : Int) (w : World) :
    Calls Try.prog 8 #[.agg #[.slice none 0 0], .agg #[.int .i64 d], .int .i64 m] w fun e w' =>
      e = .returned (.tuple #[.agg #[.int .i64 0], .bool false]) ∧ Below w.heap.size w w' := by
  go_enter Try.func8, Try.ntmps8
  go_wp2_with fail
  refine (search_empty _ _ _ _).mono ?_
  rintro e w5 ⟨rfl, hb5⟩
  have hsz := hb5.size
  simp at hsz
  have c3 : w5.cell? ⟨w.heap.size, 0, none⟩ = some (.slice none 0 0) := (hb5.cell (p := ⟨w.heap.size, 0, none⟩) (by simp; omega)).trans (cell_of (heap3_0 _ _ _ _) rfl)
  have c6 : w5.cell? ⟨w.heap.size + 1 + 1, 0, none⟩ = some (.int .i64 0) := (hb5.cell (p := ⟨w.heap.size + 1 + 1, 0, none⟩) (by simp)).trans (cell_of (heap3_2 _ _ _ _) rfl)
  have f6 : w5.frozen? ⟨w.heap.size + 1 + 1, 0, none⟩ = false := (hb5.frozen (p := ⟨w.heap.size + 1 + 1, 0, none⟩) (by simp)).trans (fro_of (heap3_2 _ _ _ _))
  have HB : Hid (Below w.heap.size w w5) := by
    refine Below.trans (((Below.refl _ w).alloc (Nat.le_refl _) _ |>.alloc ?_ _).alloc ?_ _) (hb5.mono ?_) <;> simp <;> omega
  clear hb5 hsz
  by_cases h1 : m < 1
  · go_wp2
    exact bodyPost_ret (v := .tuple #[.agg #[.int .i64 0], .bool false]) (by simp [results, Try.results8, go_sem, c6]) rfl ⟨rfl, HB.out.setCell (by show _ ≤ _; simp; omega) _⟩
  · go_wp2
    exact bodyPost_ret (v := .tuple #[.agg #[.int .i64 0], .bool false]) (by simp [results, Try.results8, go_sem, c6]) rfl ⟨rfl, HB.out.setCell (by show _ ≤ _; simp; omega) _⟩

theorem eqnil (w : World) (a : Option Addr) (n c : Nat) : (binOp .eql 22 (.slice a n c) (.slice none 0 0)).run Try.prog w = .ok (.bool a.isNone) w := Lib.run_eql_slice_nil w 22 2 a n c 0 0 Try.underlying22
theorem nenil (w : World) (a : Option Addr) (n c : Nat) : (binOp .neq 22 (.slice a n c) (.slice none 0 0)).run Try.prog w = .ok (.bool (!a.isNone)) w := run_neq_slice_nil_any w 22 2 a n c 0 0 Try.underlying22

theorem newDays_nil (w : World) : Calls Try.prog 6 #[.slice none 0 0] w fun e w' => e = .returned (.agg #[.slice none 0 0]) ∧ Below w.heap.size w w' := by
  have hn := fun w => eqnil w none 0 0
  go_enter Try.func6, Try.ntmps6
  go_wp2
  exact bodyPost_ret (v := .agg #[.slice none 0 0]) (by simp [results, Try.results6, go_sem]) rfl ⟨rfl, (Below.refl _ w).alloc (Nat.le_refl _) _⟩

theorem info29 : (Try.prog.info? 29).map (fun i => (i.zero, i.size, i.bytes)) = some (some (.agg #[.int .i64 0]), 1, 8) := by kernel_rfl
theorem info2 : (Try.prog.info? 2).map (fun i => (i.zero, i.size, i.bytes)) = some (some (.int .i64 0), 1, 8) := by kernel_rfl

theorem make29 (n : Nat) (hbig : n ≤ 1048576) (w : World) :
    (Instr.makeSlice 24 (.int .i64 (n : Int)) (.int .i64 (n : Int))).run Try.prog w = .ok (.slice (some ⟨w.heap.size, 0, none⟩) n n) (w.alloc (.cells (madeCells #[.int .i64 0] n) 29)) := by
  obtain ⟨i, hi, hzz⟩ := Option.map_eq_some_iff.1 info29
  simp only [Prod.mk.injEq] at hzz
  obtain ⟨hz, hs, hb⟩ := hzz
  have hr := run_make (P := Try.prog) w 24 29 i (.agg #[.int .i64 0]) (by kernel_rfl) hi hz .i64 .i64 n n (by omega) (Int.le_refl _) (by rw [hb]; omega) (by omega)
  simp only [Int.toNat_natCast, hs, Nat.mul_one] at hr
  exact hr

theorem make2 (n : Nat) (hbig : n ≤ 1048576) (w : World) :
    (Instr.makeSlice 22 (.int .i64 (n : Int)) (.int .i64 (n : Int))).run Try.prog w = .ok (.slice (some ⟨w.heap.size, 0, none⟩) n n) (w.alloc (.cells (madeCells #[.int .i64 0] n) 2)) :=
  run_make_row' 22 2 _ 8 (by kernel_rfl) info2 rfl .i64 .i64 n (by omega) (by omega) w

/-- the new row, its first k cells laid -/
def Laid (g n : Nat) (zs : List Int) (k : Nat) (w : World) : Prop := ∃ cs : Array Value, w.heap[g]? = some (.cells cs 29 (0, 0)) ∧ cs.size = n ∧ ∀ i, i < k → cs[i]? = some (.int .i64 (zs.getD i 0))

theorem Laid.cell {g n k : Nat} {zs : List Int} {w : World} (h : Laid g n zs k w) {i : Nat} (hi : i < n) : ∃ v, w.cell? ⟨g, i, none⟩ = some v := by
  obtain ⟨cs, h1, h2, _⟩ := h
  exact ⟨cs[i]'(by omega), cell_of h1 (Array.getElem?_eq_getElem (by omega))⟩
theorem Laid.fro {g n k : Nat} {zs : List Int} {w : World} (h : Laid g n zs k w) (i : Nat) : w.frozen? ⟨g, i, none⟩ = false := by
  obtain ⟨cs, h1, _, _⟩ := h
  exact fro_of h1
theorem Laid.put {g n k : Nat} {zs : List Int} {w : World} (h : Laid g n zs k w) (hk : k < n) : Laid g n zs (k + 1) (w.setCell ⟨g, k, none⟩ (.int .i64 (zs.getD k 0))) := by
  obtain ⟨cs, h1, h2, h3⟩ := h
  refine ⟨cs.setIfInBounds k (.int .i64 (zs.getD k 0)), ?_, by simp [h2], fun i hi => ?_⟩
  · obtain ⟨hg, h1'⟩ := Array.getElem?_eq_some_iff.1 h1
    simp [World.setCell, hg, Array.getElem_modify, h1']
  · by_cases hik : i = k
    · subst hik
      simp [h2, hk]
    · rw [Array.getElem?_setIfInBounds_ne (by omega)]
      exact h3 i (by omega)
theorem Laid.row {g n : Nat} {zs : List Int} {w : World} (h : Laid g n zs n w) (hn : n = zs.length) : DRow g zs w := by
  obtain ⟨cs, h1, h2, h3⟩ := h
  exact fun i hi => cell_of h1 (h3 i (by omega))

theorem DRow.set {g b : Nat} {zs : List Int} {w : World} (h : DRow g zs w) (hb : b ≠ g) (v : Value) : DRow g zs (w.setCell ⟨b, 0, none⟩ v) := fun i hi => by
  have := h i hi
  simp only [World.cell?, World.setCell, Array.getElem?_modify] at this ⊢
  simpa [hb] using this

set_option maxHeartbeats 2000000 in
theorem newDays_any (g c : Nat) (zs : List Int) (w : World) (hg : g < w.heap.size) (hbig : zs.length ≤ 1048576) (hcap : zs.length ≤ c) (hc : DRow g zs w) :
    Calls Try.prog 6 #[.slice (some ⟨g, 0, none⟩) zs.length c] w fun e w' =>
      (∃ g', e = .returned (.agg #[.slice (some ⟨g', 0, none⟩) zs.length zs.length]) ∧ w.heap.size ≤ g' ∧ g' < w'.heap.size ∧ DRow g' zs w') ∧ Below w.heap.size w w' := by
  obtain ⟨n, hn⟩ : ∃ n, n = zs.length := ⟨_, rfl⟩
  rw [← hn] at hbig hcap ⊢
  have Hn : Hid (n = zs.length) := hn
  clear hn
  have hnil := fun w => eqnil w (some ⟨g, 0, none⟩) n c
  have hmk := fun w => make29 n hbig w
  go_enter Try.func6, Try.ntmps6
  go_wp2
  go_loopw [4] (fun i wr => ∃ k : Nat, k ≤ n ∧ i = .int .i64 k ∧ Below (w.heap.size + 1) (w.alloc (.cells #[.slice none 0 0] 26)) wr ∧ Hid (Laid (w.heap.size + 1) n zs k wr)) (fun i _ => n - (intOf i).toNat)
  case atStart =>
    refine ⟨0, Nat.zero_le _, rfl, (Below.refl _ _).alloc (by rw [size_alloc]; exact Nat.le_refl _) _, ?_⟩
    refine ⟨madeCells #[.int .i64 0] n, ?_, size_madeCells _ _, fun i hi => by omega⟩
    have h := heap_alloc_new (w.alloc (.cells #[.slice none 0 0] 26)) (.cells (madeCells #[.int .i64 0] n) 29)
    rwa [size_alloc] at h
  case round =>
    obtain ⟨k, hk, rfl, hbw, HL⟩ := hrel
    have HB : Hid (Below (w.heap.size + 1) (w.alloc (.cells #[.slice none 0 0] 26)) wr) := hbw
    have hbox : wr.cell? ⟨w.heap.size, 0, none⟩ = some (.slice none 0 0) := (hbw.cell (p := ⟨w.heap.size, 0, none⟩) (by simp)).trans (by simp)
    have hbof : wr.frozen? ⟨w.heap.size, 0, none⟩ = false := (hbw.frozen (p := ⟨w.heap.size, 0, none⟩) (by simp)).trans (by simp)
    have HW : Hid (Below w.heap.size w wr) := ((Below.refl _ w).alloc (Nat.le_refl _) _).trans (hbw.mono (by omega))
    have HR : Hid (DRow g zs wr) := hc.step hg HW.out
    have HC : Hid (DRow g zs w) := hc
    have hsz : w.heap.size + 1 < wr.heap.size := by
      obtain ⟨cs, h1, _⟩ := HL.out
      exact (Array.getElem?_eq_some_iff.1 h1).1
    clear hbw hc
    by_cases hkn : k < n
    · have hcell : wr.cell? ⟨g, k, none⟩ = some (.int .i64 (zs.getD k 0)) := HR.out _ (by have := Hn.out; omega)
      obtain ⟨v, hv⟩ := HL.out.cell hkn
      have hf := HL.out.fro k
      go_wp2
      refine ⟨⟨k + 1, by omega, rfl, HB.out.setCell (by exact Nat.le_refl _) _, HL.out.put hkn⟩, by simp only [intOf]; omega⟩
    · obtain rfl : k = n := by omega
      have HD : Hid (DRow (w.heap.size + 1) zs wr) := HL.out.row Hn.out
      go_wp2
      refine bodyPost_ret (v := .agg #[.slice (some ⟨w.heap.size + 1, 0, none⟩) k k]) (by simp [results, Try.results6, go_sem, hbox]) rfl ⟨⟨w.heap.size + 1, rfl, by omega, ?_, HD.out.set (by omega) _⟩, HW.out.setCell (by exact Nat.le_refl _) _⟩
      simpa using hsz

end Go.Proofs.Qxb6630672a
