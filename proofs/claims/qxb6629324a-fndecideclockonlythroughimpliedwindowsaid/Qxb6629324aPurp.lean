/-
  consentB1Purpose: the purpose handed over, as fresh copies.
-/
import Derived.Deep.RegionHeld3
import Derived.WalkSpells
import Derived.Deep.DeepCutAuto
import Derived.Test.Qxb6629324aDecEnv
namespace Go.Proofs.Qxb6629324a
open Go.ChangeShapes Go.WideShapes Go.ChangeAt Go.RowKit

/-- the topics as they lie in memory: tl pairs of strings -/
def Tops (w : World) (ta : Option Addr) (tl : Nat) : Prop :=
  tl = 0 ∨ ∃ tb toff, ta = some ⟨tb, toff, none⟩ ∧ ∀ i, i < tl → ∃ s s' : ByteArray, w.cell? ⟨tb, toff + i * 2, none⟩ = some (.string s) ∧ w.cell? ⟨tb, toff + i * 2 + 1, none⟩ = some (.string s') ∧ s.size ≤ maxLen ∧ s'.size ≤ maxLen

theorem Try.info67 : (Try.prog.info? 67).map (fun i => (i.zero, i.size, i.bytes)) = some (some (.agg #[.string ⟨#[]⟩, .string ⟨#[]⟩]), 2, 32) := by kernel_rfl

theorem run_make_topics (n : Nat) (hn : n ≤ 32768) (w : World) :
    (Instr.makeSlice 34 (.int .i64 (n : Int)) (.int .i64 (n : Int))).run Try.prog w = .ok (.slice (some ⟨w.heap.size, 0, none⟩) n n) (w.alloc (.cells (madeCells #[.string ⟨#[]⟩, .string ⟨#[]⟩] (n * 2)) 67)) := by
  obtain ⟨i, hi, hz, hs, hb⟩ := info_parts Try.info67
  have h := run_make (P := Try.prog) w 34 67 i _ Try.underlying34 hi hz .i64 .i64 n n (by omega) (Int.le_refl _) (by rw [hb]; omega) (by omega)
  simpa [hs, Value.cells] using h

/-- what stays true of the two blocks that consentB1Purpose lays at its start -/
structure PEnv (w wk : World) (PU : Array Value) : Prop where
  hz : w.heap.size + 1 < wk.heap.size
  pur : wk.heap[w.heap.size]? = some (.cells PU 25 (0, 0))
  res : wk.heap[w.heap.size + 1]? = some (.cells #[.string ⟨#[]⟩, .string ⟨#[]⟩, .int .i64 0, .int .i64 0, .pointer none, .slice none 0 0, .pointer none] 36 (0, 0))
  below : Below w.heap.size w wk
theorem PEnv.start (w : World) (PU : Array Value) : PEnv w ((w.alloc (.cells PU 25)).alloc (.cells #[.string ⟨#[]⟩, .string ⟨#[]⟩, .int .i64 0, .int .i64 0, .pointer none, .slice none 0 0, .pointer none] 36)) PU where
  hz := by simp
  pur := (heap_alloc_old _ _ (by simp)).trans (heap_at _ _ _ rfl)
  res := heap_at _ _ _ (by simp)
  below := ((Below.refl _ _).alloc (Nat.le_refl _) _).alloc (by simp) _
theorem PEnv.alloc {w wk : World} {PU : Array Value} (h : PEnv w wk PU) (o : Obj) : PEnv w (wk.alloc o) PU where
  hz := by have := h.hz; simp; omega
  pur := (heap_alloc_old _ _ (by have := h.hz; omega)).trans h.pur
  res := (heap_alloc_old _ _ (by have := h.hz; omega)).trans h.res
  below := h.below.alloc (by have := h.hz; omega) _
theorem PEnv.step {w wk w' : World} {PU : Array Value} {B : Nat} (h : PEnv w wk PU) (hB : w.heap.size + 2 ≤ B) (hb : Below B wk w') : PEnv w w' PU where
  hz := Nat.lt_of_lt_of_le h.hz hb.size
  pur := below_blk hb (by omega) h.pur
  res := below_blk hb (by omega) h.res
  below := h.below.trans (hb.mono (by omega))

theorem ptr_alloc (w : World) (v : Int) (t : TypeId) : PtrIs (w.alloc (.cells #[.int .i64 v] t)) (some ⟨w.heap.size, 0, none⟩) (some v) :=
  .inr ⟨w.heap.size, 0, v, rfl, rfl, by simp, by simp⟩
theorem PtrIs.setRow {w : World} {p : Option Addr} {o : Option Int} (h : PtrIs w p o) (g : Nat) (cells : Array Value) (hne : ∀ b off, p = some ⟨b, off, none⟩ → b ≠ g) : PtrIs (w.setRow g cells) p o := by
  rcases h with h | ⟨b, off, v, h1, h2, h3, h4⟩
  · exact .inl h
  · refine .inr ⟨b, off, v, h1, h2, by simpa using h3, ?_⟩
    rw [World.cell?_of_block (w := w) (heap_setRow_other w g b cells (hne b off h1))]
    exact h4

theorem cell_set2 (w : World) (g k o : Nat) (i j : Nat) (x y : Value) (h : k ≠ g) : ((w.setCell ⟨g, i, none⟩ x).setCell ⟨g, j, none⟩ y).drew.cell? ⟨k, o, none⟩ = w.cell? ⟨k, o, none⟩ := by
  have e : ∀ (w : World) (i : Nat) (x : Value), (w.setCell ⟨g, i, none⟩ x).cell? ⟨k, o, none⟩ = w.cell? ⟨k, o, none⟩ := fun w i x =>
    World.cell?_of_block (w := w) (Below.heap_setCell w ⟨g, i, none⟩ x k h)
  exact (e _ _ _).trans (e _ _ _)
theorem below_set2 (w : World) (B g i j : Nat) (x y : Value) (h : B ≤ g) : Below B w ((w.setCell ⟨g, i, none⟩ x).setCell ⟨g, j, none⟩ y).drew :=
  (((Below.refl _ _).setCell h _).setCell h _).drew

set_option maxHeartbeats 2000000 in
theorem purp_any (nm lb : ByteArray) (ty md : Int) (ta : Option Addr) (tl tc : Nat) (smsP hrsP : Option Addr) (sms hrs : Option Int) (w : World) (hp : PtrIs w smsP sms) (hq : PtrIs w hrsP hrs) (htl : tl ≤ 32768) (ht : Tops w ta tl) :
    Calls Try.prog 7 #[.agg #[.string nm, .string lb, .int .i64 ty, .int .i64 md, .pointer smsP, .slice ta tl tc, .pointer hrsP]] w fun e w' =>
      ∃ sms' hrs' ta' tl' tc', e = .returned (.agg #[.string nm, .string lb, .int .i64 ty, .int .i64 md, .pointer sms', .slice ta' tl' tc', .pointer hrs']) ∧ PtrIs w' sms' sms ∧ PtrIs w' hrs' hrs ∧ Below w.heap.size w w' := by
  have hne := fun (w : World) => run_neq_slice_nil_any (P := Try.prog) w 23 66 ta tl tc 0 0 Try.underlying23
  go_enter Try.func7, Try.ntmps7
  go_upto_if 11 with fail
  go_cut [3] (fun s3 wx => ∃ ta' tl' tc', s3 = .slice ta' tl' tc' ∧ Hid (PEnv w wx #[.string nm, .string lb, .int .i64 ty, .int .i64 md, .pointer smsP, .slice ta tl tc, .pointer hrsP]))
  case first =>
    cases ta with
    | none =>
      go_wp2
      go_meet
      case rel => exact ⟨none, 0, 0, rfl, PEnv.start w _⟩
    | some a =>
      have hmk := run_make_topics tl htl
      go_wp2_with fail
      clear hmk
      go_loopw [4] (fun i wr => ∃ k : Nat, k ≤ tl ∧ i = .int .i64 k ∧ Hid (PEnv w wr #[.string nm, .string lb, .int .i64 ty, .int .i64 md, .pointer smsP, .slice (some a) tl tc, .pointer hrsP]) ∧ Hid (∃ C : Array Value, wr.heap[w.heap.size + 1 + 1]? = some (.cells C 67 (0, 0)) ∧ C.size = tl * 2)) (fun i _ => tl - (intOf i).toNat)
      case atStart => exact ⟨0, Nat.zero_le _, rfl, (PEnv.start w _).alloc _, ⟨_, heap_at _ _ _ (by simp), size_madeCells _ _⟩⟩
      case round =>
        obtain ⟨k, hk, rfl, E, HC⟩ := hrel
        have c5 : wr.cell? ⟨w.heap.size, 5, none⟩ = some (.slice (some a) tl tc) := (cell_of_row wr _ 5 _ _ _ E.out.pur).trans rfl
        by_cases hlt : k < tl
        · have hlt' : (k : Int) < (tl : Int) := by omega
          rcases ht with h0 | ⟨tb, toff, hta, hcs⟩
          · omega
          · simp only [Option.some.injEq] at hta
            subst hta
            obtain ⟨s1, s2, hs1, hs2, hsz1, hsz2⟩ := hcs k hlt
            have htb : tb < w.heap.size := block_lt_of_cell hs1
            have d1 : wr.cell? ⟨tb, toff + k * 2, none⟩ = some (.string s1) := (E.out.below.cell (p := ⟨tb, toff + k * 2, none⟩) htb).trans hs1
            have d2 : wr.cell? ⟨tb, toff + k * 2 + 1, none⟩ = some (.string s2) := (E.out.below.cell (p := ⟨tb, toff + k * 2 + 1, none⟩) htb).trans hs2
            obtain ⟨C, hC, hCs⟩ := HC.out
            have HC2 := hide hC
            have z1 : wr.cell? ⟨w.heap.size + 1 + 1, k * 2, none⟩ = some (C[k * 2]'(by omega)) := (cell_of_row wr _ (k * 2) _ _ _ hC).trans (Array.getElem?_eq_getElem _)
            have z2 : wr.cell? ⟨w.heap.size + 1 + 1, k * 2 + 1, none⟩ = some (C[k * 2 + 1]'(by omega)) := (cell_of_row wr _ (k * 2 + 1) _ _ _ hC).trans (Array.getElem?_eq_getElem _)
            have f1 := frozen_of_row wr (w.heap.size + 1 + 1) (k * 2) _ _ hC
            have f2 := frozen_of_row wr (w.heap.size + 1 + 1) (k * 2 + 1) _ _ hC
            have m1 : w.heap.size ≠ w.heap.size + 1 + 1 := by omega
            have m2 : tb ≠ w.heap.size + 1 + 1 := by omega
            have HC3 := hide hC
            clear hC hcs hs1 hs2 HC2
            go_wp2
            go_region_held3 (fun w' => w'.cell? ⟨w.heap.size, 5, none⟩ = some (.slice (some ⟨tb, toff, none⟩) tl tc) ∧ w'.cell? ⟨tb, toff + k * 2, none⟩ = some (.string s1) ∧ w'.cell? ⟨tb, toff + k * 2 + 1, none⟩ = some (.string s2)) (first | (go_keep; done) | exact ⟨(cell_set2 _ _ _ _ _ _ _ _ m1).trans c5, (cell_set2 _ _ _ _ _ _ _ _ m2).trans d1, (cell_set2 _ _ _ _ _ _ _ _ m2).trans d2⟩) (fail)
            go_wp2
            go_roundw
            case rel =>
              have R1 := E.out.step (Nat.le_refl _) (below_set2 wr _ (w.heap.size + 1 + 1) (k * 2) (k * 2 + 1) (.string s1) (.string s2) (Nat.le_refl _))
              have R2 : ∃ C' : Array Value, ((wr.setCell ⟨w.heap.size + 1 + 1, k * 2, none⟩ (.string s1)).setCell ⟨w.heap.size + 1 + 1, k * 2 + 1, none⟩ (.string s2)).drew.heap[w.heap.size + 1 + 1]? = some (.cells C' 67 (0, 0)) ∧ C'.size = tl * 2 := ⟨_, heap_setCell_same _ _ _ _ _ _ (heap_setCell_same _ _ _ _ _ _ HC3.out), by simpa using hCs⟩
              (repeat apply Exists.intro)
              exact ⟨⟨k + 1, by omega, by go_num, R1, R2⟩, rfl⟩
            case measure => go_light; simp [intOf]; omega
        · go_wp2
          go_meet
          case rel => exact ⟨_, _, _, rfl, E⟩
  case rest =>
    obtain ⟨ta', tl', tc', rfl, E⟩ := hcut
    clear ht hne
    rcases hp with ⟨rfl, rfl⟩ | ⟨b, off, v, rfl, rfl, hlt, hcell⟩ <;> rcases hq with ⟨rfl, rfl⟩ | ⟨b2, off2, v2, rfl, rfl, hlt2, hcell2⟩
    · have hz := E.out.hz
      have hz0 : w.heap.size < wc.heap.size := by omega
      have c := fun i => cell_of_row wc _ i _ _ _ E.out.pur
      go_wp2_with (refine wpList_store_blk rfl 36 _ _ rfl rfl rfl #[.string ⟨#[]⟩, .string ⟨#[]⟩, .int .i64 0, .int .i64 0, .pointer none, .slice none 0 0, .pointer none] 36 ?_ (by exact Try.size36) (by rfl) (by rfl) ?_; exact E.out.res)
      refine bodyPost_ret (v := .agg #[.string nm, .string lb, .int .i64 ty, .int .i64 md, .pointer none, .slice ta' tl' tc', .pointer none]) ?_ rfl ⟨none, none, ta', tl', tc', rfl, ?_, ?_, ?_⟩
      · exact results_cell_row Try.results7 _ _ _ 36 _ (0, 0) _ rfl (heap_setRow_same _ _ #[.string ⟨#[]⟩, .string ⟨#[]⟩, .int .i64 0, .int .i64 0, .pointer none, .slice none 0 0, .pointer none] _ _ E.out.res) Try.underlying36 rfl Try.size36
      · exact .inl ⟨rfl, rfl⟩
      · exact .inl ⟨rfl, rfl⟩
      · exact Below.setRow E.out.below (by omega) _
    · have hz := E.out.hz
      have hz0 : w.heap.size < wc.heap.size := by omega
      have c := fun i => cell_of_row wc _ i _ _ _ E.out.pur
      have k2 : wc.cell? ⟨b2, off2, none⟩ = some (.int .i64 v2) := (E.out.below.cell (p := ⟨b2, off2, none⟩) hlt2).trans hcell2
      have hb2 : b2 < wc.heap.size := by omega
      go_wp2_with (refine wpList_store_blk rfl 36 _ _ rfl rfl rfl #[.string ⟨#[]⟩, .string ⟨#[]⟩, .int .i64 0, .int .i64 0, .pointer none, .slice none 0 0, .pointer none] 36 ?_ (by exact Try.size36) (by rfl) (by rfl) ?_; exact (E.out.alloc _).res)
      refine bodyPost_ret (v := .agg #[.string nm, .string lb, .int .i64 ty, .int .i64 md, .pointer none, .slice ta' tl' tc', .pointer (some ⟨wc.heap.size, 0, none⟩)]) ?_ rfl ⟨none, (some ⟨wc.heap.size, 0, none⟩), ta', tl', tc', rfl, ?_, ?_, ?_⟩
      · exact results_cell_row Try.results7 _ _ _ 36 _ (0, 0) _ rfl (heap_setRow_same _ _ #[.string ⟨#[]⟩, .string ⟨#[]⟩, .int .i64 0, .int .i64 0, .pointer none, .slice none 0 0, .pointer none] _ _ (E.out.alloc _).res) Try.underlying36 rfl Try.size36
      · exact .inl ⟨rfl, rfl⟩
      · refine (ptr_alloc _ _ _).setRow _ _ (fun b' o' h => ?_)
        simp at h
        omega
      · exact Below.setRow (E.out.alloc _).below (by omega) _
    · have hz := E.out.hz
      have hz0 : w.heap.size < wc.heap.size := by omega
      have c := fun i => cell_of_row wc _ i _ _ _ E.out.pur
      have k1 : wc.cell? ⟨b, off, none⟩ = some (.int .i64 v) := (E.out.below.cell (p := ⟨b, off, none⟩) hlt).trans hcell
      have hb1 : b < wc.heap.size := by omega
      go_wp2_with (refine wpList_store_blk rfl 36 _ _ rfl rfl rfl #[.string ⟨#[]⟩, .string ⟨#[]⟩, .int .i64 0, .int .i64 0, .pointer none, .slice none 0 0, .pointer none] 36 ?_ (by exact Try.size36) (by rfl) (by rfl) ?_; exact (E.out.alloc _).res)
      refine bodyPost_ret (v := .agg #[.string nm, .string lb, .int .i64 ty, .int .i64 md, .pointer (some ⟨wc.heap.size, 0, none⟩), .slice ta' tl' tc', .pointer none]) ?_ rfl ⟨(some ⟨wc.heap.size, 0, none⟩), none, ta', tl', tc', rfl, ?_, ?_, ?_⟩
      · exact results_cell_row Try.results7 _ _ _ 36 _ (0, 0) _ rfl (heap_setRow_same _ _ #[.string ⟨#[]⟩, .string ⟨#[]⟩, .int .i64 0, .int .i64 0, .pointer none, .slice none 0 0, .pointer none] _ _ (E.out.alloc _).res) Try.underlying36 rfl Try.size36
      · refine (ptr_alloc _ _ _).setRow _ _ (fun b' o' h => ?_)
        simp at h
        omega
      · exact .inl ⟨rfl, rfl⟩
      · exact Below.setRow (E.out.alloc _).below (by omega) _
    · have hz := E.out.hz
      have hz0 : w.heap.size < wc.heap.size := by omega
      have c := fun i => cell_of_row wc _ i _ _ _ E.out.pur
      have k1 : wc.cell? ⟨b, off, none⟩ = some (.int .i64 v) := (E.out.below.cell (p := ⟨b, off, none⟩) hlt).trans hcell
      have hb1 : b < wc.heap.size := by omega
      have k2 : wc.cell? ⟨b2, off2, none⟩ = some (.int .i64 v2) := (E.out.below.cell (p := ⟨b2, off2, none⟩) hlt2).trans hcell2
      have hb2 : b2 < wc.heap.size := by omega
      go_wp2_with (refine wpList_store_blk rfl 36 _ _ rfl rfl rfl #[.string ⟨#[]⟩, .string ⟨#[]⟩, .int .i64 0, .int .i64 0, .pointer none, .slice none 0 0, .pointer none] 36 ?_ (by exact Try.size36) (by rfl) (by rfl) ?_; exact ((E.out.alloc _).alloc _).res)
      refine bodyPost_ret (v := .agg #[.string nm, .string lb, .int .i64 ty, .int .i64 md, .pointer (some ⟨wc.heap.size, 0, none⟩), .slice ta' tl' tc', .pointer (some ⟨wc.heap.size + 1, 0, none⟩)]) ?_ rfl ⟨(some ⟨wc.heap.size, 0, none⟩), (some ⟨wc.heap.size + 1, 0, none⟩), ta', tl', tc', rfl, ?_, ?_, ?_⟩
      · exact results_cell_row Try.results7 _ _ _ 36 _ (0, 0) _ rfl (heap_setRow_same _ _ #[.string ⟨#[]⟩, .string ⟨#[]⟩, .int .i64 0, .int .i64 0, .pointer none, .slice none 0 0, .pointer none] _ _ ((E.out.alloc _).alloc _).res) Try.underlying36 rfl Try.size36
      · refine ((ptr_alloc wc v 32).below ((Below.refl _ _).alloc (Nat.le_refl _) _)).setRow _ _ (fun b' o' h => ?_)
        simp at h
        omega
      · have h0 := ptr_alloc (wc.alloc (.cells #[.int .i64 v] 32)) v2 3
        rw [show (wc.alloc (.cells #[.int .i64 v] 32)).heap.size = wc.heap.size + 1 by simp] at h0
        refine h0.setRow _ _ (fun b' o' h => ?_)
        simp at h
        omega
      · exact Below.setRow ((E.out.alloc _).alloc _).below (by omega) _
end Go.Proofs.Qxb6629324a
