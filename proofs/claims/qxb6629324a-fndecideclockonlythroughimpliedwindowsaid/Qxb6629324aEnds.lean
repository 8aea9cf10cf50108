/-
  (Purpose).ImpliedConsentEnds.
-/
import Derived.Test.Qxb6629324aBlocking
namespace Go.Proofs.Qxb6629324a
open Go.ChangeShapes Go.WideShapes Go.ChangeAt Go.RowKit

theorem wrap_lo (x : Int) : -9223372036854775808 ≤ IntKind.i64.wrap x := by rw [IntKind.wrap_i64]; omega
theorem wrap_hi (x : Int) : IntKind.i64.wrap x ≤ 9223372036854775807 := by rw [IntKind.wrap_i64]; omega

theorem cell_set3 (w : World) (g k o : Nat) (i j l : Nat) (x y z : Value) (h : k ≠ g) : (((w.setCell ⟨g, i, none⟩ x).setCell ⟨g, j, none⟩ y).setCell ⟨g, l, none⟩ z).cell? ⟨k, o, none⟩ = w.cell? ⟨k, o, none⟩ := by
  have e : ∀ (w : World) (i : Nat) (x : Value), (w.setCell ⟨g, i, none⟩ x).cell? ⟨k, o, none⟩ = w.cell? ⟨k, o, none⟩ := fun w i x =>
    World.cell?_of_block (w := w) (Below.heap_setCell w ⟨g, i, none⟩ x k h)
  rw [e, e, e]

set_option maxHeartbeats 1000000 in
theorem ends_any (nm lb : ByteArray) (ty md : Int) (smsP : Option Addr) (ta : Option Addr) (tl tc : Nat) (b off : Nat) (v m : Int) (w : World) (hb : b < w.heap.size) (hcell : w.cell? ⟨b, off, none⟩ = some (.int .i64 v))
    (hm : -73786976294838206464 ≤ m) (hm2 : m ≤ 73786976294838206464) :
    Calls Try.prog 22 #[.agg #[.string nm, .string lb, .int .i64 ty, .int .i64 md, .pointer smsP, .slice ta tl tc, .pointer (some ⟨b, off, none⟩)], .agg #[.int .u64 (ns m), .int .i64 (sc m), .pointer none]] w fun e w' =>
      e = .returned (.agg #[.int .u64 (ns (m + IntKind.i64.wrap (v * 3600000000000))), .int .i64 (sc (m + IntKind.i64.wrap (v * 3600000000000))), .pointer none]) ∧ Below w.heap.size w w' := by
  have hcl : ∀ A B C : Obj, (((w.alloc A).alloc B).alloc C).cell? ⟨b, off, none⟩ = some (.int .i64 v) := fun A B C => by
    rw [World.cell?_alloc_past _ _ _ (by simp; omega), World.cell?_alloc_past _ _ _ (by simp; omega), World.cell?_alloc_past _ _ _ hb]
    exact hcell
  have n1 : b ≠ w.heap.size + 1 + 1 := by omega
  have n2 : w.heap.size ≠ w.heap.size + 1 + 1 := by omega
  go_enter Try.func22, Try.ntmps22
  go_wp2
  go_region_held3 (fun w' => w'.cell? ⟨b, off, none⟩ = some (.int .i64 v) ∧ w'.cell? ⟨w.heap.size, 6, none⟩ = some (.pointer (some ⟨b, off, none⟩)) ∧ w'.cell? ⟨w.heap.size + 1, 0, none⟩ = some (.int .u64 (ns m)) ∧ w'.cell? ⟨w.heap.size + 1, 1, none⟩ = some (.int .i64 (sc m)) ∧ w'.cell? ⟨w.heap.size + 1, 2, none⟩ = some (.pointer none)) (first | (go_keep; done) | (refine ⟨?_, ?_, ?_, ?_, ?_⟩ <;> (first | (go_keep; done) | (rw [cell_set3 _ _ _ _ _ _ _ _ _ _ n1]; assumption) | (rw [cell_set3 _ _ _ _ _ _ _ _ _ _ n2]; assumption))))
    (first | (go_at_call 13; refine (add_any m (IntKind.i64.wrap (v * 3600000000000)) hm hm2 (wrap_lo _) (wrap_hi _) _).mono ?_; rintro e w1 ⟨rfl, hb1⟩; obtain ⟨hc1, hf1⟩ := bcell hb1; have k1 : w1.cell? ⟨b, off, none⟩ = some (.int .i64 v) := (hc1 b off (by simp; omega)).trans (hcl _ _ _); have k2 : w1.cell? ⟨w.heap.size, 6, none⟩ = some (.pointer (some ⟨b, off, none⟩)) := (hc1 _ _ (by simp; omega)).trans (by go_simp)))
  go_wp2
  refine bodyPost_ret (v := .agg #[.int .u64 (ns (m + IntKind.i64.wrap (v * 3600000000000))), .int .i64 (sc (m + IntKind.i64.wrap (v * 3600000000000))), .pointer none]) ?_ rfl ⟨rfl, ?_⟩
  · simp [results, Try.results22, go_sem, hc1]
  · exact (((((((Below.refl _ _).alloc (Nat.le_refl _) _).alloc (by simp) _).alloc (by simp; omega) _).drew.trans (hb1.mono (B' := w.heap.size) (by simp; omega))).setCell (by show _ ≤ w.heap.size + 1 + 1; omega) _).setCell (by show _ ≤ w.heap.size + 1 + 1; omega) _).setCell (by show _ ≤ w.heap.size + 1 + 1; omega) _
end Go.Proofs.Qxb6629324a
