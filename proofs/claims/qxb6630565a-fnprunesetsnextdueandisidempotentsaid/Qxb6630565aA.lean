/-
  SMALL WALKS: the atomics, stamp, the closures of the search.
-/
import Derived.Test.Qxb6630565aRows
import Derived.WalkKit
import Derived.WalkLawsBesides
import Derived.WalkSpells
import Derived.ProofKit
import Derived.Deep.Light
import Derived.Below
import Derived.Laws.LoneSync
import Derived.BigQuiet
import Derived.Deep.DeepCutAuto
import Derived.Deep.RegionHeld3
namespace Go.Proofs.Qxb6630565a
open Go.ChangeShapes Go.WideShapes Go.ChangeAt Go.RowKit

theorem ret_bool {a b : Bool} (h : a = b) : Ending.returned (.bool a) = .returned (.bool b) := by rw [h]
theorem ret_int {a b : Int} (h : a = b) : Ending.returned (.int .i64 a) = .returned (.int .i64 b) := by rw [h]

theorem ld64 (a : Addr) (x : Int) (w : World) (hc : w.cell? a = some (.int .u64 x)) : (callFunc 28 #[.pointer (some a)]).run Try.prog w = .ok (.value (.int .u64 x)) w :=
  run_call_load Try.func28 (by kernel_rfl) (by kernel_rfl) (by kernel_rfl) .u64 (by kernel_rfl) hc
theorem st64 (a : Addr) (y : Int) (u : Value) (w : World) (hc : w.cell? a = some u) (hz : w.frozen? a = false) : (callFunc 52 #[.pointer (some a), .int .u64 y]).run Try.prog w = .ok (.value (.tuple #[])) (w.setCell a (.int .u64 y)) :=
  run_call_store Try.func52 (by kernel_rfl) (by kernel_rfl) (by kernel_rfl) (by kernel_rfl) hc hz
theorem ld32 (a : Addr) (x : Int) (w : World) (hc : w.cell? a = some (.int .i32 x)) : (callFunc 49 #[.pointer (some a)]).run Try.prog w = .ok (.value (.int .i32 x)) w :=
  run_call_load Try.func49 (by kernel_rfl) (by kernel_rfl) (by kernel_rfl) .i32 (by kernel_rfl) hc
theorem st32 (a : Addr) (y : Int) (u : Value) (w : World) (hc : w.cell? a = some u) (hz : w.frozen? a = false) : (callFunc 48 #[.pointer (some a), .int .i32 y]).run Try.prog w = .ok (.value (.tuple #[])) (w.setCell a (.int .i32 y)) :=
  run_call_store Try.func48 (by kernel_rfl) (by kernel_rfl) (by kernel_rfl) (by kernel_rfl) hc hz

theorem load_any (b o : Nat) (x : Int) (w : World) (hc : w.cell? ⟨b, o, none⟩ = some (.int .u64 x)) :
    Calls Try.prog 20 #[.pointer (some ⟨b, o, none⟩)] w fun e w' => e = .returned (.int .u64 x) ∧ w' = w := by
  have h := ld64 _ _ _ hc
  go_enter Try.func20, Try.ntmps20
  go_wp2
  go_ret
  exact ⟨rfl, rfl⟩

theorem store_any (b o : Nat) (y : Int) (u : Value) (w : World) (hc : w.cell? ⟨b, o, none⟩ = some u) (hz : w.frozen? ⟨b, o, none⟩ = false) :
    Calls Try.prog 29 #[.pointer (some ⟨b, o, none⟩), .int .u64 y] w fun e w' => e = .returned (.tuple #[]) ∧ w' = w.setCell ⟨b, o, none⟩ (.int .u64 y) := by
  have h := st64 _ y _ _ hc hz
  go_enter Try.func29, Try.ntmps29
  go_wp2
  go_end0
  exact ⟨rfl, rfl⟩

theorem stamp_any (t x d : Int) (b f o : Value) (w : World) (hd : -2147483648 ≤ d ∧ d ≤ 2147483647) : Calls Try.prog 23 #[.agg #[.int .u64 t, .int .u64 x, .int .i32 d, b, f, o]] w fun e w' => e = .returned (.agg #[.int .u64 t, .int .u64 x, .int .i64 d]) ∧ Below w.heap.size w w' := by
  go_enter Try.func23, Try.ntmps23
  go_wp2
  exact bodyPost_ret (v := .agg #[.int .u64 t, .int .u64 x, .int .i64 d]) (by simp [results, Try.results23, go_sem]) rfl ⟨rfl, ((Below.refl _ w).alloc (Nat.le_refl _) _).alloc (by simp) _⟩

theorem after1_any (t x d : Int) (p : Nat) (h : Int) (w : World) (hc : w.cell? ⟨p, 0, none⟩ = some (.int .u64 h)) : Calls Try.prog 62 #[.agg #[.int .u64 t, .int .u64 x, .int .i64 d], .pointer (some ⟨p, 0, none⟩)] w fun e w' => e = .returned (.bool (decide (h < t))) ∧ Below w.heap.size w w' := by
  have hp := World.block_lt_of_cell? _ _ hc
  simp at hp
  go_enter Try.func62, Try.ntmps62
  go_wp2
  go_ret
  exact ⟨rfl, (Below.refl _ w).alloc (Nat.le_refl _) _⟩

/-- a version in a chain, as these stores hold it -/
abbrev ver (t x : Int) : Value := .agg #[.int .u64 t, .int .u64 x, .int .i32 0, .int .i32 (-2), .int .i32 0, .int .i32 0]
abbrev aft (q : Nat) : Value := .func (.func 62) #[] #[.pointer (some ⟨q, 0, none⟩)]

/-- what was there stays -/
def Keeps (w w' : World) : Prop := ∀ p v, w.cell? p = some v → w'.cell? p = some v
theorem Keeps.of {w w' : World} (h : Below w.heap.size w w') : Keeps w w' := fun _ _ hv => (h.cell (World.block_lt_of_cell? _ _ hv)).trans hv
theorem Keeps.trans {a b c : World} (h : Keeps a b) (k : Keeps b c) : Keeps a c := fun p v hv => k p v (h p v hv)
theorem size_alloc (w : World) (o : Obj) : (w.alloc o).heap.size = w.heap.size + 1 := by
  show (w.heap.push o).size = _
  simp
theorem keep_below {B : Nat} {w0 w w' : World} (h0 : Below B w0 w) (hB : B ≤ w.heap.size) (h : Below w.heap.size w w') : Below B w0 w' := h0.trans (h.mono hB)
theorem Keeps.alloc1 (w : World) (o : Obj) : Keeps w (w.alloc o) := Keeps.of ((Below.refl _ w).alloc (Nat.le_refl _) o)

/-- a version's six cells -/
def V6 (g o : Nat) (t x : Int) (w : World) : Prop := w.cell? ⟨g, o, none⟩ = some (.int .u64 t) ∧ w.cell? ⟨g, o + 1, none⟩ = some (.int .u64 x) ∧ w.cell? ⟨g, o + 2, none⟩ = some (.int .i32 0) ∧
  w.cell? ⟨g, o + 3, none⟩ = some (.int .i32 (-2)) ∧ w.cell? ⟨g, o + 4, none⟩ = some (.int .i32 0) ∧ w.cell? ⟨g, o + 5, none⟩ = some (.int .i32 0)
theorem V6.keep {g o : Nat} {t x : Int} {w w' : World} (h : V6 g o t x w) (k : Keeps w w') : V6 g o t x w' := ⟨k _ _ h.1, k _ _ h.2.1, k _ _ h.2.2.1, k _ _ h.2.2.2.1, k _ _ h.2.2.2.2.1, k _ _ h.2.2.2.2.2⟩
abbrev vcs (t x : Int) : Array Value := #[.int .u64 t, .int .u64 x, .int .i32 0, .int .i32 (-2), .int .i32 0, .int .i32 0]
theorem cell_of {w : World} {g i : Nat} {t : TypeId} {fr : Nat × Nat} {cs : Array Value} {v : Value} (h : w.heap[g]? = some (.cells cs t fr)) (hi : cs[i]? = some v) : w.cell? ⟨g, i, none⟩ = some v := by simp [World.cell?, h, hi]
theorem V6.new (w : World) (t x : Int) : V6 w.heap.size 0 t x (w.alloc (.cells (vcs t x) 72)) := by
  have h := heap_alloc_new w (.cells (vcs t x) 72)
  exact ⟨cell_of h rfl, cell_of h rfl, cell_of h rfl, cell_of h rfl, cell_of h rfl, cell_of h rfl⟩

set_option linter.unusedSimpArgs false in
theorem cmp_any (t x : Int) (b : Bool) (p q : Nat) (h : Int) (w : World) (hp : w.cell? ⟨p, 0, none⟩ = some (aft q)) (hq : w.cell? ⟨q, 0, none⟩ = some (.int .u64 h)) :
    Calls Try.prog 69 #[ver t x, .bool b, .pointer (some ⟨p, 0, none⟩)] w fun e w' => e = .returned (.int .i64 (if h < t then 1 else -1)) ∧ Below w.heap.size w w' := by
  have lp : p < w.heap.size := by simpa using World.block_lt_of_cell? _ _ hp
  have lq : q < w.heap.size := by simpa using World.block_lt_of_cell? _ _ hq
  obtain ⟨R, hR⟩ : ∃ R, Hid ((if h < t then 1 else -1 : Int) = R) := ⟨_, rfl⟩
  rw [hR.out]
  go_enter Try.func69, Try.ntmps69
  go_upto_region 1 with fail
  refine wp_region_noPanic ?_
  refine wp_region_held_drew (S := (fun w' => w'.cell? ⟨p, 0, none⟩ = some (aft q) ∧ w'.cell? ⟨q, 0, none⟩ = some (.int .u64 h) ∧ V6 w.heap.size 0 t x w')) (by kernel_rfl) ⟨Keeps.alloc1 _ _ _ _ hp, Keeps.alloc1 _ _ _ _ hq, V6.new w t x⟩ (fun hHeld => ?_)
  refine wpAnyH_take (i := 0) (v := aft q) rfl (by kernel_rfl) (by kernel_rfl) (by kernel_rfl) (fun _ _ _ h => h) (Or.inl ⟨by kernel_rfl, fun wz hz => by obtain ⟨h1, h2, g0, g1, g2, g3, g4, g5⟩ := hz; go_simp⟩) hHeld ?_
  try simp only [Act.put, List.setIfInBounds_toArray, List.set_cons_zero, List.set_cons_succ]
  refine wpAnyH_take (i := 1) (v := ver t x) rfl (by kernel_rfl) (by kernel_rfl) (by kernel_rfl) (fun _ _ _ h => h) (Or.inl ⟨by kernel_rfl, fun wz hz => by obtain ⟨h1, h2, g0, g1, g2, g3, g4, g5⟩ := hz; go_simp⟩) hHeld ?_
  try simp only [Act.put, List.setIfInBounds_toArray, List.set_cons_zero, List.set_cons_succ]
  refine wpAnyH_ready (rs := [2]) (by kernel_rfl) (by simp) ?_
  refine AllReadyH.cons rfl (fun KK hKK => ?_) AllReadyH.nil
  go_simp
  refine (stamp_any _ _ _ _ _ _ _ (by omega)).mono ?_
  rintro e w3 ⟨rfl, hb3⟩
  have hb3' : Below (w.alloc (.cells (vcs t x) 72)).heap.size (w.alloc (.cells (vcs t x) 72)) w3 := (Below.refl _ _).drew.trans hb3
  clear hb3
  have k1 := (Keeps.alloc1 w (.cells (vcs t x) 72)).trans (Keeps.of hb3')
  have hV3 := (V6.new w t x).keep (Keeps.of hb3')
  refine hKK.out _ _ ⟨k1 _ _ hp, k1 _ _ hq, hV3⟩ (fun hHeld => ?_)
  clear hKK KK
  try simp only [Act.put, List.setIfInBounds_toArray, List.set_cons_zero, List.set_cons_succ]
  refine wpAnyH_ready (rs := [3]) (by kernel_rfl) (by simp) ?_
  refine AllReadyH.cons rfl (fun KK hKK => ?_) AllReadyH.nil
  go_simp
  refine (after1_any _ _ _ _ h _ (k1 _ _ hq)).mono ?_
  rintro e w4 ⟨rfl, hb4⟩
  refine hKK.out _ _ ⟨Keeps.of hb4 _ _ (k1 _ _ hp), Keeps.of hb4 _ _ (k1 _ _ hq), hV3.keep (Keeps.of hb4)⟩ (fun hHeld => ?_)
  clear hKK KK
  try simp only [Act.put, List.setIfInBounds_toArray, List.set_cons_zero, List.set_cons_succ]
  refine wpAnyH_done (by kernel_rfl) ?_ _
  refine NoPanic.normal ?_
  try simp only [List.getElem_toArray, List.getElem_cons_zero, List.getElem_cons_succ, Act.put, List.setIfInBounds_toArray, List.set_cons_zero, List.set_cons_succ]
  have HB : Hid (Below w.heap.size w w4) := by
    have h2 := hb3'.size
    rw [size_alloc] at h2
    exact keep_below (((Below.refl _ w).alloc (Nat.le_refl _) _).trans (hb3'.mono (by rw [size_alloc]; omega))) (by omega) hb4
  clear hb4 hb3' k1 hV3
  by_cases hlt : h < t
  · have hr : (1 : Int) = R := by rw [← hR.out, if_pos hlt]
    subst hr
    go_wp2
    go_ret
    exact ⟨rfl, HB.out⟩
  · have hr : (-1 : Int) = R := by rw [← hR.out, if_neg hlt]
    subst hr
    go_wp2
    go_ret
    exact ⟨rfl, HB.out⟩
end Go.Proofs.Qxb6630565a
