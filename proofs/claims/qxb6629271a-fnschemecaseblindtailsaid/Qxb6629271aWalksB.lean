/-
  THE WALKS, continued: swapASCIICase, ZZvalidScheme; worlds that only grow.
-/
import Derived.Test.Qxb6629271aWalksA
import Derived.Deep.OwnRows
namespace Go.Proofs.Qxb6629271a
open Go.ChangeShapes Go.WideShapes Go.ChangeAt Go.RowKit

theorem frozen?_alloc_iter (w : World) (s : ByteArray) (pos : Nat) (a : Addr) : (w.iter s pos).frozen? a = w.frozen? a := by
  by_cases h : a.block = w.heap.size
  · have e1 : (w.iter s pos).heap[a.block]? = some (.stringIter s pos) := by rw [h]; exact World.iter_heap w s pos
    have e2 : w.heap[a.block]? = none := by rw [h]; simp
    simp [World.frozen?, e1, e2]
  · exact World.frozen?_alloc_old _ _ _ h

theorem grown_iter {W w' : World} (h : Grown W w') (s : ByteArray) (pos : Nat) : Grown W (w'.iter s pos) :=
  ⟨World.keptBut_trans h.1 (World.keptBut_alloc _ _ _), fun a => (frozen?_alloc_iter _ _ _ a).trans (h.2.1 a), Nat.le_trans h.2.2 (by show w'.heap.size ≤ (w'.heap.push _).size; simp)⟩

theorem grown_trans {a b c : World} (h : Grown a b) (k : Grown b c) : Grown a c := by
  refine ⟨?_, fun x => (k.2.1 x).trans (h.2.1 x), Nat.le_trans h.2.2 k.2.2⟩
  exact World.keptBut_trans h.1 k.1

theorem zzvalid_any (s : ByteArray) (w : World) (hs : s.size ≤ maxLen) :
    Calls Try.prog 6 #[.string s] w fun e w' => e = .returned (.bool (validL s.data.toList)) ∧ Grown w w' := by
  go_enter Try.func6, Try.ntmps6
  go_wp2_with (go_at_call 11; refine (valid_any _ _ hs).mono ?_; rintro e w' ⟨rfl, pos, rfl⟩)
  go_ret
  exact ⟨rfl, grown_iter (Grown.refl _) _ _⟩

theorem Try.info5 : (Try.prog.info? 5).map (fun i => (i.zero, i.size, i.bytes)) = some (some (.int .u8 0), 1, 1) := by kernel_rfl

theorem push_fold (ns : List Int) : ∀ b : ByteArray, (ns.foldl (fun r n => r.push (UInt8.ofNat n.toNat)) b).data.toList = b.data.toList ++ ns.map (fun n => UInt8.ofNat n.toNat) := by
  induction ns with
  | nil => intro b; simp
  | cons n ns ih => intro b; rw [List.foldl_cons, ih]; simp [ByteArray.push]

/-- the swapped text -/
def swapped (s : ByteArray) : ByteArray := ⟨(s.data.toList.map swp).toArray⟩

theorem xor_fin : ∀ n : Fin 256, bits .xor .u8 (n.val : Int) 32 = ((UInt8.ofFin n ^^^ 32).toNat : Int) := by decide +kernel
theorem xor_u8 (c : UInt8) : bits .xor .u8 (c.toNat : Int) 32 = ((c ^^^ 32).toNat : Int) := xor_fin c.toFin

/-- cell j of the new row when k bytes are done -/
def swpRow (s : ByteArray) (k : Nat) : Nat → Value := fun j => if j < k then .int .u8 ((swp (s.data.toList.getD j 0)).toNat : Int) else .int .u8 0

theorem swpRow_step (s : ByteArray) (w : World) (b k n : Nat) (v : Int) (hv : v = ((swp (s.data.toList.getD k 0)).toNat : Int)) (h : w.rowIs b 5 n (swpRow s k)) :
    (w.setCell ⟨b, k, none⟩ (.int .u8 v)).rowIs b 5 n (swpRow s (k + 1)) := by
  refine (h.set k _).congr fun i _ => ?_
  unfold swpRow
  by_cases e : i = k
  · subst e; simp [hv]
  · simp only [e, if_false]
    by_cases hl : i < k
    · simp [hl, show i < k + 1 by omega]
    · simp [hl, show ¬ i < k + 1 by omega]

theorem swp_done (s : ByteArray) (w : World) (b : Nat) (h : w.rowIs b 5 s.size (swpRow s s.size)) :
    (convert 26 9 (.slice (some ⟨b, 0, none⟩) s.size s.size)).run Try.prog w = .ok (.string (swapped s)) w := by
  rw [run_convert_bytes_string w 26 9 5 _ _ _ Try.underlying26 Try.underlying5 Try.underlying9]
  have hl : (loadCells ⟨b, 0, none⟩ s.size).run Try.prog w = .ok (((s.data.toList.map fun c => ((swp c).toNat : Int))).map (Value.int .u8)).toArray w := by
    have hlen : ((s.data.toList.map fun c => ((swp c).toNat : Int)).map (Value.int .u8)).length = s.size := by simp
    have := run_loadCells_list (P := Try.prog) w ⟨b, 0, none⟩ ((s.data.toList.map fun c => ((swp c).toNat : Int)).map (Value.int .u8)) (fun j v hv => by
      obtain ⟨hj, hv⟩ := List.getElem?_eq_some_iff.1 hv
      have hj' : j < s.size := by rw [hlen] at hj; exact hj
      have hc := h.cell hj'
      simp only [swpRow, hj', if_true] at hc
      simp only [List.getElem_map] at hv
      subst hv
      have e : (⟨b, 0, none⟩ : Addr).add j = ⟨b, j, none⟩ := by simp [Addr.add]; exact fun h => h.symm
      rw [e, hc, List.getD_eq_getElem?_getD, List.getElem?_eq_getElem (by simpa using hj')]
      rfl)
    rw [hlen] at this
    exact this
  rw [run_bytesToString w _ _ _ _ hl]
  congr 2
  have e : ∀ x y : ByteArray, x.data.toList = y.data.toList → x = y := by
    intro x y hxy
    cases x; cases y
    simp at hxy
    simp [hxy]
  refine e _ _ ?_
  rw [push_fold]
  simp [swapped, Function.comp_def]

set_option maxHeartbeats 600000 in
theorem swap_any (s : ByteArray) (w : World) (hs : s.size ≤ 1048576) :
    Calls Try.prog 10 #[.string s] w fun e w' => e = .returned (.string (swapped s)) ∧ Grown w w' := by
  have hmk := run_make_row' (P := Try.prog) 26 5 (.int .u8 0) 1 Try.underlying26 Try.info5 rfl .i64 .i64 s.size (by omega) (by omega)
  go_enter Try.func10, Try.ntmps10
  go_wp2
  clear hmk
  go_loopw [4] (fun i wr => ∃ k : Nat, k ≤ s.size ∧ i = .int .i64 k ∧ Hid (wr.rowIs w.heap.size 5 s.size (swpRow s k)) ∧ Grown w wr) (fun i _ => s.size - (intOf i).toNat)
  case atStart => exact ⟨0, Nat.zero_le _, rfl, (World.rowIs_made w (.int .u8 0) s.size 5).congr (fun i _ => by simp [swpRow]), (Grown.refl _).alloc _ _⟩
  case round =>
    obtain ⟨k, hk, rfl, H, hg⟩ := hrel
    by_cases hlt : k < s.size
    · have hcell := H.out.cell hlt
      have hfz := H.out.frozen k
      have HB : Hid (s.data.toList.getD k 0 = s[k]) := by
        show _ = _
        rw [List.getD_eq_getElem?_getD, List.getElem?_eq_getElem (by simpa using hlt)]; rfl
      cases hl : letB s[k].toNat
      · go_wp2_with (go_at_call 7; refine (letter_any _ _).mono ?_; rintro e w' ⟨rfl, rfl⟩)
        go_roundw
        case rel => exact ⟨k + 1, by omega, by go_num, swpRow_step s _ _ k _ _ (by rw [HB.out]; simp [swp, hl]) H.out, hg.setCell (Nat.le_refl _) _⟩
        case measure => go_light; simp [intOf]; omega
      · go_wp2_with (go_at_call 7; refine (letter_any _ _).mono ?_; rintro e w' ⟨rfl, rfl⟩)
        go_roundw
        case rel => exact ⟨k + 1, by omega, by go_num, swpRow_step s _ _ k _ _ (by rw [HB.out, xor_u8]; simp [swp, hl]) H.out, hg.setCell (Nat.le_refl _) _⟩
        case measure => go_light; simp [intOf]; omega
    · have hk' : k = s.size := by omega
      subst hk'
      have hcv := swp_done s _ _ H.out
      go_wp2
      go_ret
      exact ⟨rfl, hg⟩
end Go.Proofs.Qxb6629271a
