/-
  ZZaddChain, ZZappendVersion.
-/
import Derived.Test.Qxb6630565aJ
import Derived.OwnWalk
namespace Go.Proofs.Qxb6630565a
open Go.ChangeShapes Go.WideShapes Go.ChangeAt Go.RowKit

theorem hide {p : Prop} (h : p) : Hid p := h

theorem wpl_addch {w : World} {ops : Array Oper} {rest : List Oper} {o : Oper} {a : Act} {Q : Exit → Act → World → Prop} (s x : Operand) (hgd : o.guard = none) (ho : o.op = .call { callee := .builtin .append, args := #[s, x], argTypes := #[63, 63] })
    (B N V9 : Nat) (cv : Value) (sv sv' : Nat → Value) (fl : Nat → Int) (hs : a.eval s = cv) (hx : a.eval x = .slice (some ⟨V9, 0, none⟩) 1 1) (hC : CR w B cv N sv fl) (hN : N ≤ 1048576) (hB : B ≤ w.heap.size)
    (hnew : w.heap[V9]? = some (.cells ch0 49 (0, 0))) (hs1 : ∀ i, i < N → sv' i = sv i) (hs2 : sv' N = .slice none 0 0) (hf : fl N = 0)
    (h : ∀ cv' w', (∃ C cap, cv' = .slice (some ⟨C, 0, none⟩) (N + 1) cap) → CR w' B cv' (N + 1) sv' fl → Fr (fun b => B ≤ b ∧ Typ w b 49) w w' → wpList Try.prog ops Q rest (a.put o.dst cv') w') : wpList Try.prog ops Q (o :: rest) a w := by
  obtain ⟨xs, hown, henc⟩ := hC.own
  obtain ⟨i, hi, hz, hsi, hby⟩ := info_open info49
  refine wpList_append_lies w hgd s x 63 ho B 49 i _ 8 112 Try.underlying63 hi hz hsi hby rfl (by omega) cv N xs hs hown ⟨V9, 0, none⟩ 1 1 ch0.toList hx rfl (World.news_of_block hnew) ?_ (by omega) (by unfold maxLen; omega) (by omega) hB w.heap.size rfl ?_
  · intro u hu
    simp only [List.mem_cons, List.not_mem_nil, or_false] at hu
    rcases hu with rfl | rfl | rfl | rfl | rfl | rfl | rfl | rfl <;> rfl
  · intro C cap w' h2 h3 h4 h5
    refine h _ w' ⟨C, cap, rfl⟩ (CR.of_own h2 (henc.snoc hown.1 hs1 hs2 hf)) (Fr.grown h3 fun g hg => ?_)
    rcases hC with ⟨_, rfl⟩ | ⟨C', cap', cur', rfl, hb, _, _, hg', _⟩
    · cases hg
    · cases hg
      exact ⟨hb, _, _, hg'⟩

theorem ST.cell {w : World} {S : Nat} {l0 l4 : Int} {I M : Nat} {cv pv : Value} {due : Int} (h : ST w S l0 l4 I M cv pv due) (i : Nat) : w.cell? ⟨S, i, none⟩ = (sarr l0 l4 I M cv pv due)[i]? := cell_row h i
theorem ST.set7 {w : World} {S : Nat} {l0 l4 : Int} {I M : Nat} {cv pv : Value} {due : Int} (h : ST w S l0 l4 I M cv pv due) (cv' : Value) : ST (w.setCell ⟨S, 7, none⟩ cv') S l0 l4 I M cv' pv due := setCell_heap h cv'
theorem ST.set9 {w : World} {S : Nat} {l0 l4 : Int} {I M : Nat} {cv pv : Value} {due : Int} (h : ST w S l0 l4 I M cv pv due) (pv' : Value) : ST (w.setCell ⟨S, 9, none⟩ pv') S l0 l4 I M cv pv' due := setCell_heap h pv'
theorem ST.set10 {w : World} {S : Nat} {l0 l4 : Int} {I M : Nat} {cv pv : Value} {due : Int} (h : ST w S l0 l4 I M cv pv due) (d : Int) : ST (w.setCell ⟨S, 10, none⟩ (.int .u64 d)) S l0 l4 I M cv pv d := setCell_heap h _
theorem ST.set0 {w : World} {S : Nat} {l0 l4 : Int} {I M : Nat} {cv pv : Value} {due : Int} (h : ST w S l0 l4 I M cv pv due) (l : Int) : ST (w.setCell ⟨S, 0, none⟩ (.int .i32 l)) S l l4 I M cv pv due := setCell_heap h _
theorem ST.set4 {w : World} {S : Nat} {l0 l4 : Int} {I M : Nat} {cv pv : Value} {due : Int} (h : ST w S l0 l4 I M cv pv due) (l : Int) : ST (w.setCell ⟨S, 4, none⟩ (.int .i32 l)) S l0 l I M cv pv due := setCell_heap h _
theorem ST.fro {w : World} {S : Nat} {l0 l4 : Int} {I M : Nat} {cv pv : Value} {due : Int} (h : ST w S l0 l4 I M cv pv due) (i : Nat) : w.frozen? ⟨S, i, none⟩ = false := fro_row h i
theorem ST.lt {w : World} {S : Nat} {l0 l4 : Int} {I M : Nat} {cv pv : Value} {due : Int} (h : ST w S l0 l4 I M cv pv due) : S < w.heap.size := (Array.getElem?_eq_some_iff.1 h).1

theorem Typ.below {w w' : World} {b : Nat} {t : TypeId} (h : Typ w b t) (f : Below w.heap.size w w') : Typ w' b t := by
  obtain ⟨c, r, h⟩ := h
  exact ⟨c, r, (f.block b (Array.getElem?_eq_some_iff.1 h).1).trans h⟩
theorem addch_st {w w2 : World} {S B : Nat} {l0 l4 : Int} {I M : Nat} {cv pv : Value} {due : Int} {o : Obj} (h : ST w S l0 l4 I M cv pv due) (f : Fr (fun b => B ≤ b ∧ Typ (w.alloc o) b 49) (w.alloc o) w2) : Hid (ST w2 S l0 l4 I M cv pv due) := by
  have h1 : ST (w.alloc o) S l0 l4 I M cv pv due := h.fr (P := fun _ => False) (Fr.below ((Below.refl _ w).alloc (Nat.le_refl _) _)) (fun h => h)
  exact h1.fr f (fun hp => by cases hp.2.inj h1.typ)

set_option maxHeartbeats 2000000 in
theorem addChain_any (B S N : Nat) (n : Nat → Nat) (T X : Nat → Nat → Int) (fl : Nat → Int) (l0 l4 : Int) (I M : Nat) (cv pv : Value) (due : Int) (w : World) (hBw : B ≤ w.heap.size) (hST : ST w S l0 l4 I M cv pv due) (hKS : KS w B cv N n T X fl)
    (hN : N ≤ 1048575) (hn : n N = 0) (hfl : fl N = 0) :
    Calls Try.prog 16 #[.pointer (some ⟨S, 0, none⟩)] w fun e w' => e = .returned (.int .i64 N) ∧ ∃ cv', ST w' S l0 l4 I M cv' pv due ∧ KS w' B cv' (N + 1) n T X fl ∧ Fr (fun b => b = S ∨ Kb w B b) w w' := by
  have HS : Hid (ST w S l0 l4 I M cv pv due) := hST
  obtain ⟨sv, hCR, hVV, hinj⟩ := hKS
  have HC : Hid (CR w B cv N sv fl) := hCR
  have HV : Hid (∀ i, i < N → VV w B (sv i) (n i) (T i) (X i)) := hVV
  have HI : Hid (∀ i j g, i < N → j < N → (sv i).ownBlock = some g → (sv j).ownBlock = some g → i = j) := hinj
  have HN : Hid (n N = 0) := hn
  have HF : Hid (fl N = 0) := hfl
  have c7 : w.cell? ⟨S, 7, none⟩ = some cv := hST.cell 7
  have lS := hST.lt
  clear hST hCR hVV hinj hn hfl
  go_enter Try.func16, Try.ntmps16
  go_wp2_with (at_builtin; refine wpl_addch (.tmp 7) (.tmp 9) rfl rfl B N w.heap.size cv sv (fun i => if i = N then .slice none 0 0 else sv i) fl rfl rfl (HC.out.fr (Fr.below ((Below.refl _ w).alloc (Nat.le_refl _) _)) (fun _ _ _ h => h)) (by omega) (by rw [size_alloc]; omega) (heap_alloc_new _ _) (fun i hi => if_neg (by omega)) (if_pos rfl) HF.out ?_; intro cv' w2 hcv hCR hfr; obtain ⟨C, cap, rfl⟩ := hcv; have HC2 := hide hCR; have HR := hide hfr; clear hCR hfr; have HS2 := addch_st HS.out HR.out; have s7 := HS2.out.cell 7; have z7 := HS2.out.fro 7)
  go_ret
  refine ⟨by go_num, _, HS2.out.set7 _, ?_, ?_⟩
  · have Fs : Fr (· = S) w2 (w2.setCell ⟨S, 7, none⟩ (.slice (some ⟨C, 0, none⟩) (N + 1) cap)) := (Fr.refl (· = S) w2).setCell (p := ⟨S, 7, none⟩) rfl _
    have hS := HS2.out.typ
    refine ⟨fun i => if i = N then .slice none 0 0 else sv i, HC2.out.fr Fs (fun b _ ht e => ?_), fun i hi => ?_, fun i j g hi hj h1 h2 => ?_⟩
    · have e : b = S := e
      subst e
      cases ht.inj hS
    · by_cases hiN : i = N
      · subst hiN
        exact .inl ⟨HN.out, if_pos rfl⟩
      · show VV _ B (if i = N then .slice none 0 0 else sv i) _ _ _
        rw [if_neg hiN]
        have hi' : i < N := by omega
        have hv1 := (HV.out i hi').fr (P := fun _ => False) (Fr.below ((Below.refl _ w).alloc (Nat.le_refl _) (.cells ch0 49))) (fun _ _ h => h)
        have hv2 := hv1.fr HR.out (fun g hg hp => by cases (hv1.typ hg).2.inj hp.2)
        exact hv2.fr Fs (fun g hg e => by have e : g = S := e; subst e; cases (hv2.typ hg).2.inj hS)
    · simp only at h1 h2
      by_cases hiN : i = N
      · rw [if_pos hiN] at h1
        cases h1
      · by_cases hjN : j = N
        · rw [if_pos hjN] at h2
          cases h2
        · rw [if_neg hiN] at h1
          rw [if_neg hjN] at h2
          exact HI.out i j g (by omega) (by omega) h1 h2
  · refine Fr.setCell (p := ⟨S, 7, none⟩) ?_ (.inl rfl) _
    refine Fr.trans' (Fr.below ((Below.refl _ w).alloc (Nat.le_refl _) (.cells ch0 49))) HR.out (fun b hb => ?_)
    rcases Nat.lt_or_ge b w.heap.size with h1 | h1
    · obtain ⟨hB, c, r, h2⟩ := hb
      exact .inl (.inr ⟨hB, .inl ⟨c, r, (heap_alloc_old w _ h1).symm.trans h2⟩⟩)
    · exact .inr h1
end Go.Proofs.Qxb6630565a
