/-
  queue: the walk.
-/
import Derived.Test.Qxb6630565aS
namespace Go.Proofs.Qxb6630565a
open Go.ChangeShapes Go.WideShapes Go.ChangeAt Go.RowKit

theorem RT.form {e : TypeId} {k : IntKind} {w : World} {B : Nat} {v : Value} {xs : List Int} (h : RT e k w B v xs) : ∃ a n c, v = .slice a n c := by
  rcases h with ⟨_, rfl⟩ | ⟨P, o, cap, cur, rfl, _⟩
  · exact ⟨_, _, _, rfl⟩
  · exact ⟨_, _, _, rfl⟩

theorem step_appgrp {w : World} {ops : Array Oper} {o : Oper} {a : Act} {K : Act → World → Prop} {Q : Exit → Act → World → Prop} {E : Prop} (s x : Operand) (hgd : o.guard = none) (ho : o.op = .call { callee := .builtin .append, args := #[s, x], argTypes := #[36, 36] })
    (B V9 : Nat) (gv : Value) (is : List Int) (y : Int) (hs : a.eval s = gv) (hx : a.eval x = .slice (some ⟨V9, 0, none⟩) 1 1) (hR : RT 3 .i64 w B gv is) (hV : w.cell? ⟨V9, 0, none⟩ = some (.int .i64 y)) (hl : is.length ≤ 1048576) (hB : B ≤ w.heap.size)
    (h : ∀ v' w', RT 3 .i64 w' B v' (is ++ [y]) → (v'.ownBlock = gv.ownBlock ∨ v'.ownBlock = some w.heap.size) → Fr (fun b => gv.ownBlock = some b) w w' → K (a.put o.dst v') w') : if Region.wanted o (yielded ops a.tmps) = true then Oper.wp Try.prog o a w K Q else E := by
  obtain ⟨v', w', hr, h1, h2, h3⟩ := append1 kd36 hR y V9 o.type hV hl hB
  exact step_of hgd (wp_append2 s x 36 36 ho _ _ _ _ hs hx hr (h v' w' h1 h2 h3))

theorem grp_upd {w wc wx w8 : World} {B S M I : Nat} {l0 l4 due due' : Int} {cv pv pv' gv v' : Value} {pd : Int → Option (List Int)} {lk : Int → Option Value} {p x : Int} {is0 ps' : List Int}
    (hS : ST w S l0 l4 I M cv pv due) (hM : MP w M lk) (h2 : ∀ p, lk p = none ↔ pd p = none) (h3 : ∀ p v is, lk p = some v → pd p = some is → RT 3 .i64 w B v is)
    (h4 : ∀ p q v u g, lk p = some v → lk q = some u → v.ownBlock = some g → u.ownBlock = some g → p = q) (hgv : (lk p).getD (.slice none 0 0) = gv) (hgr : RT 3 .i64 w B gv is0)
    (hSc : ST wc S l0 l4 I M cv pv' due') (hRc : RT 42 .u64 wc B pv' ps') (f5 : Fr (fun b => b = S ∨ (B ≤ b ∧ Typ w b 42)) w wc) (f : Fr (fun _ => False) wc wx) (f8 : Fr (fun b => gv.ownBlock = some b) wx w8)
    (hr : RT 3 .i64 w8 B v' (is0 ++ [x])) (hb : v'.ownBlock = gv.ownBlock ∨ v'.ownBlock = some wx.heap.size) :
    ∃ w9, (Instr.mapUpdate 64 (.map (some M)) (.int .u64 p) v').run Try.prog w8 = .ok () w9 ∧ PDl w9 B M (fun q => if q = p then some (is0 ++ [x]) else pd q) (fun q => if q = p then some v' else lk q) ∧ ST w9 S l0 l4 I M cv pv' due' ∧ RT 42 .u64 w9 B pv' ps' ∧ Fr (Qb w B S M) w w9 ∧ ST w8 S l0 l4 I M cv pv' due' := by
  have hMS : M ≠ S := fun e => hM.noTyp (e ▸ hS.typ)
  have hMc : MP wc M lk := hM.fr f5 (fun hp => by
    rcases hp with e | e
    · exact hMS e
    · exact hM.noTyp e.2)
  have hMx : MP wx M lk := hMc.fr f (fun h => h)
  have hgt : ∀ g, gv.ownBlock = some g → B ≤ g ∧ Typ w g 3 := fun g hg => hgr.typ hg
  have hgM : ¬ gv.ownBlock = some M := fun e => hM.noTyp (hgt M e).2
  have hgS : ¬ gv.ownBlock = some S := fun e => by cases (hgt S e).2.inj hS.typ
  have hM8 : MP w8 M lk := hMx.fr f8 hgM
  obtain ⟨w9, hu, hM9, hf9⟩ := update_u64 w8 M lk hM8 p v'
  have h8 : Fr (fun b => (b = S ∨ (B ≤ b ∧ Typ w b 42)) ∨ gv.ownBlock = some b) w w8 := ((f5.trans (f.mono fun _ h => h.elim)).mono fun _ => Or.inl).trans (f8.mono fun _ => Or.inr)
  have hF : Fr (fun b => ((b = S ∨ (B ≤ b ∧ Typ w b 42)) ∨ gv.ownBlock = some b) ∨ b = M) w w9 := (h8.mono fun _ => Or.inl).trans (hf9.mono fun _ => Or.inr)
  have hvM : ¬ v'.ownBlock = some M := fun e => hM8.noTyp (hr.typ e).2
  have hr9 : RT 3 .i64 w9 B v' (is0 ++ [x]) := hr.fr hf9 (fun g hg e => hvM (by rw [← e]; exact hg))
  have hS8 : ST w8 S l0 l4 I M cv pv' due' := (hSc.fr f (fun h => h)).fr f8 hgS
  have hgp : ∀ g, pv'.ownBlock = some g → ¬ gv.ownBlock = some g := fun g hg e => by
    obtain ⟨_, hty⟩ := hgt g e
    have hlt : g < w.heap.size := by
      obtain ⟨c, r, h5⟩ := hty
      exact (Array.getElem?_eq_some_iff.1 h5).1
    have hn : ¬ (g = S ∨ (B ≤ g ∧ Typ w g 42)) := fun h => by
      rcases h with rfl | h
      · exact hgS e
      · cases h.2.inj hty
    have hty2 : Typ wc g 3 := by
      obtain ⟨c, r, h5⟩ := hty
      exact ⟨c, r, (f5.block g hlt hn).trans h5⟩
    cases (hRc.typ hg).2.inj hty2
  have hR8 : RT 42 .u64 w8 B pv' ps' := (hRc.fr f (fun _ _ h => h)).fr f8 (fun g hg e => hgp g hg e)
  refine ⟨w9, hu, group_row h2 h3 h4 hM9 hr9 hF (fun b hb' hty => ?_) ?_, hS8.fr hf9 (fun e => hMS e.symm), hR8.fr hf9 (fun g hg e => ?_), hF.mono fun b hb' => ?_, hS8⟩
  · rcases hb' with (h | h) | h
    · rcases h with rfl | h
      · cases hty.inj hS.typ
      · cases h.2.inj hty
    · cases hk : lk p with
      | none =>
        rw [hk] at hgv
        rw [← hgv] at h
        cases h
      | some v =>
        rw [hk] at hgv
        exact ⟨v, rfl, by rw [← h, ← hgv]; rfl⟩
    · subst h
      exact (hM.noTyp hty).elim
  · rcases hb with h | h
    · exact .inl (by rw [h, hgv])
    · exact .inr ⟨_, h, Nat.le_trans f5.size f.size⟩
  · have e : g = M := e
    subst e
    exact hM8.noTyp (hR8.typ hg).2
  · rcases hb' with (h | h) | h
    · rcases h with h | h
      · exact .inl h
      · exact .inr (.inr ⟨h.1, .inl h.2⟩)
    · exact .inr (.inr ⟨(hgt b h).1, .inr (hgt b h).2⟩)
    · exact .inr (.inl h)

def QR (B S M I : Nat) (l0 l4 : Int) (cv : Value) (pd : Int → Option (List Int)) (lk : Int → Option Value) (ps : List Int) (p x : Int) (w : World) (e : Ending) (w' : World) : Prop :=
  e = .returned (.tuple #[]) ∧ ∃ pv' ps' v', ST w' S l0 l4 I M cv pv' (dueOf ps') ∧ RT 42 .u64 w' B pv' ps' ∧ PDl w' B M (fun q => if q = p then some ((pd p).getD [] ++ [x]) else pd q) (fun q => if q = p then some v' else lk q) ∧ QP pd ps p ps' ∧ Fr (Qb w B S M) w w'

set_option maxRecDepth 100000 in
set_option maxHeartbeats 4000000 in
theorem queue_any (B S N i : Nat) (n : Nat → Nat) (T X : Nat → Nat → Int) (fl : Nat → Int) (l0 l4 : Int) (I M : Nat) (cv pv : Value) (ps : List Int) (pd : Int → Option (List Int)) (lk : Int → Option Value) (w : World) (hBw : B ≤ w.heap.size)
    (hST : ST w S l0 l4 I M cv pv (dueOf ps)) (hKS : KS w B cv N n T X fl) (hPD : PDl w B M pd lk) (hPR : RT 42 .u64 w B pv ps) (hSor : Sor ps) (hper : ∀ q ∈ ps, Per q) (hi : i < N) (m : Nat) (hm : n i = m) (hm1 : 1 ≤ m) (hm2 : m ≤ 1048576)
    (t : Int) (ht : T i (m / 2) = t) (ht0 : 0 ≤ t) (ht1 : t ≤ 18446744073709551615) (hlp : ps.length ≤ 1048575) (hlg : ∀ is, pd (per t) = some is → is.length ≤ 1048576) :
    Calls Try.prog 24 #[.pointer (some ⟨S, 0, none⟩), .int .i64 i] w fun e w' => QR B S M I l0 l4 cv pd lk ps (per t) i w e w' := by
  obtain ⟨sv, hCR, hVV, hinj⟩ := hKS
  rcases hCR with ⟨h0, _⟩ | ⟨C, cap, cur, rfl, hCB, hNc, hcm, hg, hsz, hca⟩
  · omega
  have hv := hVV i hi
  rcases hv with ⟨h0, _⟩ | ⟨g, gc, hsv, hgB, hVR⟩
  · omega
  rw [hm] at hsv hVR
  have hmid := (hVR.vc (m / 2) (by omega)).1
  rw [Nat.zero_add, ht] at hmid
  have hml := hVR.len
  have cC : w.cell? ⟨C, i * 8, none⟩ = some (.slice (some ⟨g, 0, none⟩) m gc) := by
    rw [cell_row hg, (hca i hi).1, hsv]
  have c7 : w.cell? ⟨S, 7, none⟩ = some (.slice (some ⟨C, 0, none⟩) N cap) := hST.cell 7
  have c8 : w.cell? ⟨S, 8, none⟩ = some (.map (some M)) := hST.cell 8
  have c9 : w.cell? ⟨S, 9, none⟩ = some pv := hST.cell 9
  have HS := hide hST
  have HP := hide hPR
  have HSo := hide hSor
  have Hper := hide hper
  have Hlg := hide hlg
  obtain ⟨hMP, hk2, hk3, hk4⟩ := hPD
  have HMP := hide hMP
  have HK2 := hide hk2
  have HK3 := hide hk3
  have HK4 := hide hk4
  obtain ⟨hPp, hpt⟩ := per_ok t ht0 ht1
  obtain ⟨p, hp⟩ : ∃ p, Hid (per t = p) := ⟨_, rfl⟩
  rw [hp.out] at hPp hpt Hlg ⊢
  have HPp := hide hPp
  have hrem : t - t % 67108864 = p := hp.out
  have hlook := lookup_u64 w M lk hMP p true
  rw [if_pos rfl] at hlook
  obtain ⟨gv, hgv⟩ : ∃ gv, (lk p).getD (.slice none 0 0) = gv := ⟨_, rfl⟩
  obtain ⟨ok, hok⟩ : ∃ ok, (lk p).isSome = ok := ⟨_, rfl⟩
  rw [hgv, hok] at hlook
  have HGV := hide hgv
  have HOK := hide hok
  clear hST hVV hinj hca hsz hg hPR hSor hper hlg hMP hk2 hk3 hk4 hPp hgv hok hVR hm ht hsv
  have hp0 : 0 ≤ p := by have := HPp.out; unfold Per at this; omega
  have hwr : IntKind.u64.wrap p = p := by rw [IntKind.wrap_u64]; have := HPp.out; unfold Per at this; omega
  have hmodn : IntKind.u64.wrap (t % 67108864) = t % 67108864 := by rw [IntKind.wrap_u64]; omega
  go_enter Try.func24, Try.ntmps24
  go_upto_if 40 with fail
  have HGR : Hid (RT 3 .i64 w B gv ((pd p).getD [])) := by
    have h1 := HGV.out
    cases hk : lk p with
    | none =>
      rw [hk] at h1
      rw [(HK2.out p).1 hk, ← h1]
      exact .inl ⟨rfl, rfl⟩
    | some v =>
      rw [hk] at h1
      have hq : pd p ≠ none := fun e => by rw [(HK2.out p).2 e] at hk; cases hk
      obtain ⟨is, his⟩ := Option.ne_none_iff_exists'.1 hq
      rw [his, ← h1]
      exact HK3.out p v is hk his
  have HGL : Hid (((pd p).getD []).length ≤ 1048576) := by
    cases hk : pd p with
    | none => show 0 ≤ _; omega
    | some is => exact Hlg.out is hk
  go_cut [] (fun wx => ∃ pv' ps', Hid (ST wx S l0 l4 I M (.slice (some ⟨C, 0, none⟩) N cap) pv' (dueOf ps')) ∧ Hid (RT 42 .u64 wx B pv' ps') ∧ Hid (QP pd ps p ps') ∧ Hid (Fr (fun b => b = S ∨ (B ≤ b ∧ Typ w b 42)) w wx))
  case first =>
    cases ok
    · have hpn : pd p = none := by
        have h1 := HOK.out
        rw [← HK2.out p]
        cases hk : lk p with
        | none => rfl
        | some v => rw [hk] at h1; cases h1
      have HPN := hide hpn
      clear hpn
      go_wp2_with fail
      refine (bs_any B pv ps p w HP.out HSo.out (by omega)).mono ?_
      rintro e w ⟨⟨j, b, rfl, hj⟩, rfl⟩
      have HJ := hide hj
      clear hj
      go_wp2_with fail
      have hPown : Hid (¬ pv.ownBlock = some w.heap.size) := fun e => by
        obtain ⟨_, c, r, h5⟩ := HP.out.typ e
        have := (Array.getElem?_eq_some_iff.1 h5).1
        omega
      refine (insert_any B pv ps j p w.heap.size (w.alloc (.cells #[.int .u64 p] 42)) (HP.out.fr (P := fun _ => False) (Fr.below ((Below.refl _ w).alloc (Nat.le_refl _) _)) (fun _ _ h => h)) (heap_alloc_new _ _) hPown.out HJ.out.1 (by omega) (by rw [size_alloc]; omega)).mono ?_
      rintro e w2 ⟨pv0, rfl, hrt, hbl, hfr⟩
      obtain ⟨pa, pl, pc, rfl⟩ := hrt.form
      have HRT := hide hrt
      have HFR := hide hfr
      have HS2 : Hid (ST w2 S l0 l4 I M (.slice (some ⟨C, 0, none⟩) N cap) pv (dueOf ps)) := by
        have h1 : ST (w.alloc (.cells #[.int .u64 p] 42)) S l0 l4 I M (.slice (some ⟨C, 0, none⟩) N cap) pv (dueOf ps) := HS.out.fr (P := fun _ => False) (Fr.below ((Below.refl _ w).alloc (Nat.le_refl _) _)) (fun h => h)
        refine h1.fr hfr fun e => ?_
        cases ((HP.out.fr (P := fun _ => False) (Fr.below ((Below.refl _ w).alloc (Nat.le_refl _) (.cells #[.int .u64 p] 42))) (fun _ _ h => h)).typ e).2.inj h1.typ
      clear hrt hfr hbl
      have d9 : w2.cell? ⟨S, 9, none⟩ = some pv := HS2.out.cell 9
      have z9 := HS2.out.fro 9
      go_wp2_with fail
      have HS3 := HS2.out.set9 (.slice pa pl pc)
      have hSne : ¬ (Value.slice pa pl pc).ownBlock = some S := fun e => by cases (HRT.out.typ e).2.inj HS2.out.typ
      have HRT3 := HRT.out.fr ((Fr.refl (fun b => b = S) w2).setCell (p := ⟨S, 9, none⟩) rfl (.slice pa pl pc)) (fun g hg e => hSne (by rw [← e]; exact hg))
      refine (setDue_any B S l0 l4 I M _ (.slice pa pl pc) (dueOf ps) (ins ps j p) _ HS3 HRT3 (fun q hq => ?_)).mono ?_
      · unfold ins at hq
        rcases List.mem_append.1 hq with h | h
        · exact Hper.out q (List.mem_of_mem_take h)
        · rcases List.mem_cons.1 h with rfl | h
          · exact HPp.out
          · exact Hper.out q (List.mem_of_mem_drop h)
      rintro e w4 ⟨rfl, hs4, hf4⟩
      have HR4 : Hid (RT 42 .u64 w4 B (.slice pa pl pc) (ins ps j p)) := HRT3.fr hf4 (fun g hg e => hSne (by rw [← e]; exact hg))
      have HS4 := hide hs4
      have HF4 : Hid (Fr (fun b => b = S ∨ (B ≤ b ∧ Typ w b 42)) w w4) := by
        have f1 : Fr (fun b => b = S ∨ (B ≤ b ∧ Typ w b 42)) w w2 := Fr.trans' (Fr.below ((Below.refl _ w).alloc (Nat.le_refl _) _)) HFR.out (fun b hb => .inl (.inr (HP.out.typ hb)))
        exact (f1.setCell (p := ⟨S, 9, none⟩) (.inl rfl) (.slice pa pl pc)).trans (hf4.mono fun _ => Or.inl)
      clear HS3 hSne HRT3 hs4 hf4
      go_wp2
      go_meet
      exact ⟨.slice pa pl pc, ins ps j p, HS4, HR4, .inr ⟨HPN.out, j, HJ.out, rfl⟩, HF4⟩
    · have hpn : pd p ≠ none := fun e => by
        have h1 := HOK.out
        rw [(HK2.out p).2 e] at h1
        cases h1
      have HPN := hide hpn
      clear hpn
      go_wp2
      go_meet
      exact ⟨pv, ps, HS, HP, .inl ⟨HPN.out, rfl⟩, Fr.refl _ _⟩
  case rest =>
    obtain ⟨pv', ps', HS5, HR5, HQ5, HF5⟩ := hcut
    have d8 : wc.cell? ⟨S, 8, none⟩ = some (.map (some M)) := HS5.out.cell 8
    have lS := HS5.out.lt
    obtain ⟨is0, his0⟩ : ∃ is0, Hid ((pd p).getD [] = is0) := ⟨_, rfl⟩
    rw [his0.out] at HGR HGL
    have HMP5 : Hid (∀ g, gv.ownBlock = some g → ¬ (g = S ∨ (B ≤ g ∧ Typ w g 42))) := fun g hg h => by
      obtain ⟨_, hty⟩ := HGR.out.typ hg
      rcases h with rfl | h
      · cases hty.inj HS.out.typ
      · cases h.2.inj hty
    have HGR5 : Hid (RT 3 .i64 wc B gv is0) := HGR.out.fr HF5.out HMP5.out
    have HBc : Hid (B ≤ wc.heap.size) := Nat.le_trans hBw HF5.out.size
    go_upto_region 8 with fail
    go_region_law (refine step_appgrp (.tmp 68) (.tmp 70) rfl rfl B wc.heap.size gv is0 i rfl rfl (HGR5.out.fr (P := fun _ => False) (by repeat (first | exact Fr.refl _ _ | refine Fr.alloc ?_ _ | refine Fr.drew ?_)) (fun _ _ h => h)) (by simp) HGL.out (Nat.le_trans HBc.out (Fr.size (B := fun _ => False) (by repeat (first | exact Fr.refl _ _ | refine Fr.alloc ?_ _ | refine Fr.drew ?_)))) ?_; intro v9 w8 g1 g2 g3; obtain ⟨w9, hu, hP9, hS9, hR9, hF9, hS8⟩ := grp_upd HS.out HMP.out HK2.out HK3.out HK4.out HGV.out HGR.out HS5.out HR5.out HF5.out (by repeat (first | exact Fr.refl _ _ | refine Fr.alloc ?_ _ | refine Fr.drew ?_)) g3 g1 g2; have HP9 := hide hP9; have HS9 := hide hS9; have HR9 := hide hR9; have HF9 := hide hF9; have e8 : w8.cell? ⟨S, 8, none⟩ = some (.map (some M)) := hS8.cell 8; clear hS8 g1 g2 g3 hP9 hS9 hR9 hF9)
    all_goals
      go_wp2
      go_end0
      refine ⟨rfl, pv', ps', v9, HS9.out, HR9.out, ?_, HQ5.out, HF9.out⟩
      rw [his0.out]
      exact HP9.out
end Go.Proofs.Qxb6630565a
