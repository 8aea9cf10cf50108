/-
  Prune: the walk.
-/
import Derived.Test.Qxb6630565aX2
namespace Go.Proofs.Qxb6630565a
open Go.ChangeShapes Go.WideShapes Go.ChangeAt Go.RowKit

theorem RT.form2 {e : TypeId} {k : IntKind} {w : World} {B : Nat} {v : Value} {xs : List Int} (h : RT e k w B v xs) : ∃ a c, v = .slice a xs.length c := by
  rcases h with ⟨rfl, rfl⟩ | ⟨P, o, cap, cur, rfl, _⟩
  · exact ⟨_, _, rfl⟩
  · exact ⟨_, _, rfl⟩
theorem RT.form3 {e : TypeId} {k : IntKind} {w : World} {B : Nat} {v : Value} {xs : List Int} (h : RT e k w B v xs) (hn : xs ≠ []) : ∃ P o c, v = .slice (some ⟨P, o, none⟩) xs.length c ∧ xs.length ≤ c := by
  rcases h with ⟨rfl, rfl⟩ | ⟨P, o, cap, cur, rfl, _, _, _, h1, _⟩
  · exact absurd rfl hn
  · exact ⟨_, _, _, rfl, h1⟩
theorem RT.cells {e : TypeId} {k : IntKind} {w : World} {B P o n c : Nat} {xs : List Int} (h : RT e k w B (.slice (some ⟨P, o, none⟩) n c) xs) (j : Nat) (hj : j < xs.length) : w.cell? ⟨P, o + j, none⟩ = some (.int k (xs.getD j 0)) := by
  rcases h with ⟨_, h0⟩ | ⟨P', o', cap, cur, h0, _, hg, _, _, _, hc⟩
  · cases h0
  · cases h0
    rw [cell_row hg]
    exact hc j hj
theorem KSt.chain {w : World} {B C cap N : Nat} {len : Nat → Nat} {t : Nat → Nat → Int} {st : Nat → Nat} (h : KSt w B (.slice (some ⟨C, 0, none⟩) N cap) N len t st) {i : Nat} (hi : i < N) (hn : 1 ≤ len i - st i) : ∃ g gc, w.cell? ⟨C, i * 8, none⟩ = some (.slice (some ⟨g, 0, none⟩) (len i - st i) gc) := by
  obtain ⟨sv, hCR, hVV, _⟩ := h
  rcases hCR with ⟨h0, _⟩ | ⟨C', cap', cur, e, _, _, _, hg, _, hca⟩
  · omega
  cases e
  rcases hVV i hi with ⟨h0, _⟩ | ⟨g, gc, hsv, _, _⟩
  · have h0 : len i - st i = 0 := h0
    omega
  · exact ⟨g, gc, by rw [cell_row hg, (hca i hi).1, hsv]⟩
theorem KSt.row {w : World} {B N : Nat} {cv : Value} {len : Nat → Nat} {t : Nat → Nat → Int} {st : Nat → Nat} (h : KSt w B cv N len t st) (hN : 0 < N) : ∃ C cap, cv = .slice (some ⟨C, 0, none⟩) N cap ∧ N ≤ cap := by
  obtain ⟨sv, hCR, _⟩ := h
  rcases hCR with ⟨h0, _⟩ | ⟨C', cap', cur, e, _, h1, _⟩
  · omega
  · exact ⟨C', cap', e, h1⟩

def PRd (B S I M : Nat) (cv : Value) (N : Nat) (len : Nat → Nat) (t : Nat → Nat → Int) (s0 : Nat → Nat) (h : Int) (w : World) (e : Ending) (w' : World) : Prop :=
  e = .returned (.tuple #[]) ∧ ∃ st pd lk ps pv, SMx w' B S 0 0 I M cv N len t st pd lk ps pv ∧ PI N len t st pd ps ∧ (∀ p ∈ ps, h < p + 67108863) ∧ Went N len t h s0 st ∧ Below B w w'

theorem SMx.fr0 {w w' : World} {B S : Nat} {l0 l4 : Int} {I M : Nat} {cv : Value} {N : Nat} {len : Nat → Nat} {t : Nat → Nat → Int} {st : Nat → Nat} {pd : Int → Option (List Int)} {lk : Int → Option Value} {ps : List Int} {pv : Value} (h : SMx w B S l0 l4 I M cv N len t st pd lk ps pv) (f : Fr (fun _ => False) w w') : SMx w' B S l0 l4 I M cv N len t st pd lk ps pv :=
  ⟨h.s.fr f (fun h => h), KS.fr h.k f (fun _ _ h => h), h.d.fr f (fun h => h) (fun _ _ _ h => h), h.r.fr f (fun _ _ h => h)⟩

theorem PRd.mk {B S I M : Nat} {cv : Value} {N : Nat} {len : Nat → Nat} {t : Nat → Nat → Int} {s0 : Nat → Nat} {h : Int} {w : World} {w' : World} (st : Nat → Nat) (pd : Int → Option (List Int)) (lk : Int → Option Value) (ps : List Int) (pv : Value) (h1 : SMx w' B S 0 0 I M cv N len t st pd lk ps pv) (h2 : PI N len t st pd ps) (h3 : ∀ p ∈ ps, h < p + 67108863) (h4 : Went N len t h s0 st) (h5 : Below B w w') : PRd B S I M cv N len t s0 h w (.returned (.tuple #[])) w' := ⟨rfl, st, pd, lk, ps, pv, h1, h2, h3, h4, h5⟩

theorem ends_gt {h : Int} {ps : List Int} (hs : Sor ps) (hd : h < dueOf ps) : ∀ p ∈ ps, h < p + 67108863 := by
  cases ps with
  | nil => intro p hp; cases hp
  | cons q ps =>
    obtain ⟨_, h2⟩ := sor_cons hs
    intro p hp
    have hd : h < q + 67108863 := hd
    rcases List.mem_cons.1 hp with rfl | hp
    · exact hd
    · have := h2 p hp
      omega

set_option maxRecDepth 100000 in
set_option maxHeartbeats 4000000 in
theorem Prune_any (B S I M N : Nat) (cv : Value) (len : Nat → Nat) (t : Nat → Nat → Int) (s0 : Nat → Nat) (h : Int) (pd : Int → Option (List Int)) (lk : Int → Option Value) (ps : List Int) (pv : Value) (w : World) (hBw : B ≤ w.heap.size) (hBS : B ≤ S) (hBM : B ≤ M) (hR : Rows N len t)
    (hSM : SMx w B S 0 0 I M cv N len t s0 pd lk ps pv) (hPI : PI N len t s0 pd ps) :
    Calls Try.prog 19 #[.pointer (some ⟨S, 0, none⟩), .int .u64 h] w fun e w' => PRd B S I M cv N len t s0 h w e w' := by
  have HSM0 := hide hSM
  have HPI0 := hide hPI
  have HR := hide hR
  clear hSM hPI hR
  go_enter Try.func19, Try.ntmps19
  go_wp2
  go_loopg [] (cntD len t h s0 N) (fun gk wr => ∃ st pd lk ps pv, Hid (SMx wr B S 0 0 I M cv N len t st pd lk ps pv) ∧ Hid (PI N len t st pd ps) ∧ Hid (Went N len t h s0 st) ∧ Hid (cntD len t h st N ≤ gk) ∧ Hid (Below B w wr))
  case atStart => exact ⟨s0, pd, lk, ps, pv, HSM0, HPI0, fun i hi => .inl rfl, Nat.le_refl _, Below.refl _ _⟩
  case round =>
    obtain ⟨st, pd, lk, ps, pv, HSM, HPI, HW, HD, HB⟩ := hrel
    clear HSM0 HPI0
    have c10 : wr.cell? ⟨S, 10, none⟩ = some (.int .u64 (dueOf ps)) := HSM.out.s.cell 10
    obtain ⟨du, hdu⟩ : ∃ du, Hid (dueOf ps = du) := ⟨_, rfl⟩
    rw [hdu.out] at c10
    by_cases hdue : du ≤ h
    · go_wp2_with fail
      refine (load_any S 10 du wr c10).mono ?_
      rintro e wr ⟨rfl, rfl⟩
      go_wp2_with fail
      refine (lock_any B S wr HSM.out).mono ?_
      rintro e w1 ⟨rfl, hs1, hf1⟩
      have HSM1 := hide hs1
      have HB1 : Hid (Below B w w1) := HB.out.trans (hf1.to B (by have := HB.out.size; omega) (fun i e => by have e : i = S := e; omega))
      clear hs1 hf1 c10
      have c9 : w1.cell? ⟨S, 9, none⟩ = some pv := HSM1.out.s.cell 9
      cases ps with
      | nil =>
        obtain ⟨pa, pc, rfl⟩ := HSM1.out.r.form2
        go_wp2_with fail
        refine (unlock_any B S w1 HSM1.out).mono ?_
        rintro e w2 ⟨rfl, hs2, hf2⟩
        have HSM2 := hide hs2
        have HB2 : Hid (Below B w w2) := HB1.out.trans (hf2.to B (by have := HB1.out.size; omega) (fun i e => by have e : i = S := e; omega))
        clear hs2 hf2
        go_wp2
        first | go_end0 | refine bodyPost_ret (results_none rfl _ _ _) rfl ?_
        exact PRd.mk st pd lk [] _ HSM2.out HPI.out (fun p hp => by cases hp) HW.out HB2.out
      | cons p0 rest =>
        have HPer : Hid (Per p0) := HPI.out.k.per p0 (List.mem_cons_self ..)
        have HDU : Hid (p0 + 67108863 = du) := hdu.out
        obtain ⟨P, o, pc, rfl, hpc⟩ := HSM1.out.r.form3 (by simp)
        have cp : w1.cell? ⟨P, o, none⟩ = some (.int .u64 p0) := by simpa using HSM1.out.r.cells 0 (by simp)
        obtain ⟨is, his⟩ := Option.ne_none_iff_exists'.1 ((HPI.out.k.keys p0).1 (List.mem_cons_self ..))
        have hlk : lk p0 ≠ none := fun e => by
          have := (HSM1.out.d.2.1 p0).1 e
          rw [his] at this
          cases this
        obtain ⟨gv, hgv⟩ := Option.ne_none_iff_exists'.1 hlk
        have hrow := HSM1.out.d.2.2.1 p0 gv is hgv his
        have hne := HPI.out.ne p0 is his
        obtain ⟨G, o2, gc, rfl, hgc⟩ := hrow.form3 hne
        have hlook := lookup_u64 w1 M lk HSM1.out.d.1 p0 false
        have c8 : w1.cell? ⟨S, 8, none⟩ = some (.map (some M)) := HSM1.out.s.cell 8
        rw [hgv] at hlook
        simp only [Bool.false_eq_true, if_false, Option.getD_some] at hlook
        obtain ⟨L, hL⟩ : ∃ L, is.length = L := ⟨_, rfl⟩
        have HL := hide hL
        have hL1 : 0 < L := by
          rw [← hL]
          exact List.length_pos_iff.2 hne
        have HX : Hid (PX N len t h st pd (p0 :: rest) p0 is 0) := PX.start HPI.out his (by rw [HDU.out]; exact hdue)
        have HGV : Hid (lk p0 = some (.slice (some ⟨G, o2, none⟩) L gc)) := by rw [← hL]; exact hgv
        have hLm : L ≤ 1048576 := by
          have h1 := int_len (HPI.out.g.nodup p0 is his) fun x hm => by
            obtain ⟨i, e, hi, _⟩ := HPI.out.g.mem p0 is his x hm
            exact ⟨i, e, hi⟩
          have h2 := HR.out.num
          omega
        rw [hL] at hlook hgc
        obtain ⟨A, hA⟩ : ∃ A, IntKind.u64.wrap (p0 + 67108864) = A := ⟨_, rfl⟩
        have hAd : IntKind.u64.wrap (A - 1) = du := by
          rw [← hA, ← HDU.out]
          exact wrap_due p0 HPer.out
        obtain ⟨n0, hn0⟩ : ∃ n0, (p0 :: rest).length = n0 := ⟨_, rfl⟩
        have hn1 : ¬ n0 = 0 := by
          rw [← hn0]
          simp
        have hni : ¬ ((n0 : Int) = 0) := by omega
        have hnp : 0 < n0 := by omega
        have hnf : ((n0 : Int) == 0) = false := by simpa using hni
        have hnd : ¬ h < du := by omega
        rw [hn0] at c9 HSM1 hpc
        have HN0 := hide hn0
        clear hn0 hgv his hlk hrow hne hL HPI hdu HSM
        obtain ⟨i0, _, hi0, _⟩ := HX.out.next (by rw [HL.out]; exact hL1)
        obtain ⟨C, cc, rfl, hcc⟩ := KSt.row HSM1.out.k (by omega)
        have hN64 : N ≤ 65536 := HR.out.num
        obtain ⟨gK, hgK⟩ : ∃ x, x = gk := ⟨_, rfl⟩
        subst hgK
        obtain ⟨wo, rfl⟩ : ∃ wo : World, wo = wr := ⟨_, rfl⟩
        go_wp2
        go_loopg [6, 7] L (fun gj a b wj => ∃ (d wk : Nat) (st' : Nat → Nat) (pd' : Int → Option (List Int)) (lk' : Int → Option Value) (ps' : List Int) (pv' : Value), a = .int .i64 d ∧ b = .int .i64 wk ∧ d ≤ L ∧ wk ≤ 2000000 ∧ (d = 0 → wk = 0) ∧ gj = L - d ∧
          Hid (SMx wj B S 1 (-1073741824) I M (.slice (some ⟨C, 0, none⟩) N cc) N len t st' pd' lk' ps' pv') ∧ Hid (PX N len t h st' pd' ps' p0 is d) ∧ Hid (lk' p0 = some (.slice (some ⟨G, o2, none⟩) L gc)) ∧ Hid (Went N len t h s0 st') ∧ Hid (cntD len t h st' N + d ≤ cntD len t h st N) ∧ Hid (Below B w wj))
        case atStart => exact ⟨0, 0, st, pd, lk, _, _, rfl, rfl, by omega, by omega, fun _ => rfl, by omega, HSM1, HX, HGV, HW, Nat.le_refl _, HB1⟩
        case round =>
          clear HSM1 HX HGV HW HB1 c8 cp c9 hlook
          obtain ⟨d, wk, st', pd', lk', ps', pv', rfl, rfl, hdL, hwk, hd0, hgj, HSM, HX, HGV, HW, HCN, HB2⟩ := hrel
          by_cases hdl : d < L
          · by_cases hwl : wk < 1024
            · obtain ⟨i, hid, hiN, hiw⟩ := HX.out.next (by rw [HL.out]; exact hdl)
              have HID := hide hid
              have HIW := hide hiw
              have HDUE : Hid (Due len t st' h i) := waits_due hiw HX.out.due
              have c7 : wr.cell? ⟨S, 7, none⟩ = some (.slice (some ⟨C, 0, none⟩) N cc) := HSM.out.s.cell 7
              have cG : wr.cell? ⟨G, o2 + d, none⟩ = some (.int .i64 i) := by
                have h1 := (HSM.out.d.2.2.1 p0 _ is HGV.out HX.out.at0).cells d (by rw [HL.out]; exact hdl)
                rw [h1, List.getD_eq_getElem?_getD, hid]
                rfl
              have h2n : 2 ≤ len i - st' i := hiw.1
              have hbig : len i - st' i ≤ 1048576 := by have := HR.out.big i hiN; omega
              obtain ⟨g, gcc, hch⟩ := KSt.chain HSM.out.k hiN (by omega)
              clear hid hiw
              obtain ⟨m, hm⟩ : ∃ m, Hid (len i - st' i = m) := ⟨_, rfl⟩
              rw [hm.out] at h2n hbig hch
              go_wp2
              go_region
              go_wp2_with fail
              have HSMd : Hid (SMx wr.drew B S 1 (-1073741824) I M (.slice (some ⟨C, 0, none⟩) N cc) N len t st' pd' lk' ps' pv') := HSM.out.fr0 (Fr.refl _ wr).drew
              refine (pruneK B C cc N i len t st' h wr.drew HR.out HSMd.out.k hiN (by rw [hm.out]; exact h2n) (due_first HR.out hiN HDUE.out)).mono ?_
              rintro e w2 ⟨rfl, k, hk1, hk2, hcut, hK2, hF2⟩
              have HCUT := hide hcut
              have HSM2 := hide (HSMd.out.pruned hF2 hK2)
              have HB3 : Hid (Below B w w2) := HB2.out.drew.trans (hF2.to B (by have := HB2.out.size; show B ≤ wr.heap.size; omega) (fun i e => e.1))
              have HK2 := hide hk2
              clear hcut hK2 hF2 c7 cG hch hk2 HSMd
              have HW2 : Hid (Went N len t h s0 (upd st' i (st' i + k))) := HW.out.step hiN HDUE.out hk1 HK2.out HCUT.out
              have HCN2 : Hid (cntD len t h (upd st' i (st' i + k)) N + (d + 1) ≤ cntD len t h st N) := by
                have h1 := cntD_upd HDUE.out (not_due' HK2.out HCUT.out) N
                rw [if_pos hiN] at h1
                have h2 := HCN.out
                show _ ≤ _
                omega
              obtain ⟨m2, hm2⟩ : ∃ m2, len i - upd st' i (st' i + k) i = m2 := ⟨_, rfl⟩
              have hm2' : len i - (st' i + k) = m2 := by rw [← hm2, upd_same]
              have hm21 : 1 ≤ m2 := by have := HK2.out; omega
              have hm22 : m2 ≤ 1048576 := by have := HR.out.big i hiN; omega
              obtain ⟨g2, gc2, hch2⟩ := KSt.chain HSM2.out.k hiN (by rw [hm2]; exact hm21)
              have cG2 : w2.cell? ⟨G, o2 + d, none⟩ = some (.int .i64 i) := by
                have h1 := (HSM2.out.d.2.2.1 p0 _ is HGV.out HX.out.at0).cells d (by rw [HL.out]; exact hdl)
                rw [h1, List.getD_eq_getElem?_getD, HID.out]
                rfl
              rw [hm2] at hch2
              have HM2 := hide hm2
              have HM2' := hide hm2'
              clear hm2 hm2'
              by_cases h1m : 1 < m2
              · obtain ⟨tq, htq⟩ : ∃ tq, Hid (mid len t (upd st' i (st' i + k)) i = tq) := ⟨_, rfl⟩
                have H1m : Hid (1 < len i - (st' i + k)) := by rw [HM2'.out]; exact h1m
                have hgt : Hid (p0 < per tq) := by
                  rw [← htq.out]
                  exact again_gt HX.out HK2.out HCUT.out H1m.out
                have hub : st' i + k + m2 / 2 < len i := by have := HM2'.out; omega
                have htm : t i (st' i + k + m2 / 2) = tq := by
                  have h1 := htq.out
                  unfold mid at h1
                  rw [upd_same, HM2'.out] at h1
                  exact h1
                have ht0 : Hid (0 ≤ tq) := by rw [← htm]; exact HR.out.lo i hiN _ hub
                have ht1 : Hid (tq ≤ 18446744073709551615) := by rw [← htm]; exact HR.out.hi i hiN _ hub
                have htm2 : Hid (t i (upd st' i (st' i + k) i + m2 / 2) = tq) := by rw [upd_same]; exact htm
                clear htm hub
                go_wp2_with fail
                refine (queue_any B S N i _ _ _ _ 1 (-1073741824) I M _ pv' ps' pd' lk' w2 (by have := HB3.out.size; omega) HSM2.out.s HSM2.out.k HSM2.out.d HSM2.out.r HX.out.k.sor HX.out.k.per hiN m2 HM2.out hm21 hm22 tq htm2.out ht0.out ht1.out (by have := HX.out.psLen; omega) (fun js hj => by
                  have h5 := hgt.out
                  have h1 := HX.out.grpLen (q := per tq) (by omega) hj
                  omega)).mono ?_
                intro e w3 hQ
                have he : e = .returned (.tuple #[]) := hQ.1
                subst he
                obtain ⟨pv3, ps3, v3, hS3, hQP, hF3⟩ := HSM2.out.queued hQ
                have HSM3 := hide hS3
                have HB4 : Hid (Below B w w3) := HB3.out.trans (hF3.to B (by have := HB3.out.size; omega) (fun i e => Qb.ge hBS hBM e))
                have HX3 := hide (HX.out.done2 HID.out HK2.out HCUT.out H1m.out (q1 := per tq) (by rw [htq.out]) (per_ok tq ht0.out ht1.out).1 hQP)
                have HGV3 : Hid ((fun q => if q = per tq then some v3 else lk' q) p0 = some (.slice (some ⟨G, o2, none⟩) L gc)) := by
                  have h1 := hgt.out
                  show (if p0 = per tq then some v3 else lk' p0) = _
                  rw [if_neg (by omega)]
                  exact HGV.out
                clear hQ hS3 hQP hF3 hch2 cG2
                go_wp2
                go_roundg (L - (d + 1))
                case measure => omega
                case rel => exact ⟨d + 1, wk + m, _, _, _, _, _, by go_num, by go_num, by omega, by omega, fun h => by omega, rfl, HSM3, HX3, HGV3, HW2, HCN2, HB4⟩
              · have HX3 := hide (HX.out.done1 HID.out (by rw [HM2'.out]; omega))
                go_wp2
                go_roundg (L - (d + 1))
                case measure => omega
                case rel => exact ⟨d + 1, wk + m, _, _, _, _, _, by go_num, by go_num, by omega, by omega, fun h => by omega, rfl, HSM2, HX3, HGV, HW2, HCN2, HB3⟩
            · have hd1 : 1 ≤ d := by
                rcases Nat.eq_zero_or_pos d with h1 | h1
                · have := hd0 h1
                  omega
                · exact h1
              obtain ⟨w2, hcl, hs2, hBG, w3, hu, hSM3, hF3⟩ := left_mem HSM.out HGV.out HX.out.at0 hd1 (by rw [HL.out]; exact hdl) 0 gc
              have HCL := hide hcl
              have c8 : w2.cell? ⟨S, 8, none⟩ = some (.map (some M)) := hs2.cell 8
              have HSM3 := hide hSM3
              have HB3 : Hid (Below B w w3) := HB2.out.trans (hF3.to B (by have := HB2.out.size; omega) (fun i e => by rcases e with rfl | rfl <;> assumption))
              have HPI3 := hide (HX.out.left (by rw [HL.out]; exact hdl))
              clear hcl hs2 hSM3 hF3 hd0
              have hgd : ¬ gc = d := by omega
              have hgd2 : ¬ d = gc := by omega
              have hdg : d ≤ gc := by omega
              have hdL2 : d ≤ L := by omega
              go_wp2_with (guard_target =~ wpList _ _ _ (Oper.mk _ (Op.call { callee := Callee.builtin Builtin.clear, args := #[Operand.tmp 96], argTypes := #[36] }) _ _ _ _ :: _) _ _; refine wpList_plain rfl fun KK hKK => ?_; refine wp_clear1 (.tmp 96) 36 rfl _ _ _ rfl HCL.out ?_; refine hKK _ _ ?_; clear hKK KK)
              go_region
              go_wp2_with fail
              refine (unlock_any B S w3 HSM3.out).mono ?_
              rintro e w4 ⟨rfl, hs4, hf4⟩
              have HSM4 := hide hs4
              have HB4 : Hid (Below B w w4) := HB3.out.trans (hf4.to B (by have := HB3.out.size; omega) (fun i e => by have e : i = S := e; omega))
              clear hs4 hf4
              go_wp2
              go_roundg (cntD len t h st' N)
              case measure =>
                have h1 := HCN.out
                have h2 := HD.out
                omega
              case rel => exact ⟨_, _, _, _, _, HSM4, HPI3, HW, Nat.le_refl _, HB4⟩
          · obtain rfl : d = L := by omega
            obtain ⟨w2, hcl, hs2, hBG, w3, hdl2, hSM3, hF3⟩ := none_mem HSM.out HGV.out HX.out.at0 hL1 HL.out.symm 0 0 gc
            have HCL := hide hcl
            have HDL := hide hdl2
            have c8 : w2.cell? ⟨S, 8, none⟩ = some (.map (some M)) := hs2.cell 8
            have HB3 : Hid (Below B w w3) := HB2.out.trans (hF3.to B (by have := HB2.out.size; omega) (fun i e => by rcases e with rfl | rfl <;> assumption))
            have hx := HX.out
            rw [← HL.out] at hx
            obtain ⟨rest3, rfl, hPI3⟩ := hx.none
            have HPI3 := hide hPI3
            obtain ⟨P3, o3, pc3, rfl, hpc3⟩ := hSM3.r.form3 (by simp)
            have c9 : w3.cell? ⟨S, 9, none⟩ = some (.slice (some ⟨P3, o3, none⟩) (p0 :: rest3).length pc3) := hSM3.s.cell 9
            have z9 := hSM3.s.fro 9
            obtain ⟨n3, hn3⟩ : ∃ n3, (p0 :: rest3).length = n3 := ⟨_, rfl⟩
            have hn31 : 1 ≤ n3 := by
              rw [← hn3]
              simp
            rw [hn3] at c9 hSM3 hpc3
            have HSM3 := hide hSM3
            clear hcl hs2 hSM3 hF3 hd0 hdl2 hx hPI3 hn3
            have HT := hide HSM3.out.r.tail
            by_cases hpc1 : pc3 = 1
            · subst hpc1
              obtain rfl : n3 = 1 := by omega
              have HRT3 : Hid (RT 42 .u64 w3 B (.slice (some ⟨P3, o3, none⟩) 0 0) rest3) := HT.out.2 rfl
              go_wp2_with first | (guard_target =~ wpList _ _ _ (Oper.mk _ (Op.call { callee := Callee.builtin Builtin.clear, args := #[Operand.tmp 96], argTypes := #[36] }) _ _ _ _ :: _) _ _; refine wpList_plain rfl fun KK hKK => ?_; refine wp_clear1 (.tmp 96) 36 rfl _ _ _ rfl HCL.out ?_; refine hKK _ _ ?_; clear hKK KK) | (guard_target =~ wpList _ _ _ (Oper.mk _ (Op.call { callee := Callee.builtin Builtin.delete, args := #[Operand.tmp 112, Operand.tmp 113], argTypes := #[64, 42] }) _ _ _ _ :: _) _ _; refine wpList_plain rfl fun KK hKK => ?_; refine wp_delete2 (.tmp 112) (.tmp 113) 64 42 rfl _ _ _ _ rfl rfl HDL.out ?_; refine hKK _ _ ?_; clear hKK KK)
              have HS9 := HSM3.out.s.set9 (.slice (some ⟨P3, o3, none⟩) 0 0)
              have hSne : ¬ (.slice (some ⟨P3, o3, none⟩) 0 0 : Value).ownBlock = some S := fun e => by cases (HRT3.out.typ e).2.inj HSM3.out.s.typ
              have HRT4 := HRT3.out.fr ((Fr.refl (fun b => b = S) w3).setCell (p := ⟨S, 9, none⟩) rfl (.slice (some ⟨P3, o3, none⟩) 0 0)) (fun g hg e => hSne (by rw [← e]; exact hg))
              refine (setDue_any B S 1 (-1073741824) I M _ (.slice (some ⟨P3, o3, none⟩) 0 0) _ rest3 _ HS9 HRT4 HPI3.out.k.per).mono ?_
              rintro e w5 ⟨rfl, hs5, hf5⟩
              have hF5 : Fr (· = S) w3 w5 := ((Fr.refl (fun b => b = S) w3).setCell (p := ⟨S, 9, none⟩) rfl (.slice (some ⟨P3, o3, none⟩) 0 0)).trans hf5
              have HSM5 := hide (HSM3.out.shrink HRT3.out hF5 hs5)
              have HB5 : Hid (Below B w w5) := HB3.out.trans (hF5.to B (by have := HB3.out.size; omega) (fun i e => by have e : i = S := e; omega))
              clear HS9 hSne HRT4 hs5 hf5 hF5
              go_wp2_with fail
              refine (unlock_any B S w5 HSM5.out).mono ?_
              rintro e w6 ⟨rfl, hs6, hf6⟩
              have HSM6 := hide hs6
              have HB6 : Hid (Below B w w6) := HB5.out.trans (hf6.to B (by have := HB5.out.size; omega) (fun i e => by have e : i = S := e; omega))
              clear hs6 hf6
              go_wp2
              go_roundg (cntD len t h st' N)
              case measure =>
                have h1 := HCN.out
                have h2 := HD.out
                omega
              case rel => exact ⟨_, _, _, _, _, HSM6, HPI3, HW, Nat.le_refl _, HB6⟩
            · have HRT3 := hide HT.out.1
              have hpc2 : ¬ 1 = pc3 := by omega
              go_wp2_with first | (guard_target =~ wpList _ _ _ (Oper.mk _ (Op.call { callee := Callee.builtin Builtin.clear, args := #[Operand.tmp 96], argTypes := #[36] }) _ _ _ _ :: _) _ _; refine wpList_plain rfl fun KK hKK => ?_; refine wp_clear1 (.tmp 96) 36 rfl _ _ _ rfl HCL.out ?_; refine hKK _ _ ?_; clear hKK KK) | (guard_target =~ wpList _ _ _ (Oper.mk _ (Op.call { callee := Callee.builtin Builtin.delete, args := #[Operand.tmp 112, Operand.tmp 113], argTypes := #[64, 42] }) _ _ _ _ :: _) _ _; refine wpList_plain rfl fun KK hKK => ?_; refine wp_delete2 (.tmp 112) (.tmp 113) 64 42 rfl _ _ _ _ rfl rfl HDL.out ?_; refine hKK _ _ ?_; clear hKK KK)
              have HS9 := HSM3.out.s.set9 (.slice (some ⟨P3, o3 + 1, none⟩) (n3 - 1) (pc3 - 1))
              have hSne : ¬ (.slice (some ⟨P3, o3 + 1, none⟩) (n3 - 1) (pc3 - 1) : Value).ownBlock = some S := fun e => by cases (HRT3.out.typ e).2.inj HSM3.out.s.typ
              have HRT4 := HRT3.out.fr ((Fr.refl (fun b => b = S) w3).setCell (p := ⟨S, 9, none⟩) rfl (.slice (some ⟨P3, o3 + 1, none⟩) (n3 - 1) (pc3 - 1))) (fun g hg e => hSne (by rw [← e]; exact hg))
              refine (setDue_any B S 1 (-1073741824) I M _ (.slice (some ⟨P3, o3 + 1, none⟩) (n3 - 1) (pc3 - 1)) _ rest3 _ HS9 HRT4 HPI3.out.k.per).mono ?_
              rintro e w5 ⟨rfl, hs5, hf5⟩
              have hF5 : Fr (· = S) w3 w5 := ((Fr.refl (fun b => b = S) w3).setCell (p := ⟨S, 9, none⟩) rfl (.slice (some ⟨P3, o3 + 1, none⟩) (n3 - 1) (pc3 - 1))).trans hf5
              have HSM5 := hide (HSM3.out.shrink HRT3.out hF5 hs5)
              have HB5 : Hid (Below B w w5) := HB3.out.trans (hF5.to B (by have := HB3.out.size; omega) (fun i e => by have e : i = S := e; omega))
              clear HS9 hSne HRT4 hs5 hf5 hF5
              go_wp2_with fail
              refine (unlock_any B S w5 HSM5.out).mono ?_
              rintro e w6 ⟨rfl, hs6, hf6⟩
              have HSM6 := hide hs6
              have HB6 : Hid (Below B w w6) := HB5.out.trans (hf6.to B (by have := HB5.out.size; omega) (fun i e => by have e : i = S := e; omega))
              clear hs6 hf6
              go_wp2
              go_roundg (cntD len t h st' N)
              case measure =>
                have h1 := HCN.out
                have h2 := HD.out
                omega
              case rel => exact ⟨_, _, _, _, _, HSM6, HPI3, HW, Nat.le_refl _, HB6⟩
    · go_wp2_with fail
      refine (load_any S 10 du wr c10).mono ?_
      rintro e wr ⟨rfl, rfl⟩
      go_wp2
      go_end0
      exact PRd.mk st pd lk ps pv HSM.out HPI.out (ends_gt HPI.out.k.sor (by rw [hdu.out]; omega)) HW.out HB.out
end Go.Proofs.Qxb6630565a
