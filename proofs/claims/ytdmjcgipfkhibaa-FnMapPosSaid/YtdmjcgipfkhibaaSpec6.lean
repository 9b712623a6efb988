/- The walk of the reference's Rules.Answers but for the step that takes any key out of a set. -/
import Derived.Test.YtdmjcgipfkhibaaSpec5
namespace Go.Proofs.Ytdmjcgipfkhibaa
open Go.RowKit Go.BigFrame

set_option maxRecDepth 100000 in
set_option maxHeartbeats 4000000 in
theorem answers_rest (r : Pl.RulesD) (lv sv gv : Value) (l : List Pl.Ent) (S : Pl.StepD) (A : Pl.Ans) (w : World) (hl : EntS w lv l) (hs : StepV w sv S) (hg : AnsV w gv A)
    (hn : l.length ≤ 500000) (hsl : r.values = true ∨ S.list.length ≤ 1000) (hk : A.keys.length ≤ 1000000) (hv : A.vals.length ≤ 1000000) (hpop : ¬ (S.kind = 6 ∧ r.values = false ∧ 0 < l.length)) :
    Calls Try.prog 35 #[rulesV r, lv, sv, gv] w (AnsPost w (Pl.ansList r l S A) (Pl.ansB r l S A)) := by
  have HPOP := Lib.hid hpop; clear hpop
  have HSLL := Lib.hid hsl; clear hsl
  obtain ⟨sl, rfl, hSL⟩ := hs
  obtain ⟨ks, vs, rfl, hK, hX⟩ := hg
  have HG := Lib.hid (fun (W : World) (hb : Bel w W) (k : Int) => get_any' lv l k W (hl.bel hb) (by omega))
  have HL := Lib.hid hl
  obtain ⟨la, lc, rfl, _, _, _⟩ := hl
  have HSL := Lib.hid hSL; clear hSL
  have HK := Lib.hid hK; clear hK
  have HX := Lib.hid hX; clear hX
  go_enter Try.func35, Try.ntmps35
  go_wp2_with fail
  refine (HG.out _ ((((Bel.refl w).alloc _).alloc _).alloc _ |>.alloc _) _).mono ?_
  rintro e w1 ⟨rfl, hb1⟩
  obtain ⟨hB0, hB1, hB2, hB3, hbw⟩ := blk4 hb1
  have hM : AnsMem w1 w.heap.size r S.kind S.key S.val sl A.ok A.val ks vs false 0 := ⟨hB0, hB1, hB2, hB3⟩
  clear hB0 hB1 hB2 hB3 hb1
  have HM := Lib.hid hM
  obtain ⟨r0, r1, r2, r3, r4, r5⟩ := r
  obtain ⟨s0, s1, s2, sl'⟩ := S
  obtain ⟨ok, val, kl, vl⟩ := A
  simp only at *
  obtain ⟨⟨cr0, cr1, cr2, cr3, cr4, cr5⟩, ⟨cs0, cs1, cs2, cs3⟩, ⟨cg0, cg1, cg2, cg3⟩, ⟨cd0, cd1, fd0, fd1⟩⟩ := hM.cells
  clear hM
  go_upto_block 0 with (fail)
  go_cut [1] (fun s1v wc => AnsMeet w wc s1v ⟨r0, r1, r2, r3, r4, r5⟩ l ⟨s0, s1, s2, sl'⟩ ⟨ok, val, kl, vl⟩ sl ks vs)
  case first =>
    by_cases k0 : s0 = 0
    · subst k0
      have HNO : Hid (¬ (r0 ≤ s1 ∧ s1 ≤ r1) → Pl.ansList ⟨r0, r1, r2, r3, r4, r5⟩ l ⟨0, s1, s2, sl'⟩ ⟨ok, val, kl, vl⟩ = l) := Lib.hid (fun h => by simp only [Pl.ansList, if_true]; rw [if_neg h])
      have HYES : Hid (r0 ≤ s1 ∧ s1 ≤ r1 → Pl.ansList ⟨r0, r1, r2, r3, r4, r5⟩ l ⟨0, s1, s2, sl'⟩ ⟨ok, val, kl, vl⟩ = Pl.put l s1 (if r3 then s2 else 0)) := Lib.hid (fun h => by simp only [Pl.ansList, if_true]; rw [if_pos h])
      by_cases ha : r0 ≤ s1
      · have ha' : decide (r0 ≤ s1) = true := by simpa using ha
        by_cases hb : s1 ≤ r1
        · have HP := Lib.hid (fun (W : World) (hW : Bel w W) => put_ents (.slice la l.length lc) l s1 (if r3 then s2 else 0) W (HL.out.bel hW) (by omega))
          have HV := Lib.hid (fun (W : World) => value_any ⟨r0, r1, r2, r3, r4, r5⟩ s2 W)
          generalize (if r3 then s2 else 0) = pv at HP HV HYES
          go_upto_region 6 with (fail)
          obtain ⟨cr0, cr1, cr2, cr3, cr4, cr5, cs1, cs2⟩ := And.intro (Later.cell cr0) (And.intro (Later.cell cr1) (And.intro (Later.cell cr2) (And.intro (Later.cell cr3) (And.intro (Later.cell cr4) (And.intro (Later.cell cr5) (And.intro (Later.cell cs1) (Later.cell cs2)))))))
          refine region_later_tail 7 (by kernel_rfl) (by kernel_rfl) ?_
          simp only [List.take_succ_cons, List.take_zero, List.drop_succ_cons, List.drop_zero]
          repeat (go_big_quiet_step ((go_at_call 46; exact call_later _ (HV.out _))))
          refine wpQuiet_nil ?_
          intro _ hw'
          obtain ⟨x, hx⟩ := hw'
          subst hx
          have hxb := x.bel
          generalize x.at = w2 at hxb ⊢
          clear cr0 cr1 cr2 cr3 cr4 cr5 cs1 cs2
          go_wp2_with fail
          refine (HP.out _ (hbw.trans hxb)).mono ?_
          rintro e w3 ⟨u, rfl, hu, hb3⟩
          have HU := Lib.hid hu; clear hu
          go_wp2
          go_meet
          exact ⟨by rw [HYES.out ⟨ha, hb⟩]; exact HU.out, HM.out.bel (hxb.trans hb3), hbw.trans (hxb.trans hb3), ansB_plain (by simp) (by simp)⟩
        · go_wp2
          go_meet
          exact ⟨by rw [HNO.out (by omega)]; exact HL.out.bel hbw, HM.out, hbw, ansB_plain (by simp) (by simp)⟩
      · have ha' : decide (r0 ≤ s1) = false := by simpa using ha
        go_wp2
        go_meet
        exact ⟨by rw [HNO.out (by omega)]; exact HL.out.bel hbw, HM.out, hbw, ansB_plain (by simp) (by simp)⟩
    by_cases k1 : s0 = 1
    · subst k1
      clear k0
      go_wp2_with fail
      refine (without_any _ l s1 _ (HL.out.bel hbw) (by omega)).mono ?_
      rintro e w2 ⟨u, rfl, hu, hb2⟩
      have HU := Lib.hid hu; clear hu
      go_wp2
      go_meet
      exact ⟨HU.out, HM.out.bel hb2, hbw.trans hb2, ansB_plain (by simp) (by simp)⟩
    by_cases k2 : s0 = 2
    · subst k2
      clear k0 k1
      go_wp2
      go_meet
      exact ⟨bel_ents HL.out hbw (by simp; omega), HM.out.setOk _, bel_set hbw (by simp; omega), ansB_plain (by simp) (by simp)⟩
    by_cases k3 : s0 = 3
    · subst k3
      clear k0 k1 k2
      have e3 : Pl.dueOk ⟨r0, r1, r2, r3, r4, r5⟩ l ⟨3, s1, s2, sl'⟩ = (Pl.there l s1 && r5) ∧ Pl.dueVal ⟨r0, r1, r2, r3, r4, r5⟩ l ⟨3, s1, s2, sl'⟩ = (if r3 = true then (if Pl.there l s1 = true then Pl.valOf l s1 else r4) else 0) := ⟨by simp [Pl.dueOk], by simp [Pl.dueVal]⟩
      have HE3 := Lib.hid e3; clear e3
      cases ht : Pl.there l s1 <;> cases r3
      all_goals
        have HT := Lib.hid ht; clear ht
        go_wp2_with fail
        go_region
        all_goals go_wp2
        all_goals go_meet
      · exact ⟨HL.out.bel (bel_set (bel_set (bel_set hbw (by simp; omega)) (by simp; omega)) (by simp; omega)).drew, by rw [HE3.out.1, HE3.out.2, HT.out]; exact (((HM.out.setVal _).setOk _).setVal _).drew, (bel_set (bel_set (bel_set hbw (by simp; omega)) (by simp; omega)) (by simp; omega)).drew, ansB_plain (by simp) (by simp)⟩
      · exact ⟨HL.out.bel (bel_set (bel_set hbw (by simp; omega)) (by simp; omega)).drew, by rw [HE3.out.1, HE3.out.2, HT.out]; exact ((HM.out.setVal _).setOk _).drew, (bel_set (bel_set hbw (by simp; omega)) (by simp; omega)).drew, ansB_plain (by simp) (by simp)⟩
      · exact ⟨HL.out.bel (bel_set (bel_set (bel_set hbw (by simp; omega)) (by simp; omega)) (by simp; omega)).drew, by rw [HE3.out.1, HE3.out.2, HT.out]; exact (((HM.out.setVal _).setOk _).setVal _).drew, (bel_set (bel_set (bel_set hbw (by simp; omega)) (by simp; omega)) (by simp; omega)).drew, ansB_plain (by simp) (by simp)⟩
      · exact ⟨HL.out.bel (bel_set (bel_set hbw (by simp; omega)) (by simp; omega)).drew, by rw [HE3.out.1, HE3.out.2, HT.out]; exact ((HM.out.setVal _).setOk _).drew, (bel_set (bel_set hbw (by simp; omega)) (by simp; omega)).drew, ansB_plain (by simp) (by simp)⟩
    by_cases k4 : s0 = 4
    · subst k4
      clear k0 k1 k2 k3
      go_wp2
      go_meet
      exact ⟨bel_ents HL.out hbw (by simp; omega), HM.out.setVal _, bel_set hbw (by simp; omega), ansB_plain (by simp) (by simp)⟩
    by_cases k5 : s0 = 5
    · subst k5
      clear k0 k1 k2 k3 k4
      go_wp2
      go_meet
      exact ⟨EntS.nil _, HM.out, hbw, ansB_plain (by simp) (by simp)⟩
    by_cases k6 : s0 = 6
    · subst k6
      clear k0 k1 k2 k3 k4 k5
      by_cases hl0 : 0 < l.length
      · cases r3
        · exact absurd ⟨rfl, rfl, hl0⟩ HPOP.out
        · have e6 : Pl.ansList ⟨r0, r1, r2, true, r4, r5⟩ l ⟨6, s1, s2, sl'⟩ ⟨ok, val, kl, vl⟩ = l := by simp [Pl.ansList]
          have HE6 := Lib.hid e6; clear e6
          go_wp2
          go_meet
          exact ⟨by rw [HE6.out]; exact HL.out.bel hbw, HM.out, hbw, ansB_plain (fun _ h => by cases h.1) (by simp)⟩
      · have e6 : Pl.ansList ⟨r0, r1, r2, r3, r4, r5⟩ l ⟨6, s1, s2, sl'⟩ ⟨ok, val, kl, vl⟩ = l := by simp [Pl.ansList]; intro _ h2; exact absurd h2 hl0
        have HE6 := Lib.hid e6; clear e6
        have HC := Lib.hid hl0
        cases r3
        all_goals
          go_wp2
          go_meet
          exact ⟨by rw [HE6.out]; exact HL.out.bel hbw, HM.out, hbw, ansB_plain (fun _ h => HC.out h.2) (by simp)⟩
    by_cases k7 : s0 = 7
    · subst k7
      clear k0 k1 k2 k3 k4 k5 k6
      have e7 : Pl.ansList ⟨r0, r1, r2, r3, r4, r5⟩ l ⟨7, s1, s2, sl'⟩ ⟨ok, val, kl, vl⟩ = l ∧ Pl.ansB ⟨r0, r1, r2, r3, r4, r5⟩ l ⟨7, s1, s2, sl'⟩ ⟨ok, val, kl, vl⟩ = Pl.allB ⟨r0, r1, r2, r3, r4, r5⟩ l ⟨ok, val, kl, vl⟩ := ⟨by simp [Pl.ansList], by simp [Pl.ansB]⟩
      have HE7 := Lib.hid e7; clear e7
      go_wp2_with fail
      refine (all_any ⟨r0, r1, r2, r3, r4, r5⟩ _ _ l ⟨ok, val, kl, vl⟩ _ (HL.out.bel hbw) ⟨_, _, rfl, HK.out.bel hbw, HX.out.bel hbw⟩ (by omega) hk hv).mono ?_
      rintro e w2 ⟨rfl, hb2⟩
      go_wp2
      go_ret2
      refine ⟨.slice la l.length lc, ?_, ?_, hbw.trans hb2⟩
      · rw [HE7.out.2]; rfl
      · rw [HE7.out.1]; exact HL.out.bel (hbw.trans hb2)
    by_cases k8 : s0 = 8
    · subst k8
      clear k0 k1 k2 k3 k4 k5 k6 k7
      obtain ⟨sa, sc, rfl, hsc, hsm, hSI⟩ := HSL.out
      have HSI := Lib.hid hSI; clear hSI
      go_wp2
      go_loopw [1, 130] (fun v i wr => ∃ j : Nat, j ≤ sl'.length ∧ i = .int .i64 j ∧ EntS wr v (if r3 = true then l else Pl.putAll l (sl'.take j)) ∧ Bel w1 wr) (fun _ i _ => sl'.length - (intOf i).toNat)
      case atStart => exact ⟨0, Nat.zero_le _, rfl, by simpa [Pl.putAll] using HL.out.bel hbw, Bel.refl w1⟩
      case round =>
        obtain ⟨j, hj, rfl, hE, hbel⟩ := hrel
        have HE := Lib.hid hE; clear hE
        by_cases hlt : j < sl'.length
        · obtain ⟨b, o, rfl, hcell⟩ := HSI.out (by omega)
          obtain ⟨x, hx⟩ : ∃ x, sl'[j]? = some x := ⟨_, List.getElem?_eq_getElem hlt⟩
          have hc0 := (hbw.trans hbel).cell (hcell j x hx)
          have hr3 := hbel.cell cr3
          have HX1 : Hid (sl'.take (j + 1) = sl'.take j ++ [x]) := Lib.hid (by rw [List.take_add_one, hx]; rfl)
          clear hcell hx
          cases r3
          · have hsl : sl'.length ≤ 1000 := by rcases HSLL.out with h | h; cases h; exact h
            have hpl := Pl.putAll_length l (sl'.take j)
            rw [List.length_take] at hpl
            go_wp2_with (go_at_call 20; refine (put_ents _ (Pl.putAll l (sl'.take j)) x 0 _ HE.out (by omega)).mono ?_; rintro e w2 ⟨u2, rfl, hE2, hb2⟩; have HE2 := Lib.hid hE2; clear hE2)
            go_roundw
            case rel => exact ⟨j + 1, by omega, by go_num, by rw [HX1.out]; simpa [Pl.putAll] using HE2.out, hbel.trans hb2⟩
            case measure => simp [intOf]; omega
          · go_wp2
            go_roundw
            case rel => exact ⟨j + 1, by omega, by go_num, HE.out, hbel⟩
            case measure => simp [intOf]; omega
        · go_wp2
          go_meet
          obtain rfl : j = sl'.length := by omega
          refine ⟨?_, HM.out.bel hbel, hbw.trans hbel, ansB_plain (by simp) (by simp)⟩
          have := HE.out
          rw [List.take_of_length_le (Nat.le_refl _)] at this
          simpa [Pl.ansList] using this
    by_cases k9 : s0 = 9
    · subst k9
      clear k0 k1 k2 k3 k4 k5 k6 k7 k8
      go_wp2
      go_meet
      exact ⟨bel_ents HL.out hbw (by simp; omega), HM.out.setVal _, bel_set hbw (by simp; omega), ansB_plain (by simp) (by simp)⟩
    have HQ := Lib.hid (show Pl.ansList ⟨r0, r1, r2, r3, r4, r5⟩ l ⟨s0, s1, s2, sl'⟩ ⟨ok, val, kl, vl⟩ = l ∧ Pl.dueOk ⟨r0, r1, r2, r3, r4, r5⟩ l ⟨s0, s1, s2, sl'⟩ = false ∧ Pl.dueVal ⟨r0, r1, r2, r3, r4, r5⟩ l ⟨s0, s1, s2, sl'⟩ = 0 ∧ s0 ≠ 6 ∧ s0 ≠ 7 by simp [Pl.ansList, Pl.dueOk, Pl.dueVal, k0, k1, k2, k3, k4, k5, k6, k7, k8, k9])
    have q0 : (s0 == 0) = false := by simpa using k0
    have q1 : (s0 == 1) = false := by simpa using k1
    have q2 : (s0 == 2) = false := by simpa using k2
    have q3 : (s0 == 3) = false := by simpa using k3
    have q4 : (s0 == 4) = false := by simpa using k4
    have q5 : (s0 == 5) = false := by simpa using k5
    have q6 : (s0 == 6) = false := by simpa using k6
    have q7 : (s0 == 7) = false := by simpa using k7
    have q8 : (s0 == 8) = false := by simpa using k8
    have q9 : (s0 == 9) = false := by simpa using k9
    clear k0 k1 k2 k3 k4 k5 k6 k7 k8 k9
    go_wp2
    go_meet
    refine ⟨?_, ?_, hbw, ansB_plain (fun h => absurd h HQ.out.2.2.2.1) HQ.out.2.2.2.2⟩
    · rw [HQ.out.1]; exact HL.out.bel hbw
    · rw [HQ.out.2.1, HQ.out.2.2.1]; exact HM.out
  case rest =>
    obtain ⟨hE, hM, hbc, hans⟩ := hcut
    clear cr0 cr1 cr2 cr3 cr4 cr5 cs0 cs1 cs2 cs3 cg0 cg1 cg2 cg3 cd0 cd1 fd0 fd1 HM hbw HG HL HSL
    obtain ⟨_, _, ⟨cg0, cg1, cg2, cg3⟩, ⟨cd0, cd1, _, _⟩⟩ := hM.cells
    have HE := Lib.hid hE; clear hE
    clear hM
    obtain ⟨ka, kc, rfl, _, _, _⟩ := HK.out
    obtain ⟨va, vc, rfl, _, _, _⟩ := HX.out
    have HANS := Lib.hid hans; clear hans
    have HN : Hid (Pl.none0 ⟨ok, val, kl, vl⟩ = decide (kl.length + vl.length = 0)) := Lib.hid rfl
    clear HK HX
    generalize Pl.dueOk ⟨r0, r1, r2, r3, r4, r5⟩ l ⟨s0, s1, s2, sl'⟩ = dok at *
    generalize Pl.dueVal ⟨r0, r1, r2, r3, r4, r5⟩ l ⟨s0, s1, s2, sl'⟩ = dv at *
    simp only at cg0 cg1 cg2 cg3 cd0 cd1
    have m1 : IntKind.i64.wrap ((kl.length : Int) + (vl.length : Int)) = (kl.length : Int) + (vl.length : Int) := IntWalk.i64_in _ (by omega)
    by_cases hq1 : (ok == dok) = true
    · obtain rfl : ok = dok := by simpa using hq1
      clear hq1
      have hq1 : (ok == ok) = true := by simp
      by_cases hq2 : (val == dv) = true
      · obtain rfl : val = dv := by simpa using hq2
        cases hq3 : ((kl.length : Int) + (vl.length : Int) == 0)
        all_goals
          have HQ : Hid (Pl.ansB ⟨r0, r1, r2, r3, r4, r5⟩ l ⟨s0, s1, s2, sl'⟩ ⟨ok, val, kl, vl⟩ = _) := Lib.hid (by rw [HANS.out, HN.out, len_zero, hq3, hq1, decide_eq_true (rfl : val = val)])
          go_wp2_with fail
          go_quiet (fail)
          go_wp2
          go_ret2
          exact ⟨_, by rw [HQ.out]; rfl, HE.out.bel ((Bel.refl _).drewN _), hbc.drewN _⟩
      · have hq2 : (val == dv) = false := by simpa using hq2
        have HQ : Hid (Pl.ansB ⟨r0, r1, r2, r3, r4, r5⟩ l ⟨s0, s1, s2, sl'⟩ ⟨ok, val, kl, vl⟩ = false) := Lib.hid (by rw [HANS.out, show decide (val = dv) = false from by simpa using hq2]; simp)
        go_wp2_with fail
        go_quiet (fail)
        go_wp2
        go_ret2
        exact ⟨_, by rw [HQ.out]; rfl, HE.out.bel ((Bel.refl _).drewN _), hbc.drewN _⟩
    · have hq1 : (ok == dok) = false := by simpa using hq1
      have HQ : Hid (Pl.ansB ⟨r0, r1, r2, r3, r4, r5⟩ l ⟨s0, s1, s2, sl'⟩ ⟨ok, val, kl, vl⟩ = false) := Lib.hid (by rw [HANS.out, hq1]; simp)
      go_wp2_with fail
      go_quiet (fail)
      go_wp2
      go_ret2
      exact ⟨_, by rw [HQ.out]; rfl, HE.out.bel ((Bel.refl _).drewN _), hbc.drewN _⟩

/-- A right answer. -/
theorem answers_right' (r : Pl.RulesD) (lv sv gv : Value) (l : List Pl.Ent) (S : Pl.StepD) (A : Pl.Ans) (w : World) (hl : EntS w lv l) (hs : StepV w sv S) (hg : AnsV w gv A)
    (hn : l.length ≤ 500000) (hsl : r.values = true ∨ S.list.length ≤ 1000) (hk : A.keys.length ≤ 1000000) (hv : A.vals.length ≤ 1000000) (hA : Pl.ansB r l S A = true) :
    Calls Try.prog 35 #[rulesV r, lv, sv, gv] w (AnsPost w (Pl.ansList r l S A) true) := by
  rw [← hA]
  by_cases hpop : S.kind = 6 ∧ r.values = false ∧ 0 < l.length
  · have h := hA
    unfold Pl.ansB at h
    rw [if_pos hpop] at h
    simp only [Bool.and_eq_true] at h
    exact answers_pop r lv sv gv l S A w hl hs hg hn hk hv hpop.1 hpop.2.1 hpop.2.2 h.1.1 h.1.2
  · exact answers_rest r lv sv gv l S A w hl hs hg hn hsl hk hv hpop
theorem answers_right (r : Pl.RulesD) (lv sv gv : Value) (l : List Pl.Ent) (S : Pl.StepD) (A : Pl.Ans) (w : World) (hl : EntS w lv l) (hs : StepV w sv S) (hg : AnsV w gv A)
    (hn : l.length ≤ 500000) (hsl : S.list.length ≤ 1000) (hk : A.keys.length ≤ 1000000) (hv : A.vals.length ≤ 1000000) (hA : Pl.ansB r l S A = true) :
    Calls Try.prog 35 #[rulesV r, lv, sv, gv] w (AnsPost w (Pl.ansList r l S A) true) := answers_right' r lv sv gv l S A w hl hs hg hn (.inr hsl) hk hv hA
end Go.Proofs.Ytdmjcgipfkhibaa
