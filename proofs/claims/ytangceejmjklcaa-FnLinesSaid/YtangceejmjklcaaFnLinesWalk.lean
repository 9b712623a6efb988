/- The walk of FnLines. -/
import Derived.Test.YtangceejmjklcaaLn13
import Derived.Test.YtangceejmjklcaaLsP
import Derived.BigQuiet
namespace Go.Proofs.Ytangceejmjklcaa
open Go.RowKit Go.BigFrame

set_option maxRecDepth 100000 in
set_option maxHeartbeats 8000000 in
theorem law_FnLines (w : World) (a1 : Option Addr) (n1 c1 : Nat) (R : List Pl.Ent) (hR : Ents w a1 n1 R) (_nc1 : n1 ≤ c1) (_cm1 : c1 ≤ maxLen) (a2 : Option Addr) (n2 c2 : Nat) (S : List Pl.LStep) (hS : LSt w a2 n2 S) (_nc2 : n2 ≤ c2) (_cm2 : c2 ≤ maxLen) :
    Calls Try.prog 3 #[.slice a1 n1 c1, .slice a2 n2 c2] w fun e w' => e = .returned (.bool true) ∧ Bel w w' := by
  by_cases hz1 : 2147483647 < n1
  · go_enter Try.func3, Try.ntmps3
    go_wp2
    go_ret
    exact ⟨rfl, Bel.refl w⟩
  by_cases hz2 : 2147483647 < n2
  · go_enter Try.func3, Try.ntmps3
    go_wp2
    go_ret
    exact ⟨rfl, Bel.refl w⟩
  have HR := Lib.hid hR; clear hR
  have HS := Lib.hid hS; clear hS
  go_enter Try.func3, Try.ntmps3
  go_wp2_with fail
  refine (known_any a1 n1 c1 R a2 n2 c2 S w HR.out HS.out).mono ?_
  rintro e w1 ⟨b1, rfl, hQ, hb1⟩
  cases b1
  · clear hQ
    go_wp2
    go_ret
    exact ⟨rfl, hb1⟩
  have HQ := Lib.hid (hQ rfl); clear hQ
  have hr1 := HR.out.1
  have hs1 := HS.out.1
  have hn1 : n1 ≤ 20 := by have := HQ.out.nr; omega
  have hn2 : n2 ≤ 500 := by have := HQ.out.ns; omega
  have HLI := Lib.hid (lines_any a1 n1 c1 R a2 n2 c2 S w1 ⟨hr1, fun h => by obtain ⟨b, o, ha, hc⟩ := HR.out.2 h; exact ⟨b, o, ha, fun i e he => ⟨hb1.cell (hc i e he).1, hb1.cell (hc i e he).2⟩⟩⟩ (HS.out.bel hb1) HQ.out.ro (fun s hs => by rw [← hr1]; exact (HQ.out.so s hs).1) hn1 (by omega))
  have HRS := Lib.hid (And.intro hr1 hs1)
  clear hr1 hs1
  go_wp2_with fail
  refine HLI.out.mono ?_
  rintro e w2 ⟨v, A, rfl, hA, hRun, hb2⟩
  rw [← HRS.out.1] at hRun
  have HB2 := Lib.hid (hb1.trans hb2)
  have HRUN := Lib.hid hRun
  have hAl : A.length = n2 := by rw [hRun.1, HRS.out.2]
  obtain ⟨x, c, rfl, hc1, hc2, hAc⟩ := hA
  have HA := Lib.hid hAc
  rw [hAl] at hc1 ⊢
  have HAL := Lib.hid hAl
  clear hb1 hb2 hRun hAc HLI hAl
  have HL0 : Hid (LnO (w2.alloc (.cells #[] 37)) (.slice (some ⟨w2.heap.size, 0, none⟩) 0 0) (runL (fsOf R) (lsOf R) S 0) ∧ Bel w (w2.alloc (.cells #[] 37)) ∧ Bel w2 (w2.alloc (.cells #[] 37))) := Lib.hid
    ⟨⟨w2.heap.size, owns_empty w2 w2.heap.size _ 3 _ rfl (Nat.le_refl _)⟩, HB2.out.alloc _, (Bel.refl w2).alloc _⟩
  go_wp2
  generalize w2.alloc (.cells #[] 37) = w3 at HL0 ⊢
  go_loopw [6, 33] (fun vl i wr => ∃ j : Nat, j ≤ n2 ∧ i = .int .i64 j ∧ LnO wr vl (runL (fsOf R) (lsOf R) S j) ∧ Bel w wr ∧ Bel w2 wr) (fun _ i _ => n2 - (intOf i).toNat)
  case atStart => exact ⟨0, Nat.zero_le _, rfl, HL0.out⟩
  case round =>
    obtain ⟨j, hj, rfl, hL, hbel, hb2⟩ := hrel
    have HL := Lib.hid hL; clear hL HL0
    have HBE := Lib.hid (And.intro hbel hb2)
    by_cases hlt : j < n2
    · obtain ⟨b2, o2, rfl, hcell⟩ := HS.out.2 (by omega)
      obtain ⟨s, hsk⟩ : ∃ s, S[j]? = some s := ⟨_, List.getElem?_eq_getElem (by rw [HRS.out.2]; exact hlt)⟩
      obtain ⟨a, hak⟩ : ∃ a, A[j]? = some a := ⟨_, List.getElem?_eq_getElem (by rw [HAL.out]; exact hlt)⟩
      have HP := Lib.hid (run_ans HQ.out.ro HQ.out.so HRUN.out hsk hak)
      have hst := (HQ.out.so s (List.mem_of_getElem? hsk)).1
      have HSU := Lib.hid (runL_succ (fsOf R) (lsOf R) hsk)
      have hll := runL_length (fsOf R) (lsOf R) S j
      obtain ⟨t0, t1, t2, t3, t4⟩ := hcell j s hsk
      replace t0 := hbel.cell t0
      replace t1 := hbel.cell t1
      replace t2 := hbel.cell t2
      replace t3 := hbel.cell t3
      replace t4 := hbel.cell t4
      obtain ⟨ab, rfl, hac⟩ := HA.out (by rw [HAL.out]; omega)
      obtain ⟨u1, u2, u3, g0, g1, g2, g3, g4, hi1, hi2, hi3⟩ := hac j a hak
      have HG := Lib.hid (And.intro g0 (And.intro g1 (And.intro g2 (And.intro g3 g4))))
      have HI := Lib.hid (And.intro hi1 (And.intro hi2 hi3))
      clear hsk hak hcell hac g0 g1 g2 g3 g4 hi1 hi2 hi3
      obtain ⟨kd, fl, ln, co, va⟩ := s
      have hf0 := hst.f0
      have hf1 := hst.f1
      clear hst
      simp only at t0 t1 t2 t3 t4 hf0 hf1
      obtain ⟨i, rfl⟩ : ∃ i : Nat, fl = i := ⟨fl.toNat, by omega⟩
      have hin : i < n1 := by have := HRS.out.1; omega
      clear hf0 hf1
      have hba : Bel wr (wr.alloc (.cells #[.int .i64 kd, .int .i64 (i : Int), .int .i64 ln, .int .i64 co, .int .i64 va] 29)) := (Bel.refl wr).alloc _
      have hBs := Blk.new wr 29 [.int .i64 kd, .int .i64 (i : Int), .int .i64 ln, .int .i64 co, .int .i64 va]
      change Blk (wr.alloc (.cells #[.int .i64 kd, .int .i64 (i : Int), .int .i64 ln, .int .i64 co, .int .i64 va] 29)) _ _ _ at hBs
      have HBS := Lib.hid (And.intro hBs (And.intro (hbel.trans hba) (hb2.trans hba)))
      have HL2 := Lib.hid (HL.out.bel hba)
      clear hBs hba hbel hb2 HL
      generalize hll2 : runL (fsOf R) (lsOf R) S j = L at HL2 HP HSU hll
      have HLL := Lib.hid hll2; clear hll2
      by_cases k7 : kd = 7
      · have e7 : (kd == 7) = true := by simp [k7]
        have K7 := Lib.hid k7; clear k7
        go_upto_region 13 with (fail)
        generalize wr.alloc (.cells #[.int .i64 kd, .int .i64 (i : Int), .int .i64 ln, .int .i64 co, .int .i64 va] 29) = w4 at HBS HL2 ⊢
        have hok : a.ok = false := by rw [HP.out.ok]; simp [Pl.specOk, K7.out]
        have hval : a.val = 0 := by rw [HP.out.val]; simp [Pl.specVal, K7.out]
        have HSQ : Hid (SameQ L a.files a.lines a.vals) := Lib.hid (by
          obtain ⟨T, hT, hf, hl, hv⟩ := HP.out.all K7.out
          rw [hf, hl, hv]
          refine sameQ_perm hT ?_
          rw [← HLL.out]
          exact (run_KL HQ.out.ro HQ.out.so j).nd)
        have HLN : Hid (runL (fsOf R) (lsOf R) S (j + 1) = L) := Lib.hid (by rw [HSU.out]; simp [Pl.specL, K7.out])
        have hg := HG.out
        rw [hok, hval] at hg
        have HG7 := Lib.hid hg
        have c0 := HBS.out.2.2.cell HG7.out.1
        have c1' := HBS.out.2.2.cell HG7.out.2.1
        have c2' := HBS.out.2.2.cell HG7.out.2.2.1
        have c3' := HBS.out.2.2.cell HG7.out.2.2.2.1
        have c4' := HBS.out.2.2.cell HG7.out.2.2.2.2
        have HSL := Lib.hid (sameLines_right u6 L (.bool false) (.int .i64 0) u1 u2 u3 a.files a.lines a.vals w4 HL2.out.toS (HI.out.1.bel HBS.out.2.2) (HI.out.2.1.bel HBS.out.2.2) (HI.out.2.2.bel HBS.out.2.2) HSQ.out)
        clear hok hval hg t0 t1 t2 t3 t4
        go_wp2_with fail
        refine HSL.out.mono ?_
        rintro ex w5 ⟨rfl, hb5⟩
        have HE5 : Hid (LnO w5 u6 L ∧ Bel w w5 ∧ Bel w2 w5) := Lib.hid ⟨HL2.out.bel hb5, HBS.out.2.1.trans hb5, HBS.out.2.2.trans hb5⟩
        clear c0 c1' c2' c3' c4' hb5
        have c0 := HE5.out.2.2.cell HG7.out.1
        have c1' := HE5.out.2.2.cell HG7.out.2.1
        clear HSL HSQ
        go_wp2
        go_roundw
        case rel => exact ⟨j + 1, by omega, by go_num, by rw [HLN.out]; exact HE5.out.1, HE5.out.2⟩
        case measure => simp [intOf]; omega
      · have e7 : (kd == 7) = false := by simp [k7]
        have K7 := Lib.hid k7; clear k7
        have hb4 : Bel (wr.alloc (.cells #[.int .i64 kd, .int .i64 (i : Int), .int .i64 ln, .int .i64 co, .int .i64 va] 29)) ((wr.alloc (.cells #[.int .i64 kd, .int .i64 (i : Int), .int .i64 ln, .int .i64 co, .int .i64 va] 29)).alloc (.cells #[.bool false, .int .i64 0, .slice none 0 0, .slice none 0 0, .slice none 0 0] 33)) := (Bel.refl _).alloc _
        have hBD := Blk.new (wr.alloc (.cells #[.int .i64 kd, .int .i64 (i : Int), .int .i64 ln, .int .i64 co, .int .i64 va] 29)) 33 [.bool false, .int .i64 0, .slice none 0 0, .slice none 0 0, .slice none 0 0]
        rw [World.size_alloc] at hBD
        change Blk ((wr.alloc (.cells #[.int .i64 kd, .int .i64 (i : Int), .int .i64 ln, .int .i64 co, .int .i64 va] 29)).alloc (.cells #[.bool false, .int .i64 0, .slice none 0 0, .slice none 0 0, .slice none 0 0] 33)) _ _ _ at hBD
        have HW4 : Hid (Blk ((wr.alloc (.cells #[.int .i64 kd, .int .i64 (i : Int), .int .i64 ln, .int .i64 co, .int .i64 va] 29)).alloc (.cells #[.bool false, .int .i64 0, .slice none 0 0, .slice none 0 0, .slice none 0 0] 33)) wr.heap.size 29 [.int .i64 kd, .int .i64 (i : Int), .int .i64 ln, .int .i64 co, .int .i64 va] ∧ Blk ((wr.alloc (.cells #[.int .i64 kd, .int .i64 (i : Int), .int .i64 ln, .int .i64 co, .int .i64 va] 29)).alloc (.cells #[.bool false, .int .i64 0, .slice none 0 0, .slice none 0 0, .slice none 0 0] 33)) (wr.heap.size + 1) 33 [.bool false, .int .i64 0, .slice none 0 0, .slice none 0 0, .slice none 0 0] ∧ LnO ((wr.alloc (.cells #[.int .i64 kd, .int .i64 (i : Int), .int .i64 ln, .int .i64 co, .int .i64 va] 29)).alloc (.cells #[.bool false, .int .i64 0, .slice none 0 0, .slice none 0 0, .slice none 0 0] 33)) u6 L ∧ Bel w ((wr.alloc (.cells #[.int .i64 kd, .int .i64 (i : Int), .int .i64 ln, .int .i64 co, .int .i64 va] 29)).alloc (.cells #[.bool false, .int .i64 0, .slice none 0 0, .slice none 0 0, .slice none 0 0] 33)) ∧ Bel w2 ((wr.alloc (.cells #[.int .i64 kd, .int .i64 (i : Int), .int .i64 ln, .int .i64 co, .int .i64 va] 29)).alloc (.cells #[.bool false, .int .i64 0, .slice none 0 0, .slice none 0 0, .slice none 0 0] 33))) := Lib.hid
          ⟨HBS.out.1.bel hb4, hBD, HL2.out.bel hb4, HBS.out.2.1.trans hb4, HBS.out.2.2.trans hb4⟩
        clear hb4 hBD HBS HL2
        go_upto_region 16 with (fail)
        generalize (wr.alloc (.cells #[.int .i64 kd, .int .i64 (i : Int), .int .i64 ln, .int .i64 co, .int .i64 va] 29)).alloc (.cells #[.bool false, .int .i64 0, .slice none 0 0, .slice none 0 0, .slice none 0 0] 33) = w4 at HW4 ⊢
        generalize hbs : wr.heap.size = bs at HW4 ⊢
        have HBSZ := Lib.hid hbs; clear hbs t0 t1 t2 t3 t4
        have s0 : w4.cell? ⟨bs, 0, none⟩ = some (.int .i64 kd) := HW4.out.1.cell 0
        have s1 : w4.cell? ⟨bs, 1, none⟩ = some (.int .i64 (i : Int)) := HW4.out.1.cell 1
        have s2 : w4.cell? ⟨bs, 2, none⟩ = some (.int .i64 ln) := HW4.out.1.cell 2
        have s3 : w4.cell? ⟨bs, 3, none⟩ = some (.int .i64 co) := HW4.out.1.cell 3
        have s4 : w4.cell? ⟨bs, 4, none⟩ = some (.int .i64 va) := HW4.out.1.cell 4
        have HR4 : Hid (Ents w4 a1 n1 R) := Lib.hid (HR.out.bel HW4.out.2.2.2.1)
        have HST := Lib.hid (specStep_any (co := co) (va := va) (ln := ln) (kd := kd) (c1 := c1) HW4.out.2.2.1 (by omega) HR4.out hin)
        go_wp2_with fail
        refine HST.out.mono ?_
        rintro ex w5 ⟨vl, rfl, hL5, hb5⟩
        have HW5 : Hid (Blk w5 (bs + 1) 33 [.bool false, .int .i64 0, .slice none 0 0, .slice none 0 0, .slice none 0 0] ∧ LnO w5 vl (runL (fsOf R) (lsOf R) S (j + 1)) ∧ Bel w w5 ∧ Bel w2 w5) := Lib.hid ⟨HW4.out.2.1.bel hb5, by rw [HSU.out]; exact hL5, HW4.out.2.2.2.1.trans hb5, HW4.out.2.2.2.2.trans hb5⟩
        clear s0 s1 s2 s3 s4 hL5 hb5 HST HW4 HR4
        generalize hsk : Pl.specOk L ⟨kd, (i : Int), ln, co, va⟩ = sk
        generalize hsv : Pl.specVal L ⟨kd, (i : Int), ln, co, va⟩ = sv
        have haok : a.ok = sk := by rw [HP.out.ok, hsk]
        have haval : a.val = sv := by rw [HP.out.val, hsv]
        have hafl : a.files = [] := HP.out.files K7.out
        have hg := HG.out
        rw [haok, haval] at hg
        have HG8 := Lib.hid hg
        have hi1 := HI.out.1
        rw [hafl] at hi1
        obtain ⟨fa, fc, rfl, _, _, _⟩ := hi1
        have HSV := Lib.hid (And.intro hsk hsv)
        clear hg haok haval hafl hsk hsv
        have m0 : w5.cell? ⟨bs + 1, 0, none⟩ = some (.bool false) := HW5.out.1.cell 0
        have m1 : w5.cell? ⟨bs + 1, 1, none⟩ = some (.int .i64 0) := HW5.out.1.cell 1
        have m2 : w5.cell? ⟨bs + 1, 2, none⟩ = some (.slice none 0 0) := HW5.out.1.cell 2
        have m3 : w5.cell? ⟨bs + 1, 3, none⟩ = some (.slice none 0 0) := HW5.out.1.cell 3
        have m4 : w5.cell? ⟨bs + 1, 4, none⟩ = some (.slice none 0 0) := HW5.out.1.cell 4
        have f0 := HW5.out.1.frozen 0
        have f1 := HW5.out.1.frozen 1
        have f2 := HW5.out.1.frozen 2
        have f3 := HW5.out.1.frozen 3
        have f4 := HW5.out.1.frozen 4
        go_upto_region 17 with (fail)
        have HF := Lib.hid (five HW5.out.1 (.bool sk) (.int .i64 sv) (.slice none 0 0) (.slice none 0 0) (.slice none 0 0))
        have HW6 : Hid (LnO (((((w5.setCell ⟨bs + 1, 0, none⟩ (.bool sk)).setCell ⟨bs + 1, 1, none⟩ (.int .i64 sv)).setCell ⟨bs + 1, 2, none⟩ (.slice none 0 0)).setCell ⟨bs + 1, 3, none⟩ (.slice none 0 0)).setCell ⟨bs + 1, 4, none⟩ (.slice none 0 0)) vl (runL (fsOf R) (lsOf R) S (j + 1)) ∧ Bel w (((((w5.setCell ⟨bs + 1, 0, none⟩ (.bool sk)).setCell ⟨bs + 1, 1, none⟩ (.int .i64 sv)).setCell ⟨bs + 1, 2, none⟩ (.slice none 0 0)).setCell ⟨bs + 1, 3, none⟩ (.slice none 0 0)).setCell ⟨bs + 1, 4, none⟩ (.slice none 0 0)) ∧ Bel w2 (((((w5.setCell ⟨bs + 1, 0, none⟩ (.bool sk)).setCell ⟨bs + 1, 1, none⟩ (.int .i64 sv)).setCell ⟨bs + 1, 2, none⟩ (.slice none 0 0)).setCell ⟨bs + 1, 3, none⟩ (.slice none 0 0)).setCell ⟨bs + 1, 4, none⟩ (.slice none 0 0))) := Lib.hid ⟨HW5.out.2.1.kt HF.out.2.2 (by decide), HW5.out.2.2.1.kt HF.out.2.2 (by have h1 := HBE.out.1.size; have h2 := HBSZ.out; omega), HW5.out.2.2.2.kt HF.out.2.2 (by have h1 := HBE.out.2.size; have h2 := HBSZ.out; omega)⟩
        generalize (((((w5.setCell ⟨bs + 1, 0, none⟩ (.bool sk)).setCell ⟨bs + 1, 1, none⟩ (.int .i64 sv)).setCell ⟨bs + 1, 2, none⟩ (.slice none 0 0)).setCell ⟨bs + 1, 3, none⟩ (.slice none 0 0)).setCell ⟨bs + 1, 4, none⟩ (.slice none 0 0)) = w6 at HF HW6 ⊢
        clear m0 m1 m2 m3 m4 f0 f1 f2 f3 f4
        have m0 : w6.cell? ⟨bs + 1, 0, none⟩ = some (.bool sk) := HF.out.1.cell 0
        have m1 : w6.cell? ⟨bs + 1, 1, none⟩ = some (.int .i64 sv) := HF.out.1.cell 1
        have g0 := HW6.out.2.2.cell HG8.out.1
        have g1 := HW6.out.2.2.cell HG8.out.2.1
        have g2 := HW6.out.2.2.cell HG8.out.2.2.1
        have j0 : (0 : Int) ≤ (j : Int) := by omega
        have j1 : (j : Int) < (n2 : Int) := by omega
        have q1 : (sk != sk) = false := by simp
        have q2 : (sv != sv) = false := by simp
        go_quiet (fail)
        have HW7 : Hid (LnO (w6.drewN nq) vl (runL (fsOf R) (lsOf R) S (j + 1)) ∧ Bel w (w6.drewN nq) ∧ Bel w2 (w6.drewN nq)) := Lib.hid ⟨HW6.out.1.bel ((Bel.refl w6).drewN nq), HW6.out.2.1.drewN nq, HW6.out.2.2.drewN nq⟩
        generalize w6.drewN nq = w7 at HW7 ⊢
        clear m0 m1 g0 g1 g2 j0 j1 q1 q2 HF HW6 HW5
        go_wp2
        go_roundw
        case rel => exact ⟨j + 1, by omega, by go_num, HW7.out⟩
        case measure => simp [intOf]; omega
    · clear hbel hb2
      go_wp2
      go_ret
      exact ⟨rfl, HBE.out.1⟩
end Go.Proofs.Ytangceejmjklcaa
