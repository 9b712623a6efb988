/- spec.LineStep: the other kinds. -/
import Derived.Test.YtangceejmjklcaaLs5
import Derived.BigRegion
namespace Go.Proofs.Ytangceejmjklcaa
open Go.RowKit Go.BigFrame

set_option maxRecDepth 100000 in
set_option maxHeartbeats 4000000 in
theorem spec_3a {w : World} {v : Value} {l : List Pl.LnE} (h : LnO w v l) (_hn : l.length ≤ 100000) {a1 : Option Addr} {n1 c1 : Nat} {R : List Pl.Ent} (hR : Ents w a1 n1 R) {kd ln co va : Int} {i : Nat} (hi : i < n1) (hk : kd = 3) {k : Nat} (hfl : Pl.findL l (i : Int) ln = some k) {ex0 : Pl.LnE} (hkx : l[k]? = some ex0) {xv : Int} (hxe : xv = ex0.val) (hxv : (l.getD k ⟨0, 0, 0⟩).val = xv) :
    Calls Try.prog 11 #[v, .slice a1 n1 c1, .agg #[.int .i64 kd, .int .i64 (i : Int), .int .i64 ln, .int .i64 co, .int .i64 va]] w (SpTo w R l ⟨kd, (i : Int), ln, co, va⟩) := by
  obtain ⟨b, o, rfl, hcell⟩ := hR.2 (by omega)
  obtain ⟨e, he⟩ : ∃ e, R[i]? = some e := ⟨_, List.getElem?_eq_getElem (by rw [hR.1]; exact hi)⟩
  obtain ⟨d0, d1⟩ := hcell i e he
  have HF : Hid (fsOf R i = e.1 ∧ lsOf R i = e.2) := Lib.hid (by
    unfold fsOf lsOf
    rw [List.getD_eq_getElem?_getD, he]
    exact ⟨rfl, rfl⟩)
  clear hcell he hR
  obtain ⟨f, la⟩ := e
  simp only at d0 d1 HF
  have HV := Lib.hid h
  obtain ⟨x, y, rfl, _, _, hE⟩ := h.toS
  have HE := Lib.hid hE; clear hE
  have hb0 : Bel w ((w.alloc (.cells #[.int .i64 kd, .int .i64 (i : Int), .int .i64 ln, .int .i64 co, .int .i64 va] 29)).alloc (.cells #[.bool false, .int .i64 0, .slice none 0 0, .slice none 0 0, .slice none 0 0] 33)) := ((Bel.refl w).alloc _).alloc _
  replace d0 := hb0.cell d0
  replace d1 := hb0.cell d1
  clear hb0
  have hb1 : Bel w (((w.alloc (.cells #[.int .i64 kd, .int .i64 (i : Int), .int .i64 ln, .int .i64 co, .int .i64 va] 29)).alloc (.cells #[.bool false, .int .i64 0, .slice none 0 0, .slice none 0 0, .slice none 0 0] 33)).alloc (.cells #[.int .i64 f, .int .i64 la] 40)) := (((Bel.refl w).alloc _).alloc _).alloc _
  have hB0 : Blk (((w.alloc (.cells #[.int .i64 kd, .int .i64 (i : Int), .int .i64 ln, .int .i64 co, .int .i64 va] 29)).alloc (.cells #[.bool false, .int .i64 0, .slice none 0 0, .slice none 0 0, .slice none 0 0] 33)).alloc (.cells #[.int .i64 f, .int .i64 la] 40)) w.heap.size 29 [.int .i64 kd, .int .i64 (i : Int), .int .i64 ln, .int .i64 co, .int .i64 va] := ((Blk.new w _ [_, _, _, _, _]).alloc _).alloc _
  have hB1 : Blk (((w.alloc (.cells #[.int .i64 kd, .int .i64 (i : Int), .int .i64 ln, .int .i64 co, .int .i64 va] 29)).alloc (.cells #[.bool false, .int .i64 0, .slice none 0 0, .slice none 0 0, .slice none 0 0] 33)).alloc (.cells #[.int .i64 f, .int .i64 la] 40)) (w.heap.size + 1) 33 [.bool false, .int .i64 0, .slice none 0 0, .slice none 0 0, .slice none 0 0] := by
    have := (Blk.new (w.alloc (.cells #[.int .i64 kd, .int .i64 (i : Int), .int .i64 ln, .int .i64 co, .int .i64 va] 29)) 33 [.bool false, .int .i64 0, .slice none 0 0, .slice none 0 0, .slice none 0 0]).alloc (.cells #[.int .i64 f, .int .i64 la] 40)
    rwa [World.size_alloc] at this
  have HW := Lib.hid (And.intro hb1 (And.intro hB0 hB1))
  clear hb1 hB0 hB1
  have HK := Lib.hid hk
  have e0 : (kd == 0) = false := by simp; omega
  have e1 : (kd == 1) = false := by simp; omega
  have e2 : (kd == 2) = false := by simp; omega
  have e3 : (kd == 3) = true := by simp; omega
  clear hk
  have hin : ln < f ∨ (f ≤ ln ∧ la < ln) ∨ (f ≤ ln ∧ ln ≤ la) := by omega
  rcases hin with h1 | ⟨h1, h2⟩ | ⟨h1, h2⟩
  all_goals (
    go_enter Try.func11, Try.ntmps11
    go_wp2_with fail
    generalize (((w.alloc (.cells #[.int .i64 kd, .int .i64 (i : Int), .int .i64 ln, .int .i64 co, .int .i64 va] 29)).alloc (.cells #[.bool false, .int .i64 0, .slice none 0 0, .slice none 0 0, .slice none 0 0] 33)).alloc (.cells #[.int .i64 f, .int .i64 la] 40)) = w1 at HW ⊢
    have HFL := Lib.hid (findLine_any _ l (i : Int) ln w1 (HV.out.bel HW.out.1).toS)
    rw [hfl] at HFL
    simp only [ixOf] at HFL
    refine HFL.out.mono ?_
    rintro ex w2 ⟨rfl, hb2⟩
    have HW2 := Lib.hid (And.intro (HW.out.1.trans hb2) (And.intro (HW.out.2.1.bel hb2) (HW.out.2.2.bel hb2)))
    have hba : Bel w2 (w2.alloc (.cells #[.bool false, .int .i64 0, .slice none 0 0, .slice none 0 0, .slice none 0 0] 33)) := (Bel.refl w2).alloc _
    have hBD := Blk.new w2 33 [.bool false, .int .i64 0, .slice none 0 0, .slice none 0 0, .slice none 0 0]
    change Blk (w2.alloc (.cells #[.bool false, .int .i64 0, .slice none 0 0, .slice none 0 0, .slice none 0 0] 33)) _ _ _ at hBD
    have HW3 := Lib.hid (And.intro (HW2.out.1.trans hba) (And.intro (HW2.out.2.1.bel hba) (And.intro (HW2.out.2.2.bel hba) hBD)))
    clear hb2 hba hBD HW
    have HNE := Lib.hid HW2.out.2.2.lt
    go_upto_region 5 with (fail)
    generalize w2.alloc (.cells #[.bool false, .int .i64 0, .slice none 0 0, .slice none 0 0, .slice none 0 0] 33) = w3 at HW3 ⊢
    generalize w2.heap.size = db at HW3 HNE ⊢
    generalize hwb : w.heap.size = wb at HW3 HNE ⊢
    have HWB := Lib.hid hwb; clear hwb HW2
    have s0 : w3.cell? ⟨wb, 0, none⟩ = some (.int .i64 kd) := HW3.out.2.1.cell 0
    have s1 : w3.cell? ⟨wb, 1, none⟩ = some (.int .i64 (i : Int)) := HW3.out.2.1.cell 1
    have s2 : w3.cell? ⟨wb, 2, none⟩ = some (.int .i64 ln) := HW3.out.2.1.cell 2
    have s3 : w3.cell? ⟨wb, 3, none⟩ = some (.int .i64 co) := HW3.out.2.1.cell 3
    have s4 : w3.cell? ⟨wb, 4, none⟩ = some (.int .i64 va) := HW3.out.2.1.cell 4
    have HQ : Hid (Pl.specOk l ⟨kd, (i : Int), ln, co, va⟩ = true ∧ Pl.specVal l ⟨kd, (i : Int), ln, co, va⟩ = xv) := Lib.hid ⟨by simp [Pl.specOk, HK.out, hfl], by unfold Pl.specVal; simp only [HK.out, if_true, hfl]; exact hxv⟩
    have HU : Hid (∀ W' : World, Bel w W' → KT outT (wb + 1) ((w3.setCell ⟨db, 0, none⟩ (.bool true)).setCell ⟨db, 1, none⟩ (.int .i64 xv)).drew W' → LnO W' (.slice x l.length y) (Pl.specL (fsOf R) (lsOf R) l ⟨kd, (i : Int), ln, co, va⟩)) := Lib.hid (fun W' hb _ => by
      have h := HV.out.bel hb
      have e : Pl.specL (fsOf R) (lsOf R) l ⟨kd, (i : Int), ln, co, va⟩ = l := by
        simp [Pl.specL, HK.out]
      rw [e]; exact h)
    have HW4 : Hid (Bel w ((w3.setCell ⟨db, 0, none⟩ (.bool true)).setCell ⟨db, 1, none⟩ (.int .i64 xv)) ∧ Blk ((w3.setCell ⟨db, 0, none⟩ (.bool true)).setCell ⟨db, 1, none⟩ (.int .i64 xv)) (wb + 1) 33 [.bool false, .int .i64 0, .slice none 0 0, .slice none 0 0, .slice none 0 0] ∧ Blk ((w3.setCell ⟨db, 0, none⟩ (.bool true)).setCell ⟨db, 1, none⟩ (.int .i64 xv)) db 33 [.bool true, .int .i64 xv, .slice none 0 0, .slice none 0 0, .slice none 0 0]) := Lib.hid ⟨(Below.setCell (Below.setCell HW3.out.1 (p := ⟨db, 0, none⟩) (by have h1 := HNE.out; have h2 := HWB.out; simp only; omega) _) (p := ⟨db, 1, none⟩) (by have h1 := HNE.out; have h2 := HWB.out; simp only; omega) _), ((HW3.out.2.2.1.far (p := ⟨db, 0, none⟩) (by have h1 := HNE.out; simp only; omega) _).far (p := ⟨db, 1, none⟩) (by have h1 := HNE.out; simp only; omega) _), ((HW3.out.2.2.2.set 0 _).set 1 _)⟩
    have m0 : w3.cell? ⟨db, 0, none⟩ = some (.bool false) := HW3.out.2.2.2.cell 0
    have m1 : w3.cell? ⟨db, 1, none⟩ = some (.int .i64 0) := HW3.out.2.2.2.cell 1
    have g0 := HW3.out.2.2.2.frozen 0
    have g1 := HW3.out.2.2.2.frozen 1
    obtain ⟨lb, lo, rfl, hlc⟩ := HE.out (by have := (List.getElem?_eq_some_iff.1 hkx).1; omega)
    have cx := HW3.out.1.cell (hlc k ex0 hkx).2.2
    have hkl : k < l.length := (List.getElem?_eq_some_iff.1 hkx).1
    have j0 : (0 : Int) ≤ (k : Int) := by omega
    have j1 : (k : Int) < (l.length : Int) := by omega
    rw [← hxe] at cx
    clear hlc hkx hxe hfl hxv
    go_upto_region 15 with (fail)
    go_region
    have HW5 := Lib.hid (And.intro HW4.out.1.drew (And.intro HW4.out.2.1.drew HW4.out.2.2.drew))
    clear HW4
    have HW4 := HW5
    clear HW5 m0 m1 g0 g1 HW3 cx j0 j1
    generalize ((w3.setCell ⟨db, 0, none⟩ (.bool true)).setCell ⟨db, 1, none⟩ (.int .i64 xv)).drew = w4 at HW4 HU ⊢
    go_upto_region 18 with (fail)
    have m0 : w4.cell? ⟨db, 0, none⟩ = some (.bool true) := HW4.out.2.2.cell 0
    have m1 : w4.cell? ⟨db, 1, none⟩ = some (.int .i64 xv) := HW4.out.2.2.cell 1
    have m2 : w4.cell? ⟨db, 2, none⟩ = some (.slice none 0 0) := HW4.out.2.2.cell 2
    have m3 : w4.cell? ⟨db, 3, none⟩ = some (.slice none 0 0) := HW4.out.2.2.cell 3
    have m4 : w4.cell? ⟨db, 4, none⟩ = some (.slice none 0 0) := HW4.out.2.2.cell 4
    have q0 : w4.cell? ⟨(wb + 1), 0, none⟩ = some (.bool false) := HW4.out.2.1.cell 0
    have q1 : w4.cell? ⟨(wb + 1), 1, none⟩ = some (.int .i64 0) := HW4.out.2.1.cell 1
    have q2 : w4.cell? ⟨(wb + 1), 2, none⟩ = some (.slice none 0 0) := HW4.out.2.1.cell 2
    have q3 : w4.cell? ⟨(wb + 1), 3, none⟩ = some (.slice none 0 0) := HW4.out.2.1.cell 3
    have q4 : w4.cell? ⟨(wb + 1), 4, none⟩ = some (.slice none 0 0) := HW4.out.2.1.cell 4
    have f0 := HW4.out.2.1.frozen 0
    have f1 := HW4.out.2.1.frozen 1
    have f2 := HW4.out.2.1.frozen 2
    have f3 := HW4.out.2.1.frozen 3
    have f4 := HW4.out.2.1.frozen 4
    have hne : wb + 1 < db := HNE.out
    go_region
    have HF := Lib.hid (five HW4.out.2.1 (.bool true) (.int .i64 xv) (.slice none 0 0) (.slice none 0 0) (.slice none 0 0))
    generalize (((((w4.setCell ⟨wb + 1, 0, none⟩ (.bool true)).setCell ⟨wb + 1, 1, none⟩ (.int .i64 xv)).setCell ⟨wb + 1, 2, none⟩ (.slice none 0 0)).setCell ⟨wb + 1, 3, none⟩ (.slice none 0 0)).setCell ⟨wb + 1, 4, none⟩ (.slice none 0 0)) = w5 at HF ⊢
    clear m0 m1 m2 m3 m4 q0 q1 q2 q3 q4 f0 f1 f2 f3 f4 hne
    have m0 := HF.out.1.cell 0
    have m1 := HF.out.1.cell 1
    have m2 := HF.out.1.cell 2
    have m3 := HF.out.1.cell 3
    have m4 := HF.out.1.cell 4
    simp only [List.getElem?_cons_succ, List.getElem?_cons_zero] at m0 m1 m2 m3 m4
    go_wp2
    refine bodyPost_ret (v := .tuple #[.slice (some ⟨lb, lo, none⟩) l.length y, .agg #[.bool true, .int .i64 xv, .slice none 0 0, .slice none 0 0, .slice none 0 0]]) (by simp [results, Try.results11, go_sem, m0, m1, m2, m3, m4]) rfl ?_
    have hbe : Bel w w5.drew := (HW4.out.1.kt HF.out.2.2 (by have := HWB.out; omega)).drew
    refine ⟨.slice (some ⟨lb, lo, none⟩) l.length y, ?_, HU.out _ hbe HF.out.2.2.drew, hbe⟩
    rw [HQ.out.1, HQ.out.2])

set_option maxRecDepth 100000 in
set_option maxHeartbeats 4000000 in
theorem spec_0a {w : World} {v : Value} {l : List Pl.LnE} (h : LnO w v l) (_hn : l.length ≤ 100000) {a1 : Option Addr} {n1 c1 : Nat} {R : List Pl.Ent} (hR : Ents w a1 n1 R) {kd ln co va : Int} {i : Nat} (hi : i < n1) (hk : kd = 0) (hin : ¬ (fsOf R i ≤ ln ∧ ln ≤ lsOf R i)) :
    Calls Try.prog 11 #[v, .slice a1 n1 c1, .agg #[.int .i64 kd, .int .i64 (i : Int), .int .i64 ln, .int .i64 co, .int .i64 va]] w (SpTo w R l ⟨kd, (i : Int), ln, co, va⟩) := by
  obtain ⟨b, o, rfl, hcell⟩ := hR.2 (by omega)
  obtain ⟨e, he⟩ : ∃ e, R[i]? = some e := ⟨_, List.getElem?_eq_getElem (by rw [hR.1]; exact hi)⟩
  obtain ⟨d0, d1⟩ := hcell i e he
  have HF : Hid (fsOf R i = e.1 ∧ lsOf R i = e.2) := Lib.hid (by
    unfold fsOf lsOf
    rw [List.getD_eq_getElem?_getD, he]
    exact ⟨rfl, rfl⟩)
  clear hcell he hR
  obtain ⟨f, la⟩ := e
  simp only at d0 d1 HF
  have HV := Lib.hid h
  obtain ⟨x, y, rfl, _, _, hE⟩ := h.toS
  have HE := Lib.hid hE; clear hE
  have hb0 : Bel w ((w.alloc (.cells #[.int .i64 kd, .int .i64 (i : Int), .int .i64 ln, .int .i64 co, .int .i64 va] 29)).alloc (.cells #[.bool false, .int .i64 0, .slice none 0 0, .slice none 0 0, .slice none 0 0] 33)) := ((Bel.refl w).alloc _).alloc _
  replace d0 := hb0.cell d0
  replace d1 := hb0.cell d1
  clear hb0
  have hb1 : Bel w (((w.alloc (.cells #[.int .i64 kd, .int .i64 (i : Int), .int .i64 ln, .int .i64 co, .int .i64 va] 29)).alloc (.cells #[.bool false, .int .i64 0, .slice none 0 0, .slice none 0 0, .slice none 0 0] 33)).alloc (.cells #[.int .i64 f, .int .i64 la] 40)) := (((Bel.refl w).alloc _).alloc _).alloc _
  have hB0 : Blk (((w.alloc (.cells #[.int .i64 kd, .int .i64 (i : Int), .int .i64 ln, .int .i64 co, .int .i64 va] 29)).alloc (.cells #[.bool false, .int .i64 0, .slice none 0 0, .slice none 0 0, .slice none 0 0] 33)).alloc (.cells #[.int .i64 f, .int .i64 la] 40)) w.heap.size 29 [.int .i64 kd, .int .i64 (i : Int), .int .i64 ln, .int .i64 co, .int .i64 va] := ((Blk.new w _ [_, _, _, _, _]).alloc _).alloc _
  have hB1 : Blk (((w.alloc (.cells #[.int .i64 kd, .int .i64 (i : Int), .int .i64 ln, .int .i64 co, .int .i64 va] 29)).alloc (.cells #[.bool false, .int .i64 0, .slice none 0 0, .slice none 0 0, .slice none 0 0] 33)).alloc (.cells #[.int .i64 f, .int .i64 la] 40)) (w.heap.size + 1) 33 [.bool false, .int .i64 0, .slice none 0 0, .slice none 0 0, .slice none 0 0] := by
    have := (Blk.new (w.alloc (.cells #[.int .i64 kd, .int .i64 (i : Int), .int .i64 ln, .int .i64 co, .int .i64 va] 29)) 33 [.bool false, .int .i64 0, .slice none 0 0, .slice none 0 0, .slice none 0 0]).alloc (.cells #[.int .i64 f, .int .i64 la] 40)
    rwa [World.size_alloc] at this
  have HW := Lib.hid (And.intro hb1 (And.intro hB0 hB1))
  clear hb1 hB0 hB1
  have HK := Lib.hid hk
  have e0 : (kd == 0) = true := by simp; omega
  clear hk
  have HIN := Lib.hid hin
  have hin' : ln < f ∨ (f ≤ ln ∧ la < ln) := by rw [HF.out.1, HF.out.2] at hin; omega
  clear hin
  rcases hin' with h1 | ⟨h1, h2⟩
  all_goals (
    go_enter Try.func11, Try.ntmps11
    go_wp2_with fail
    generalize (((w.alloc (.cells #[.int .i64 kd, .int .i64 (i : Int), .int .i64 ln, .int .i64 co, .int .i64 va] 29)).alloc (.cells #[.bool false, .int .i64 0, .slice none 0 0, .slice none 0 0, .slice none 0 0] 33)).alloc (.cells #[.int .i64 f, .int .i64 la] 40)) = w1 at HW ⊢
    have HFL := Lib.hid (findLine_any _ l (i : Int) ln w1 (HV.out.bel HW.out.1).toS)
    refine HFL.out.mono ?_
    rintro ex w2 ⟨rfl, hb2⟩
    have HW2 := Lib.hid (And.intro (HW.out.1.trans hb2) (And.intro (HW.out.2.1.bel hb2) (HW.out.2.2.bel hb2)))
    have hba : Bel w2 (w2.alloc (.cells #[.bool false, .int .i64 0, .slice none 0 0, .slice none 0 0, .slice none 0 0] 33)) := (Bel.refl w2).alloc _
    have hBD := Blk.new w2 33 [.bool false, .int .i64 0, .slice none 0 0, .slice none 0 0, .slice none 0 0]
    change Blk (w2.alloc (.cells #[.bool false, .int .i64 0, .slice none 0 0, .slice none 0 0, .slice none 0 0] 33)) _ _ _ at hBD
    have HW3 := Lib.hid (And.intro (HW2.out.1.trans hba) (And.intro (HW2.out.2.1.bel hba) (And.intro (HW2.out.2.2.bel hba) hBD)))
    clear hb2 hba hBD HW
    have HNE := Lib.hid HW2.out.2.2.lt
    go_upto_region 5 with (fail)
    generalize w2.alloc (.cells #[.bool false, .int .i64 0, .slice none 0 0, .slice none 0 0, .slice none 0 0] 33) = w3 at HW3 ⊢
    generalize w2.heap.size = db at HW3 HNE ⊢
    generalize hwb : w.heap.size = wb at HW3 HNE ⊢
    have HWB := Lib.hid hwb; clear hwb HW2
    have s0 : w3.cell? ⟨wb, 0, none⟩ = some (.int .i64 kd) := HW3.out.2.1.cell 0
    have s1 : w3.cell? ⟨wb, 1, none⟩ = some (.int .i64 (i : Int)) := HW3.out.2.1.cell 1
    have s2 : w3.cell? ⟨wb, 2, none⟩ = some (.int .i64 ln) := HW3.out.2.1.cell 2
    have s3 : w3.cell? ⟨wb, 3, none⟩ = some (.int .i64 co) := HW3.out.2.1.cell 3
    have s4 : w3.cell? ⟨wb, 4, none⟩ = some (.int .i64 va) := HW3.out.2.1.cell 4
    have HQ : Hid (Pl.specOk l ⟨kd, (i : Int), ln, co, va⟩ = false ∧ Pl.specVal l ⟨kd, (i : Int), ln, co, va⟩ = 0) := Lib.hid (by simp [Pl.specOk, Pl.specVal, HK.out])
    have HU : Hid (∀ W' : World, Bel w W' → KT outT (wb + 1) w3 W' → LnO W' (.slice x l.length y) (Pl.specL (fsOf R) (lsOf R) l ⟨kd, (i : Int), ln, co, va⟩)) := Lib.hid (fun W' hb _ => by
      have h := HV.out.bel hb
      have e : Pl.specL (fsOf R) (lsOf R) l ⟨kd, (i : Int), ln, co, va⟩ = l := by
        unfold Pl.specL
        simp only [HK.out, if_true, Int.toNat_natCast]
        rw [if_neg HIN.out]
      rw [e]; exact h)
    have HW4 := Lib.hid (And.intro HW3.out.1 (And.intro HW3.out.2.2.1 HW3.out.2.2.2))
    clear HW3
    go_upto_region 18 with (fail)
    have m0 : w3.cell? ⟨db, 0, none⟩ = some (.bool false) := HW4.out.2.2.cell 0
    have m1 : w3.cell? ⟨db, 1, none⟩ = some (.int .i64 0) := HW4.out.2.2.cell 1
    have m2 : w3.cell? ⟨db, 2, none⟩ = some (.slice none 0 0) := HW4.out.2.2.cell 2
    have m3 : w3.cell? ⟨db, 3, none⟩ = some (.slice none 0 0) := HW4.out.2.2.cell 3
    have m4 : w3.cell? ⟨db, 4, none⟩ = some (.slice none 0 0) := HW4.out.2.2.cell 4
    have q0 : w3.cell? ⟨(wb + 1), 0, none⟩ = some (.bool false) := HW4.out.2.1.cell 0
    have q1 : w3.cell? ⟨(wb + 1), 1, none⟩ = some (.int .i64 0) := HW4.out.2.1.cell 1
    have q2 : w3.cell? ⟨(wb + 1), 2, none⟩ = some (.slice none 0 0) := HW4.out.2.1.cell 2
    have q3 : w3.cell? ⟨(wb + 1), 3, none⟩ = some (.slice none 0 0) := HW4.out.2.1.cell 3
    have q4 : w3.cell? ⟨(wb + 1), 4, none⟩ = some (.slice none 0 0) := HW4.out.2.1.cell 4
    have f0 := HW4.out.2.1.frozen 0
    have f1 := HW4.out.2.1.frozen 1
    have f2 := HW4.out.2.1.frozen 2
    have f3 := HW4.out.2.1.frozen 3
    have f4 := HW4.out.2.1.frozen 4
    have hne : wb + 1 < db := HNE.out
    go_region
    have HF := Lib.hid (five HW4.out.2.1 (.bool false) (.int .i64 0) (.slice none 0 0) (.slice none 0 0) (.slice none 0 0))
    generalize (((((w3.setCell ⟨wb + 1, 0, none⟩ (.bool false)).setCell ⟨wb + 1, 1, none⟩ (.int .i64 0)).setCell ⟨wb + 1, 2, none⟩ (.slice none 0 0)).setCell ⟨wb + 1, 3, none⟩ (.slice none 0 0)).setCell ⟨wb + 1, 4, none⟩ (.slice none 0 0)) = w5 at HF ⊢
    clear m0 m1 m2 m3 m4 q0 q1 q2 q3 q4 f0 f1 f2 f3 f4 hne
    have m0 := HF.out.1.cell 0
    have m1 := HF.out.1.cell 1
    have m2 := HF.out.1.cell 2
    have m3 := HF.out.1.cell 3
    have m4 := HF.out.1.cell 4
    simp only [List.getElem?_cons_succ, List.getElem?_cons_zero] at m0 m1 m2 m3 m4
    go_wp2
    refine bodyPost_ret (v := .tuple #[.slice x l.length y, .agg #[.bool false, .int .i64 0, .slice none 0 0, .slice none 0 0, .slice none 0 0]]) (by simp [results, Try.results11, go_sem, m0, m1, m2, m3, m4]) rfl ?_
    have hbe : Bel w w5.drew := (HW4.out.1.kt HF.out.2.2 (by have := HWB.out; omega)).drew
    refine ⟨.slice x l.length y, ?_, HU.out _ hbe HF.out.2.2.drew, hbe⟩
    rw [HQ.out.1, HQ.out.2])

set_option maxRecDepth 100000 in
set_option maxHeartbeats 4000000 in
theorem spec_0b {w : World} {v : Value} {l : List Pl.LnE} (h : LnO w v l) (_hn : l.length ≤ 100000) {a1 : Option Addr} {n1 c1 : Nat} {R : List Pl.Ent} (hR : Ents w a1 n1 R) {kd ln co va : Int} {i : Nat} (hi : i < n1) (hk : kd = 0) (hin : fsOf R i ≤ ln ∧ ln ≤ lsOf R i) :
    Calls Try.prog 11 #[v, .slice a1 n1 c1, .agg #[.int .i64 kd, .int .i64 (i : Int), .int .i64 ln, .int .i64 co, .int .i64 va]] w (SpTo w R l ⟨kd, (i : Int), ln, co, va⟩) := by
  obtain ⟨b, o, rfl, hcell⟩ := hR.2 (by omega)
  obtain ⟨e, he⟩ : ∃ e, R[i]? = some e := ⟨_, List.getElem?_eq_getElem (by rw [hR.1]; exact hi)⟩
  obtain ⟨d0, d1⟩ := hcell i e he
  have HF : Hid (fsOf R i = e.1 ∧ lsOf R i = e.2) := Lib.hid (by
    unfold fsOf lsOf
    rw [List.getD_eq_getElem?_getD, he]
    exact ⟨rfl, rfl⟩)
  clear hcell he hR
  obtain ⟨f, la⟩ := e
  simp only at d0 d1 HF
  have HV := Lib.hid h
  obtain ⟨x, y, rfl, _, _, hE⟩ := h.toS
  have HE := Lib.hid hE; clear hE
  have hb0 : Bel w ((w.alloc (.cells #[.int .i64 kd, .int .i64 (i : Int), .int .i64 ln, .int .i64 co, .int .i64 va] 29)).alloc (.cells #[.bool false, .int .i64 0, .slice none 0 0, .slice none 0 0, .slice none 0 0] 33)) := ((Bel.refl w).alloc _).alloc _
  replace d0 := hb0.cell d0
  replace d1 := hb0.cell d1
  clear hb0
  have hb1 : Bel w (((w.alloc (.cells #[.int .i64 kd, .int .i64 (i : Int), .int .i64 ln, .int .i64 co, .int .i64 va] 29)).alloc (.cells #[.bool false, .int .i64 0, .slice none 0 0, .slice none 0 0, .slice none 0 0] 33)).alloc (.cells #[.int .i64 f, .int .i64 la] 40)) := (((Bel.refl w).alloc _).alloc _).alloc _
  have hB0 : Blk (((w.alloc (.cells #[.int .i64 kd, .int .i64 (i : Int), .int .i64 ln, .int .i64 co, .int .i64 va] 29)).alloc (.cells #[.bool false, .int .i64 0, .slice none 0 0, .slice none 0 0, .slice none 0 0] 33)).alloc (.cells #[.int .i64 f, .int .i64 la] 40)) w.heap.size 29 [.int .i64 kd, .int .i64 (i : Int), .int .i64 ln, .int .i64 co, .int .i64 va] := ((Blk.new w _ [_, _, _, _, _]).alloc _).alloc _
  have hB1 : Blk (((w.alloc (.cells #[.int .i64 kd, .int .i64 (i : Int), .int .i64 ln, .int .i64 co, .int .i64 va] 29)).alloc (.cells #[.bool false, .int .i64 0, .slice none 0 0, .slice none 0 0, .slice none 0 0] 33)).alloc (.cells #[.int .i64 f, .int .i64 la] 40)) (w.heap.size + 1) 33 [.bool false, .int .i64 0, .slice none 0 0, .slice none 0 0, .slice none 0 0] := by
    have := (Blk.new (w.alloc (.cells #[.int .i64 kd, .int .i64 (i : Int), .int .i64 ln, .int .i64 co, .int .i64 va] 29)) 33 [.bool false, .int .i64 0, .slice none 0 0, .slice none 0 0, .slice none 0 0]).alloc (.cells #[.int .i64 f, .int .i64 la] 40)
    rwa [World.size_alloc] at this
  have HW := Lib.hid (And.intro hb1 (And.intro hB0 hB1))
  clear hb1 hB0 hB1
  have HK := Lib.hid hk
  have e0 : (kd == 0) = true := by simp; omega
  clear hk
  have HIN := Lib.hid hin
  obtain ⟨h1, h2⟩ := hin
  rw [HF.out.1] at h1
  rw [HF.out.2] at h2
  go_enter Try.func11, Try.ntmps11
  go_wp2_with fail
  generalize (((w.alloc (.cells #[.int .i64 kd, .int .i64 (i : Int), .int .i64 ln, .int .i64 co, .int .i64 va] 29)).alloc (.cells #[.bool false, .int .i64 0, .slice none 0 0, .slice none 0 0, .slice none 0 0] 33)).alloc (.cells #[.int .i64 f, .int .i64 la] 40)) = w1 at HW ⊢
  have HFL := Lib.hid (findLine_any _ l (i : Int) ln w1 (HV.out.bel HW.out.1).toS)
  refine HFL.out.mono ?_
  rintro ex w2 ⟨rfl, hb2⟩
  have HW2 := Lib.hid (And.intro (HW.out.1.trans hb2) (And.intro (HW.out.2.1.bel hb2) (HW.out.2.2.bel hb2)))
  have hba : Bel w2 (w2.alloc (.cells #[.bool false, .int .i64 0, .slice none 0 0, .slice none 0 0, .slice none 0 0] 33)) := (Bel.refl w2).alloc _
  have hBD := Blk.new w2 33 [.bool false, .int .i64 0, .slice none 0 0, .slice none 0 0, .slice none 0 0]
  change Blk (w2.alloc (.cells #[.bool false, .int .i64 0, .slice none 0 0, .slice none 0 0, .slice none 0 0] 33)) _ _ _ at hBD
  have HW3 := Lib.hid (And.intro (HW2.out.1.trans hba) (And.intro (HW2.out.2.1.bel hba) (And.intro (HW2.out.2.2.bel hba) hBD)))
  clear hb2 hba hBD HW
  have HNE := Lib.hid HW2.out.2.2.lt
  go_upto_region 5 with (fail)
  generalize w2.alloc (.cells #[.bool false, .int .i64 0, .slice none 0 0, .slice none 0 0, .slice none 0 0] 33) = w3 at HW3 ⊢
  generalize w2.heap.size = db at HW3 HNE ⊢
  generalize hwb : w.heap.size = wb at HW3 HNE ⊢
  have HWB := Lib.hid hwb; clear hwb HW2
  have s0 : w3.cell? ⟨wb, 0, none⟩ = some (.int .i64 kd) := HW3.out.2.1.cell 0
  have s1 : w3.cell? ⟨wb, 1, none⟩ = some (.int .i64 (i : Int)) := HW3.out.2.1.cell 1
  have s2 : w3.cell? ⟨wb, 2, none⟩ = some (.int .i64 ln) := HW3.out.2.1.cell 2
  have s3 : w3.cell? ⟨wb, 3, none⟩ = some (.int .i64 co) := HW3.out.2.1.cell 3
  have s4 : w3.cell? ⟨wb, 4, none⟩ = some (.int .i64 va) := HW3.out.2.1.cell 4
  have HQ : Hid (Pl.specOk l ⟨kd, (i : Int), ln, co, va⟩ = false ∧ Pl.specVal l ⟨kd, (i : Int), ln, co, va⟩ = 0) := Lib.hid (by simp [Pl.specOk, Pl.specVal, HK.out])
  go_wp2_with fail
  refine (putLine_any _ l (i : Int) ln va w3 (HV.out.bel HW3.out.1).toS (by omega)).mono ?_
  rintro ex w4 ⟨u, rfl, ho4, hb4⟩
  clear s0 s1 s2 s3 s4
  have HW4 := Lib.hid (And.intro (HW3.out.1.trans hb4) (And.intro (HW3.out.2.2.1.bel hb4) (HW3.out.2.2.2.bel hb4)))
  generalize hlen : (Pl.putL l ⟨(i : Int), ln, va⟩).length = lu at ho4
  have HU : Hid (∀ W' : World, Bel w W' → KT outT (wb + 1) w4 W' → LnO W' u (Pl.specL (fsOf R) (lsOf R) l ⟨kd, (i : Int), ln, co, va⟩)) := Lib.hid (fun W' _ hk => by
    have h := LnO.of (own_kt ho4 hk (.inl (by decide)))
    have e : Pl.specL (fsOf R) (lsOf R) l ⟨kd, (i : Int), ln, co, va⟩ = Pl.putL l ⟨(i : Int), ln, va⟩ := by
      unfold Pl.specL
      simp only [HK.out, if_true, Int.toNat_natCast]
      rw [if_pos HIN.out]
    rw [e]; exact h)
  obtain ⟨ux, uc, rfl, _, _, _⟩ := own_form ho4
  clear ho4 hb4 HW3
  go_upto_region 18 with (fail)
  have m0 : w4.cell? ⟨db, 0, none⟩ = some (.bool false) := HW4.out.2.2.cell 0
  have m1 : w4.cell? ⟨db, 1, none⟩ = some (.int .i64 0) := HW4.out.2.2.cell 1
  have m2 : w4.cell? ⟨db, 2, none⟩ = some (.slice none 0 0) := HW4.out.2.2.cell 2
  have m3 : w4.cell? ⟨db, 3, none⟩ = some (.slice none 0 0) := HW4.out.2.2.cell 3
  have m4 : w4.cell? ⟨db, 4, none⟩ = some (.slice none 0 0) := HW4.out.2.2.cell 4
  have q0 : w4.cell? ⟨(wb + 1), 0, none⟩ = some (.bool false) := HW4.out.2.1.cell 0
  have q1 : w4.cell? ⟨(wb + 1), 1, none⟩ = some (.int .i64 0) := HW4.out.2.1.cell 1
  have q2 : w4.cell? ⟨(wb + 1), 2, none⟩ = some (.slice none 0 0) := HW4.out.2.1.cell 2
  have q3 : w4.cell? ⟨(wb + 1), 3, none⟩ = some (.slice none 0 0) := HW4.out.2.1.cell 3
  have q4 : w4.cell? ⟨(wb + 1), 4, none⟩ = some (.slice none 0 0) := HW4.out.2.1.cell 4
  have f0 := HW4.out.2.1.frozen 0
  have f1 := HW4.out.2.1.frozen 1
  have f2 := HW4.out.2.1.frozen 2
  have f3 := HW4.out.2.1.frozen 3
  have f4 := HW4.out.2.1.frozen 4
  have hne : wb + 1 < db := HNE.out
  go_region
  have HF := Lib.hid (five HW4.out.2.1 (.bool false) (.int .i64 0) (.slice none 0 0) (.slice none 0 0) (.slice none 0 0))
  generalize (((((w4.setCell ⟨wb + 1, 0, none⟩ (.bool false)).setCell ⟨wb + 1, 1, none⟩ (.int .i64 0)).setCell ⟨wb + 1, 2, none⟩ (.slice none 0 0)).setCell ⟨wb + 1, 3, none⟩ (.slice none 0 0)).setCell ⟨wb + 1, 4, none⟩ (.slice none 0 0)) = w5 at HF ⊢
  clear m0 m1 m2 m3 m4 q0 q1 q2 q3 q4 f0 f1 f2 f3 f4 hne
  have m0 := HF.out.1.cell 0
  have m1 := HF.out.1.cell 1
  have m2 := HF.out.1.cell 2
  have m3 := HF.out.1.cell 3
  have m4 := HF.out.1.cell 4
  simp only [List.getElem?_cons_succ, List.getElem?_cons_zero] at m0 m1 m2 m3 m4
  go_wp2
  refine bodyPost_ret (v := .tuple #[.slice ux lu uc, .agg #[.bool false, .int .i64 0, .slice none 0 0, .slice none 0 0, .slice none 0 0]]) (by simp [results, Try.results11, go_sem, m0, m1, m2, m3, m4]) rfl ?_
  have hbe : Bel w w5.drew := (HW4.out.1.kt HF.out.2.2 (by have := HWB.out; omega)).drew
  refine ⟨.slice ux lu uc, ?_, HU.out _ hbe HF.out.2.2.drew, hbe⟩
  rw [HQ.out.1, HQ.out.2]

theorem specStep_any {w : World} {v : Value} {l : List Pl.LnE} (h : LnO w v l) (hn : l.length ≤ 100000) {a1 : Option Addr} {n1 c1 : Nat} {R : List Pl.Ent} (hR : Ents w a1 n1 R) {kd ln co va : Int} {i : Nat} (hi : i < n1) :
    Calls Try.prog 11 #[v, .slice a1 n1 c1, .agg #[.int .i64 kd, .int .i64 (i : Int), .int .i64 ln, .int .i64 co, .int .i64 va]] w (SpTo w R l ⟨kd, (i : Int), ln, co, va⟩) := by
  by_cases k0 : kd = 0
  · by_cases hin : fsOf R i ≤ ln ∧ ln ≤ lsOf R i
    · exact spec_0b h hn hR hi k0 hin
    · exact spec_0a h hn hR hi k0 hin
  by_cases k1 : kd = 1
  · exact spec_1 h hn hR hi k1
  by_cases k2 : kd = 2
  · cases hfl : Pl.findL l (i : Int) ln with
    | none => exact spec_2b h hn hR hi k2 hfl
    | some k => exact spec_2a h hn hR hi k2 hfl
  by_cases k3 : kd = 3
  · cases hfl : Pl.findL l (i : Int) ln with
    | none => exact spec_3b h hn hR hi k3 hfl
    | some k =>
      have hk : k < l.length := by
        unfold Pl.findL at hfl
        exact (List.findIdx?_eq_some_iff_getElem.1 hfl).1
      exact spec_3a h hn hR hi k3 hfl (List.getElem?_eq_getElem hk) rfl (by rw [List.getD_eq_getElem?_getD, List.getElem?_eq_getElem hk]; rfl)
  by_cases k5 : kd = 5
  · exact spec_5 h hn hR hi k5
  exact spec_no h hn hR hi ⟨k0, k1, k2, k3, k5⟩
end Go.Proofs.Ytangceejmjklcaa
