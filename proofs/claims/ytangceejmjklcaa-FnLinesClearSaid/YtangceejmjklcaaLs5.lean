/- spec.LineStep: what a list of lines is behind a step, and what it answers. -/
import Derived.Test.YtangceejmjklcaaLs4
import Derived.BigRegion
namespace Go.Proofs.Ytangceejmjklcaa
open Go.RowKit Go.BigFrame

namespace Pl
/-- The list behind a step, and the answer. -/
def specL (fs : Nat → Int) (ls : Nat → Int) (l : List LnE) (s : LStep) : List LnE :=
  if s.kind = 0 then (if fs s.file.toNat ≤ s.line ∧ s.line ≤ ls s.file.toNat then putL l ⟨s.file, s.line, s.val⟩ else l)
  else if s.kind = 1 then withoutL l s.file s.line else if s.kind = 5 then [] else l
def specOk (l : List LnE) (s : LStep) : Bool := if s.kind = 2 ∨ s.kind = 3 then (findL l s.file s.line).isSome else false
def specVal (l : List LnE) (s : LStep) : Int := if s.kind = 3 then (match findL l s.file s.line with | some k => (l.getD k ⟨0, 0, 0⟩).val | none => 0) else 0
end Pl
/-- A list of lines in memory of the call's own. -/
def LnO (w : World) (v : Value) (l : List Pl.LnE) : Prop := ∃ B, w.ownsRow B 37 3 v l.length (lnCells l)
theorem LnO.toS {w : World} {v : Value} {l : List Pl.LnE} (h : LnO w v l) : LnS w v l := by obtain ⟨B, h⟩ := h; exact LnS.own h
theorem LnO.bel {w w' : World} {v : Value} {l : List Pl.LnE} (h : LnO w v l) (hb : Bel w w') : LnO w' v l := by obtain ⟨B, h⟩ := h; exact ⟨B, own_bel h hb⟩
theorem LnO.kt {T : List TypeId} {C : Nat} {w w' : World} {v : Value} {l : List Pl.LnE} (h : LnO w v l) (hk : KT T C w w') (hT : 37 ∉ T) : LnO w' v l := by obtain ⟨B, h⟩ := h; exact ⟨B, own_kt h hk (.inl hT)⟩
theorem LnO.nil (w : World) : LnO w (.slice none 0 0) [] := ⟨0, World.ownsRow_nil _ _ _ _⟩
theorem LnO.of {w : World} {B n : Nat} {v : Value} {l : List Pl.LnE} (h : w.ownsRow B 37 3 v n (lnCells l)) : LnO w v l := by
  have hl : l.length = n := by have := h.1; rw [lnCells_length] at this; omega
  exact ⟨B, by rw [hl]; exact h⟩
/-- The last line of range i. -/
def lsOf (R : List Pl.Ent) (i : Nat) : Int := (R.getD i (1, 1)).2
/-- What a step leaves. -/
def SpTo (w : World) (R : List Pl.Ent) (l : List Pl.LnE) (s : Pl.LStep) (e : Ending) (w' : World) : Prop :=
  ∃ u, e = .returned (.tuple #[u, .agg #[.bool (Pl.specOk l s), .int .i64 (Pl.specVal l s), .slice none 0 0, .slice none 0 0, .slice none 0 0]]) ∧ LnO w' u (Pl.specL (fsOf R) (lsOf R) l s) ∧ Bel w w'

set_option maxRecDepth 100000 in
set_option maxHeartbeats 4000000 in
theorem spec_1 {w : World} {v : Value} {l : List Pl.LnE} (h : LnO w v l) (hn : l.length ≤ 100000) {a1 : Option Addr} {n1 c1 : Nat} {R : List Pl.Ent} (hR : Ents w a1 n1 R) {kd ln co va : Int} {i : Nat} (hi : i < n1) (hk : kd = 1) :
    Calls Try.prog 11 #[v, .slice a1 n1 c1, .agg #[.int .i64 kd, .int .i64 (i : Int), .int .i64 ln, .int .i64 co, .int .i64 va]] w (SpTo w R l ⟨kd, (i : Int), ln, co, va⟩) := by
  obtain ⟨b, o, rfl, hcell⟩ := hR.2 (by omega)
  obtain ⟨e, he⟩ : ∃ e, R[i]? = some e := ⟨_, List.getElem?_eq_getElem (by rw [hR.1]; exact hi)⟩
  obtain ⟨d0, d1⟩ := hcell i e he
  have HF : Hid (fsOf R i = e.1 ∧ lsOf R i = e.2) := Lib.hid (by
    unfold fsOf lsOf
    rw [List.getD_eq_getElem?_getD, he]
    exact ⟨rfl, rfl⟩)
  clear hcell he hR
  obtain ⟨f, la⟩ := e
  simp only at d0 d1 HF
  have HV := Lib.hid h
  obtain ⟨x, y, rfl, _, _, hE⟩ := h.toS
  have HE := Lib.hid hE; clear hE
  have hb0 : Bel w ((w.alloc (.cells #[.int .i64 kd, .int .i64 (i : Int), .int .i64 ln, .int .i64 co, .int .i64 va] 29)).alloc (.cells #[.bool false, .int .i64 0, .slice none 0 0, .slice none 0 0, .slice none 0 0] 33)) := ((Bel.refl w).alloc _).alloc _
  replace d0 := hb0.cell d0
  replace d1 := hb0.cell d1
  clear hb0
  have hb1 : Bel w (((w.alloc (.cells #[.int .i64 kd, .int .i64 (i : Int), .int .i64 ln, .int .i64 co, .int .i64 va] 29)).alloc (.cells #[.bool false, .int .i64 0, .slice none 0 0, .slice none 0 0, .slice none 0 0] 33)).alloc (.cells #[.int .i64 f, .int .i64 la] 40)) := (((Bel.refl w).alloc _).alloc _).alloc _
  have hB0 : Blk (((w.alloc (.cells #[.int .i64 kd, .int .i64 (i : Int), .int .i64 ln, .int .i64 co, .int .i64 va] 29)).alloc (.cells #[.bool false, .int .i64 0, .slice none 0 0, .slice none 0 0, .slice none 0 0] 33)).alloc (.cells #[.int .i64 f, .int .i64 la] 40)) w.heap.size 29 [.int .i64 kd, .int .i64 (i : Int), .int .i64 ln, .int .i64 co, .int .i64 va] := ((Blk.new w _ [_, _, _, _, _]).alloc _).alloc _
  have hB1 : Blk (((w.alloc (.cells #[.int .i64 kd, .int .i64 (i : Int), .int .i64 ln, .int .i64 co, .int .i64 va] 29)).alloc (.cells #[.bool false, .int .i64 0, .slice none 0 0, .slice none 0 0, .slice none 0 0] 33)).alloc (.cells #[.int .i64 f, .int .i64 la] 40)) (w.heap.size + 1) 33 [.bool false, .int .i64 0, .slice none 0 0, .slice none 0 0, .slice none 0 0] := by
    have := (Blk.new (w.alloc (.cells #[.int .i64 kd, .int .i64 (i : Int), .int .i64 ln, .int .i64 co, .int .i64 va] 29)) 33 [.bool false, .int .i64 0, .slice none 0 0, .slice none 0 0, .slice none 0 0]).alloc (.cells #[.int .i64 f, .int .i64 la] 40)
    rwa [World.size_alloc] at this
  have HW := Lib.hid (And.intro hb1 (And.intro hB0 hB1))
  clear hb1 hB0 hB1
  have HK := Lib.hid hk
  have e0 : (kd == 0) = false := by simp; omega
  have e1 : (kd == 1) = true := by simp; omega
  clear hk
  have hin : ln < f ∨ (f ≤ ln ∧ la < ln) ∨ (f ≤ ln ∧ ln ≤ la) := by omega
  rcases hin with h1 | ⟨h1, h2⟩ | ⟨h1, h2⟩
  all_goals (
    go_enter Try.func11, Try.ntmps11
    go_wp2_with fail
    generalize (((w.alloc (.cells #[.int .i64 kd, .int .i64 (i : Int), .int .i64 ln, .int .i64 co, .int .i64 va] 29)).alloc (.cells #[.bool false, .int .i64 0, .slice none 0 0, .slice none 0 0, .slice none 0 0] 33)).alloc (.cells #[.int .i64 f, .int .i64 la] 40)) = w1 at HW ⊢
    have HFL := Lib.hid (findLine_any _ l (i : Int) ln w1 (HV.out.bel HW.out.1).toS)
    refine HFL.out.mono ?_
    rintro ex w2 ⟨rfl, hb2⟩
    have HW2 := Lib.hid (And.intro (HW.out.1.trans hb2) (And.intro (HW.out.2.1.bel hb2) (HW.out.2.2.bel hb2)))
    have hba : Bel w2 (w2.alloc (.cells #[.bool false, .int .i64 0, .slice none 0 0, .slice none 0 0, .slice none 0 0] 33)) := (Bel.refl w2).alloc _
    have hBD := Blk.new w2 33 [.bool false, .int .i64 0, .slice none 0 0, .slice none 0 0, .slice none 0 0]
    change Blk (w2.alloc (.cells #[.bool false, .int .i64 0, .slice none 0 0, .slice none 0 0, .slice none 0 0] 33)) _ _ _ at hBD
    have HW3 := Lib.hid (And.intro (HW2.out.1.trans hba) (And.intro (HW2.out.2.1.bel hba) (And.intro (HW2.out.2.2.bel hba) hBD)))
    clear hb2 hba hBD HW
    have HNE := Lib.hid HW2.out.2.2.lt
    go_upto_region 5 with (fail)
    generalize w2.alloc (.cells #[.bool false, .int .i64 0, .slice none 0 0, .slice none 0 0, .slice none 0 0] 33) = w3 at HW3 ⊢
    generalize w2.heap.size = db at HW3 HNE ⊢
    generalize hwb : w.heap.size = wb at HW3 HNE ⊢
    have HWB := Lib.hid hwb; clear hwb HW2
    have s0 : w3.cell? ⟨wb, 0, none⟩ = some (.int .i64 kd) := HW3.out.2.1.cell 0
    have s1 : w3.cell? ⟨wb, 1, none⟩ = some (.int .i64 (i : Int)) := HW3.out.2.1.cell 1
    have s2 : w3.cell? ⟨wb, 2, none⟩ = some (.int .i64 ln) := HW3.out.2.1.cell 2
    have s3 : w3.cell? ⟨wb, 3, none⟩ = some (.int .i64 co) := HW3.out.2.1.cell 3
    have s4 : w3.cell? ⟨wb, 4, none⟩ = some (.int .i64 va) := HW3.out.2.1.cell 4
    have HQ : Hid (Pl.specOk l ⟨kd, (i : Int), ln, co, va⟩ = false ∧ Pl.specVal l ⟨kd, (i : Int), ln, co, va⟩ = 0) := Lib.hid (by simp [Pl.specOk, Pl.specVal, HK.out])
    go_wp2_with fail
    refine (withoutLine_any _ l (i : Int) ln w3 (HV.out.bel HW3.out.1).toS (by omega)).mono ?_
    rintro ex w4 ⟨u, rfl, ho4, hb4⟩
    clear s0 s1 s2 s3 s4
    have HW4 := Lib.hid (And.intro (HW3.out.1.trans hb4) (And.intro (HW3.out.2.2.1.bel hb4) (HW3.out.2.2.2.bel hb4)))
    generalize hlen : (Pl.withoutL l (i : Int) ln).length = lu at ho4
    have HU : Hid (∀ W' : World, Bel w W' → KT outT (wb + 1) w4 W' → LnO W' u (Pl.specL (fsOf R) (lsOf R) l ⟨kd, (i : Int), ln, co, va⟩)) := Lib.hid (fun W' _ hk => by
      have h := LnO.of (own_kt ho4 hk (.inl (by decide)))
      simpa [Pl.specL, HK.out] using h)
    obtain ⟨ux, uc, rfl, _, _, _⟩ := own_form ho4
    clear ho4 hb4 HW3
    go_upto_region 18 with (fail)
    have m0 : w4.cell? ⟨db, 0, none⟩ = some (.bool false) := HW4.out.2.2.cell 0
    have m1 : w4.cell? ⟨db, 1, none⟩ = some (.int .i64 0) := HW4.out.2.2.cell 1
    have m2 : w4.cell? ⟨db, 2, none⟩ = some (.slice none 0 0) := HW4.out.2.2.cell 2
    have m3 : w4.cell? ⟨db, 3, none⟩ = some (.slice none 0 0) := HW4.out.2.2.cell 3
    have m4 : w4.cell? ⟨db, 4, none⟩ = some (.slice none 0 0) := HW4.out.2.2.cell 4
    have q0 : w4.cell? ⟨(wb + 1), 0, none⟩ = some (.bool false) := HW4.out.2.1.cell 0
    have q1 : w4.cell? ⟨(wb + 1), 1, none⟩ = some (.int .i64 0) := HW4.out.2.1.cell 1
    have q2 : w4.cell? ⟨(wb + 1), 2, none⟩ = some (.slice none 0 0) := HW4.out.2.1.cell 2
    have q3 : w4.cell? ⟨(wb + 1), 3, none⟩ = some (.slice none 0 0) := HW4.out.2.1.cell 3
    have q4 : w4.cell? ⟨(wb + 1), 4, none⟩ = some (.slice none 0 0) := HW4.out.2.1.cell 4
    have f0 := HW4.out.2.1.frozen 0
    have f1 := HW4.out.2.1.frozen 1
    have f2 := HW4.out.2.1.frozen 2
    have f3 := HW4.out.2.1.frozen 3
    have f4 := HW4.out.2.1.frozen 4
    have hne : wb + 1 < db := HNE.out
    go_region
    have HF := Lib.hid (five HW4.out.2.1 (.bool false) (.int .i64 0) (.slice none 0 0) (.slice none 0 0) (.slice none 0 0))
    generalize (((((w4.setCell ⟨wb + 1, 0, none⟩ (.bool false)).setCell ⟨wb + 1, 1, none⟩ (.int .i64 0)).setCell ⟨wb + 1, 2, none⟩ (.slice none 0 0)).setCell ⟨wb + 1, 3, none⟩ (.slice none 0 0)).setCell ⟨wb + 1, 4, none⟩ (.slice none 0 0)) = w5 at HF ⊢
    clear m0 m1 m2 m3 m4 q0 q1 q2 q3 q4 f0 f1 f2 f3 f4 hne
    have m0 := HF.out.1.cell 0
    have m1 := HF.out.1.cell 1
    have m2 := HF.out.1.cell 2
    have m3 := HF.out.1.cell 3
    have m4 := HF.out.1.cell 4
    simp only [List.getElem?_cons_succ, List.getElem?_cons_zero] at m0 m1 m2 m3 m4
    go_wp2
    refine bodyPost_ret (v := .tuple #[.slice ux lu uc, .agg #[.bool false, .int .i64 0, .slice none 0 0, .slice none 0 0, .slice none 0 0]]) (by simp [results, Try.results11, go_sem, m0, m1, m2, m3, m4]) rfl ?_
    have hbe : Bel w w5.drew := (HW4.out.1.kt HF.out.2.2 (by have := HWB.out; omega)).drew
    refine ⟨.slice ux lu uc, ?_, HU.out _ hbe HF.out.2.2.drew, hbe⟩
    rw [HQ.out.1, HQ.out.2])

set_option maxRecDepth 100000 in
set_option maxHeartbeats 4000000 in
theorem spec_5 {w : World} {v : Value} {l : List Pl.LnE} (h : LnO w v l) (_hn : l.length ≤ 100000) {a1 : Option Addr} {n1 c1 : Nat} {R : List Pl.Ent} (hR : Ents w a1 n1 R) {kd ln co va : Int} {i : Nat} (hi : i < n1) (hk : kd = 5) :
    Calls Try.prog 11 #[v, .slice a1 n1 c1, .agg #[.int .i64 kd, .int .i64 (i : Int), .int .i64 ln, .int .i64 co, .int .i64 va]] w (SpTo w R l ⟨kd, (i : Int), ln, co, va⟩) := by
  obtain ⟨b, o, rfl, hcell⟩ := hR.2 (by omega)
  obtain ⟨e, he⟩ : ∃ e, R[i]? = some e := ⟨_, List.getElem?_eq_getElem (by rw [hR.1]; exact hi)⟩
  obtain ⟨d0, d1⟩ := hcell i e he
  have HF : Hid (fsOf R i = e.1 ∧ lsOf R i = e.2) := Lib.hid (by
    unfold fsOf lsOf
    rw [List.getD_eq_getElem?_getD, he]
    exact ⟨rfl, rfl⟩)
  clear hcell he hR
  obtain ⟨f, la⟩ := e
  simp only at d0 d1 HF
  have HV := Lib.hid h
  obtain ⟨x, y, rfl, _, _, hE⟩ := h.toS
  have HE := Lib.hid hE; clear hE
  have hb0 : Bel w ((w.alloc (.cells #[.int .i64 kd, .int .i64 (i : Int), .int .i64 ln, .int .i64 co, .int .i64 va] 29)).alloc (.cells #[.bool false, .int .i64 0, .slice none 0 0, .slice none 0 0, .slice none 0 0] 33)) := ((Bel.refl w).alloc _).alloc _
  replace d0 := hb0.cell d0
  replace d1 := hb0.cell d1
  clear hb0
  have hb1 : Bel w (((w.alloc (.cells #[.int .i64 kd, .int .i64 (i : Int), .int .i64 ln, .int .i64 co, .int .i64 va] 29)).alloc (.cells #[.bool false, .int .i64 0, .slice none 0 0, .slice none 0 0, .slice none 0 0] 33)).alloc (.cells #[.int .i64 f, .int .i64 la] 40)) := (((Bel.refl w).alloc _).alloc _).alloc _
  have hB0 : Blk (((w.alloc (.cells #[.int .i64 kd, .int .i64 (i : Int), .int .i64 ln, .int .i64 co, .int .i64 va] 29)).alloc (.cells #[.bool false, .int .i64 0, .slice none 0 0, .slice none 0 0, .slice none 0 0] 33)).alloc (.cells #[.int .i64 f, .int .i64 la] 40)) w.heap.size 29 [.int .i64 kd, .int .i64 (i : Int), .int .i64 ln, .int .i64 co, .int .i64 va] := ((Blk.new w _ [_, _, _, _, _]).alloc _).alloc _
  have hB1 : Blk (((w.alloc (.cells #[.int .i64 kd, .int .i64 (i : Int), .int .i64 ln, .int .i64 co, .int .i64 va] 29)).alloc (.cells #[.bool false, .int .i64 0, .slice none 0 0, .slice none 0 0, .slice none 0 0] 33)).alloc (.cells #[.int .i64 f, .int .i64 la] 40)) (w.heap.size + 1) 33 [.bool false, .int .i64 0, .slice none 0 0, .slice none 0 0, .slice none 0 0] := by
    have := (Blk.new (w.alloc (.cells #[.int .i64 kd, .int .i64 (i : Int), .int .i64 ln, .int .i64 co, .int .i64 va] 29)) 33 [.bool false, .int .i64 0, .slice none 0 0, .slice none 0 0, .slice none 0 0]).alloc (.cells #[.int .i64 f, .int .i64 la] 40)
    rwa [World.size_alloc] at this
  have HW := Lib.hid (And.intro hb1 (And.intro hB0 hB1))
  clear hb1 hB0 hB1
  have HK := Lib.hid hk
  have e0 : (kd == 0) = false := by simp; omega
  have e1 : (kd == 1) = false := by simp; omega
  have e2 : (kd == 2) = false := by simp; omega
  have e3 : (kd == 3) = false := by simp; omega
  have e5 : (kd == 5) = true := by simp; omega
  clear hk
  have hin : ln < f ∨ (f ≤ ln ∧ la < ln) ∨ (f ≤ ln ∧ ln ≤ la) := by omega
  rcases hin with h1 | ⟨h1, h2⟩ | ⟨h1, h2⟩
  all_goals (
    go_enter Try.func11, Try.ntmps11
    go_wp2_with fail
    generalize (((w.alloc (.cells #[.int .i64 kd, .int .i64 (i : Int), .int .i64 ln, .int .i64 co, .int .i64 va] 29)).alloc (.cells #[.bool false, .int .i64 0, .slice none 0 0, .slice none 0 0, .slice none 0 0] 33)).alloc (.cells #[.int .i64 f, .int .i64 la] 40)) = w1 at HW ⊢
    have HFL := Lib.hid (findLine_any _ l (i : Int) ln w1 (HV.out.bel HW.out.1).toS)
    refine HFL.out.mono ?_
    rintro ex w2 ⟨rfl, hb2⟩
    have HW2 := Lib.hid (And.intro (HW.out.1.trans hb2) (And.intro (HW.out.2.1.bel hb2) (HW.out.2.2.bel hb2)))
    have hba : Bel w2 (w2.alloc (.cells #[.bool false, .int .i64 0, .slice none 0 0, .slice none 0 0, .slice none 0 0] 33)) := (Bel.refl w2).alloc _
    have hBD := Blk.new w2 33 [.bool false, .int .i64 0, .slice none 0 0, .slice none 0 0, .slice none 0 0]
    change Blk (w2.alloc (.cells #[.bool false, .int .i64 0, .slice none 0 0, .slice none 0 0, .slice none 0 0] 33)) _ _ _ at hBD
    have HW3 := Lib.hid (And.intro (HW2.out.1.trans hba) (And.intro (HW2.out.2.1.bel hba) (And.intro (HW2.out.2.2.bel hba) hBD)))
    clear hb2 hba hBD HW
    have HNE := Lib.hid HW2.out.2.2.lt
    go_upto_region 5 with (fail)
    generalize w2.alloc (.cells #[.bool false, .int .i64 0, .slice none 0 0, .slice none 0 0, .slice none 0 0] 33) = w3 at HW3 ⊢
    generalize w2.heap.size = db at HW3 HNE ⊢
    generalize hwb : w.heap.size = wb at HW3 HNE ⊢
    have HWB := Lib.hid hwb; clear hwb HW2
    have s0 : w3.cell? ⟨wb, 0, none⟩ = some (.int .i64 kd) := HW3.out.2.1.cell 0
    have s1 : w3.cell? ⟨wb, 1, none⟩ = some (.int .i64 (i : Int)) := HW3.out.2.1.cell 1
    have s2 : w3.cell? ⟨wb, 2, none⟩ = some (.int .i64 ln) := HW3.out.2.1.cell 2
    have s3 : w3.cell? ⟨wb, 3, none⟩ = some (.int .i64 co) := HW3.out.2.1.cell 3
    have s4 : w3.cell? ⟨wb, 4, none⟩ = some (.int .i64 va) := HW3.out.2.1.cell 4
    have HQ : Hid (Pl.specOk l ⟨kd, (i : Int), ln, co, va⟩ = false ∧ Pl.specVal l ⟨kd, (i : Int), ln, co, va⟩ = 0) := Lib.hid (by simp [Pl.specOk, Pl.specVal, HK.out])
    have HU : Hid (∀ W' : World, Bel w W' → KT outT (wb + 1) w3 W' → LnO W' (.slice none 0 0) (Pl.specL (fsOf R) (lsOf R) l ⟨kd, (i : Int), ln, co, va⟩)) := Lib.hid (fun W' _ _ => by
      have e : Pl.specL (fsOf R) (lsOf R) l ⟨kd, (i : Int), ln, co, va⟩ = [] := by simp [Pl.specL, HK.out]
      rw [e]; exact LnO.nil W')
    have HW4 := Lib.hid (And.intro HW3.out.1 (And.intro HW3.out.2.2.1 HW3.out.2.2.2))
    clear HW3
    go_upto_region 18 with (fail)
    have m0 : w3.cell? ⟨db, 0, none⟩ = some (.bool false) := HW4.out.2.2.cell 0
    have m1 : w3.cell? ⟨db, 1, none⟩ = some (.int .i64 0) := HW4.out.2.2.cell 1
    have m2 : w3.cell? ⟨db, 2, none⟩ = some (.slice none 0 0) := HW4.out.2.2.cell 2
    have m3 : w3.cell? ⟨db, 3, none⟩ = some (.slice none 0 0) := HW4.out.2.2.cell 3
    have m4 : w3.cell? ⟨db, 4, none⟩ = some (.slice none 0 0) := HW4.out.2.2.cell 4
    have q0 : w3.cell? ⟨(wb + 1), 0, none⟩ = some (.bool false) := HW4.out.2.1.cell 0
    have q1 : w3.cell? ⟨(wb + 1), 1, none⟩ = some (.int .i64 0) := HW4.out.2.1.cell 1
    have q2 : w3.cell? ⟨(wb + 1), 2, none⟩ = some (.slice none 0 0) := HW4.out.2.1.cell 2
    have q3 : w3.cell? ⟨(wb + 1), 3, none⟩ = some (.slice none 0 0) := HW4.out.2.1.cell 3
    have q4 : w3.cell? ⟨(wb + 1), 4, none⟩ = some (.slice none 0 0) := HW4.out.2.1.cell 4
    have f0 := HW4.out.2.1.frozen 0
    have f1 := HW4.out.2.1.frozen 1
    have f2 := HW4.out.2.1.frozen 2
    have f3 := HW4.out.2.1.frozen 3
    have f4 := HW4.out.2.1.frozen 4
    have hne : wb + 1 < db := HNE.out
    go_region
    have HF := Lib.hid (five HW4.out.2.1 (.bool false) (.int .i64 0) (.slice none 0 0) (.slice none 0 0) (.slice none 0 0))
    generalize (((((w3.setCell ⟨wb + 1, 0, none⟩ (.bool false)).setCell ⟨wb + 1, 1, none⟩ (.int .i64 0)).setCell ⟨wb + 1, 2, none⟩ (.slice none 0 0)).setCell ⟨wb + 1, 3, none⟩ (.slice none 0 0)).setCell ⟨wb + 1, 4, none⟩ (.slice none 0 0)) = w5 at HF ⊢
    clear m0 m1 m2 m3 m4 q0 q1 q2 q3 q4 f0 f1 f2 f3 f4 hne
    have m0 := HF.out.1.cell 0
    have m1 := HF.out.1.cell 1
    have m2 := HF.out.1.cell 2
    have m3 := HF.out.1.cell 3
    have m4 := HF.out.1.cell 4
    simp only [List.getElem?_cons_succ, List.getElem?_cons_zero] at m0 m1 m2 m3 m4
    go_wp2
    refine bodyPost_ret (v := .tuple #[.slice none 0 0, .agg #[.bool false, .int .i64 0, .slice none 0 0, .slice none 0 0, .slice none 0 0]]) (by simp [results, Try.results11, go_sem, m0, m1, m2, m3, m4]) rfl ?_
    have hbe : Bel w w5.drew := (HW4.out.1.kt HF.out.2.2 (by have := HWB.out; omega)).drew
    refine ⟨.slice none 0 0, ?_, HU.out _ hbe HF.out.2.2.drew, hbe⟩
    rw [HQ.out.1, HQ.out.2])

set_option maxRecDepth 100000 in
set_option maxHeartbeats 4000000 in
theorem spec_no {w : World} {v : Value} {l : List Pl.LnE} (h : LnO w v l) (_hn : l.length ≤ 100000) {a1 : Option Addr} {n1 c1 : Nat} {R : List Pl.Ent} (hR : Ents w a1 n1 R) {kd ln co va : Int} {i : Nat} (hi : i < n1) (hk : kd ≠ 0 ∧ kd ≠ 1 ∧ kd ≠ 2 ∧ kd ≠ 3 ∧ kd ≠ 5) :
    Calls Try.prog 11 #[v, .slice a1 n1 c1, .agg #[.int .i64 kd, .int .i64 (i : Int), .int .i64 ln, .int .i64 co, .int .i64 va]] w (SpTo w R l ⟨kd, (i : Int), ln, co, va⟩) := by
  obtain ⟨b, o, rfl, hcell⟩ := hR.2 (by omega)
  obtain ⟨e, he⟩ : ∃ e, R[i]? = some e := ⟨_, List.getElem?_eq_getElem (by rw [hR.1]; exact hi)⟩
  obtain ⟨d0, d1⟩ := hcell i e he
  have HF : Hid (fsOf R i = e.1 ∧ lsOf R i = e.2) := Lib.hid (by
    unfold fsOf lsOf
    rw [List.getD_eq_getElem?_getD, he]
    exact ⟨rfl, rfl⟩)
  clear hcell he hR
  obtain ⟨f, la⟩ := e
  simp only at d0 d1 HF
  have HV := Lib.hid h
  obtain ⟨x, y, rfl, _, _, hE⟩ := h.toS
  have HE := Lib.hid hE; clear hE
  have hb0 : Bel w ((w.alloc (.cells #[.int .i64 kd, .int .i64 (i : Int), .int .i64 ln, .int .i64 co, .int .i64 va] 29)).alloc (.cells #[.bool false, .int .i64 0, .slice none 0 0, .slice none 0 0, .slice none 0 0] 33)) := ((Bel.refl w).alloc _).alloc _
  replace d0 := hb0.cell d0
  replace d1 := hb0.cell d1
  clear hb0
  have hb1 : Bel w (((w.alloc (.cells #[.int .i64 kd, .int .i64 (i : Int), .int .i64 ln, .int .i64 co, .int .i64 va] 29)).alloc (.cells #[.bool false, .int .i64 0, .slice none 0 0, .slice none 0 0, .slice none 0 0] 33)).alloc (.cells #[.int .i64 f, .int .i64 la] 40)) := (((Bel.refl w).alloc _).alloc _).alloc _
  have hB0 : Blk (((w.alloc (.cells #[.int .i64 kd, .int .i64 (i : Int), .int .i64 ln, .int .i64 co, .int .i64 va] 29)).alloc (.cells #[.bool false, .int .i64 0, .slice none 0 0, .slice none 0 0, .slice none 0 0] 33)).alloc (.cells #[.int .i64 f, .int .i64 la] 40)) w.heap.size 29 [.int .i64 kd, .int .i64 (i : Int), .int .i64 ln, .int .i64 co, .int .i64 va] := ((Blk.new w _ [_, _, _, _, _]).alloc _).alloc _
  have hB1 : Blk (((w.alloc (.cells #[.int .i64 kd, .int .i64 (i : Int), .int .i64 ln, .int .i64 co, .int .i64 va] 29)).alloc (.cells #[.bool false, .int .i64 0, .slice none 0 0, .slice none 0 0, .slice none 0 0] 33)).alloc (.cells #[.int .i64 f, .int .i64 la] 40)) (w.heap.size + 1) 33 [.bool false, .int .i64 0, .slice none 0 0, .slice none 0 0, .slice none 0 0] := by
    have := (Blk.new (w.alloc (.cells #[.int .i64 kd, .int .i64 (i : Int), .int .i64 ln, .int .i64 co, .int .i64 va] 29)) 33 [.bool false, .int .i64 0, .slice none 0 0, .slice none 0 0, .slice none 0 0]).alloc (.cells #[.int .i64 f, .int .i64 la] 40)
    rwa [World.size_alloc] at this
  have HW := Lib.hid (And.intro hb1 (And.intro hB0 hB1))
  clear hb1 hB0 hB1
  have HK := Lib.hid hk
  have e0 : (kd == 0) = false := by simp; omega
  have e1 : (kd == 1) = false := by simp; omega
  have e2 : (kd == 2) = false := by simp; omega
  have e3 : (kd == 3) = false := by simp; omega
  have e5 : (kd == 5) = false := by simp; omega
  clear hk
  have hin : ln < f ∨ (f ≤ ln ∧ la < ln) ∨ (f ≤ ln ∧ ln ≤ la) := by omega
  rcases hin with h1 | ⟨h1, h2⟩ | ⟨h1, h2⟩
  all_goals (
    go_enter Try.func11, Try.ntmps11
    go_wp2_with fail
    generalize (((w.alloc (.cells #[.int .i64 kd, .int .i64 (i : Int), .int .i64 ln, .int .i64 co, .int .i64 va] 29)).alloc (.cells #[.bool false, .int .i64 0, .slice none 0 0, .slice none 0 0, .slice none 0 0] 33)).alloc (.cells #[.int .i64 f, .int .i64 la] 40)) = w1 at HW ⊢
    have HFL := Lib.hid (findLine_any _ l (i : Int) ln w1 (HV.out.bel HW.out.1).toS)
    refine HFL.out.mono ?_
    rintro ex w2 ⟨rfl, hb2⟩
    have HW2 := Lib.hid (And.intro (HW.out.1.trans hb2) (And.intro (HW.out.2.1.bel hb2) (HW.out.2.2.bel hb2)))
    have hba : Bel w2 (w2.alloc (.cells #[.bool false, .int .i64 0, .slice none 0 0, .slice none 0 0, .slice none 0 0] 33)) := (Bel.refl w2).alloc _
    have hBD := Blk.new w2 33 [.bool false, .int .i64 0, .slice none 0 0, .slice none 0 0, .slice none 0 0]
    change Blk (w2.alloc (.cells #[.bool false, .int .i64 0, .slice none 0 0, .slice none 0 0, .slice none 0 0] 33)) _ _ _ at hBD
    have HW3 := Lib.hid (And.intro (HW2.out.1.trans hba) (And.intro (HW2.out.2.1.bel hba) (And.intro (HW2.out.2.2.bel hba) hBD)))
    clear hb2 hba hBD HW
    have HNE := Lib.hid HW2.out.2.2.lt
    go_upto_region 5 with (fail)
    generalize w2.alloc (.cells #[.bool false, .int .i64 0, .slice none 0 0, .slice none 0 0, .slice none 0 0] 33) = w3 at HW3 ⊢
    generalize w2.heap.size = db at HW3 HNE ⊢
    generalize hwb : w.heap.size = wb at HW3 HNE ⊢
    have HWB := Lib.hid hwb; clear hwb HW2
    have s0 : w3.cell? ⟨wb, 0, none⟩ = some (.int .i64 kd) := HW3.out.2.1.cell 0
    have s1 : w3.cell? ⟨wb, 1, none⟩ = some (.int .i64 (i : Int)) := HW3.out.2.1.cell 1
    have s2 : w3.cell? ⟨wb, 2, none⟩ = some (.int .i64 ln) := HW3.out.2.1.cell 2
    have s3 : w3.cell? ⟨wb, 3, none⟩ = some (.int .i64 co) := HW3.out.2.1.cell 3
    have s4 : w3.cell? ⟨wb, 4, none⟩ = some (.int .i64 va) := HW3.out.2.1.cell 4
    have HQ : Hid (Pl.specOk l ⟨kd, (i : Int), ln, co, va⟩ = false ∧ Pl.specVal l ⟨kd, (i : Int), ln, co, va⟩ = 0) := Lib.hid (by simp [Pl.specOk, Pl.specVal, HK.out])
    have HU : Hid (∀ W' : World, Bel w W' → KT outT (wb + 1) w3 W' → LnO W' (.slice x l.length y) (Pl.specL (fsOf R) (lsOf R) l ⟨kd, (i : Int), ln, co, va⟩)) := Lib.hid (fun W' hb _ => by
      have h := HV.out.bel hb
      have e : Pl.specL (fsOf R) (lsOf R) l ⟨kd, (i : Int), ln, co, va⟩ = l := by
        simp [Pl.specL, HK.out]
      rw [e]; exact h)
    have HW4 := Lib.hid (And.intro HW3.out.1 (And.intro HW3.out.2.2.1 HW3.out.2.2.2))
    clear HW3
    go_upto_region 18 with (fail)
    have m0 : w3.cell? ⟨db, 0, none⟩ = some (.bool false) := HW4.out.2.2.cell 0
    have m1 : w3.cell? ⟨db, 1, none⟩ = some (.int .i64 0) := HW4.out.2.2.cell 1
    have m2 : w3.cell? ⟨db, 2, none⟩ = some (.slice none 0 0) := HW4.out.2.2.cell 2
    have m3 : w3.cell? ⟨db, 3, none⟩ = some (.slice none 0 0) := HW4.out.2.2.cell 3
    have m4 : w3.cell? ⟨db, 4, none⟩ = some (.slice none 0 0) := HW4.out.2.2.cell 4
    have q0 : w3.cell? ⟨(wb + 1), 0, none⟩ = some (.bool false) := HW4.out.2.1.cell 0
    have q1 : w3.cell? ⟨(wb + 1), 1, none⟩ = some (.int .i64 0) := HW4.out.2.1.cell 1
    have q2 : w3.cell? ⟨(wb + 1), 2, none⟩ = some (.slice none 0 0) := HW4.out.2.1.cell 2
    have q3 : w3.cell? ⟨(wb + 1), 3, none⟩ = some (.slice none 0 0) := HW4.out.2.1.cell 3
    have q4 : w3.cell? ⟨(wb + 1), 4, none⟩ = some (.slice none 0 0) := HW4.out.2.1.cell 4
    have f0 := HW4.out.2.1.frozen 0
    have f1 := HW4.out.2.1.frozen 1
    have f2 := HW4.out.2.1.frozen 2
    have f3 := HW4.out.2.1.frozen 3
    have f4 := HW4.out.2.1.frozen 4
    have hne : wb + 1 < db := HNE.out
    go_region
    have HF := Lib.hid (five HW4.out.2.1 (.bool false) (.int .i64 0) (.slice none 0 0) (.slice none 0 0) (.slice none 0 0))
    generalize (((((w3.setCell ⟨wb + 1, 0, none⟩ (.bool false)).setCell ⟨wb + 1, 1, none⟩ (.int .i64 0)).setCell ⟨wb + 1, 2, none⟩ (.slice none 0 0)).setCell ⟨wb + 1, 3, none⟩ (.slice none 0 0)).setCell ⟨wb + 1, 4, none⟩ (.slice none 0 0)) = w5 at HF ⊢
    clear m0 m1 m2 m3 m4 q0 q1 q2 q3 q4 f0 f1 f2 f3 f4 hne
    have m0 := HF.out.1.cell 0
    have m1 := HF.out.1.cell 1
    have m2 := HF.out.1.cell 2
    have m3 := HF.out.1.cell 3
    have m4 := HF.out.1.cell 4
    simp only [List.getElem?_cons_succ, List.getElem?_cons_zero] at m0 m1 m2 m3 m4
    go_wp2
    refine bodyPost_ret (v := .tuple #[.slice x l.length y, .agg #[.bool false, .int .i64 0, .slice none 0 0, .slice none 0 0, .slice none 0 0]]) (by simp [results, Try.results11, go_sem, m0, m1, m2, m3, m4]) rfl ?_
    have hbe : Bel w w5.drew := (HW4.out.1.kt HF.out.2.2 (by have := HWB.out; omega)).drew
    refine ⟨.slice x l.length y, ?_, HU.out _ hbe HF.out.2.2.drew, hbe⟩
    rw [HQ.out.1, HQ.out.2])

set_option maxRecDepth 100000 in
set_option maxHeartbeats 4000000 in
theorem spec_2a {w : World} {v : Value} {l : List Pl.LnE} (h : LnO w v l) (_hn : l.length ≤ 100000) {a1 : Option Addr} {n1 c1 : Nat} {R : List Pl.Ent} (hR : Ents w a1 n1 R) {kd ln co va : Int} {i : Nat} (hi : i < n1) (hk : kd = 2) {k : Nat} (hfl : Pl.findL l (i : Int) ln = some k) :
    Calls Try.prog 11 #[v, .slice a1 n1 c1, .agg #[.int .i64 kd, .int .i64 (i : Int), .int .i64 ln, .int .i64 co, .int .i64 va]] w (SpTo w R l ⟨kd, (i : Int), ln, co, va⟩) := by
  obtain ⟨b, o, rfl, hcell⟩ := hR.2 (by omega)
  obtain ⟨e, he⟩ : ∃ e, R[i]? = some e := ⟨_, List.getElem?_eq_getElem (by rw [hR.1]; exact hi)⟩
  obtain ⟨d0, d1⟩ := hcell i e he
  have HF : Hid (fsOf R i = e.1 ∧ lsOf R i = e.2) := Lib.hid (by
    unfold fsOf lsOf
    rw [List.getD_eq_getElem?_getD, he]
    exact ⟨rfl, rfl⟩)
  clear hcell he hR
  obtain ⟨f, la⟩ := e
  simp only at d0 d1 HF
  have HV := Lib.hid h
  obtain ⟨x, y, rfl, _, _, hE⟩ := h.toS
  have HE := Lib.hid hE; clear hE
  have hb0 : Bel w ((w.alloc (.cells #[.int .i64 kd, .int .i64 (i : Int), .int .i64 ln, .int .i64 co, .int .i64 va] 29)).alloc (.cells #[.bool false, .int .i64 0, .slice none 0 0, .slice none 0 0, .slice none 0 0] 33)) := ((Bel.refl w).alloc _).alloc _
  replace d0 := hb0.cell d0
  replace d1 := hb0.cell d1
  clear hb0
  have hb1 : Bel w (((w.alloc (.cells #[.int .i64 kd, .int .i64 (i : Int), .int .i64 ln, .int .i64 co, .int .i64 va] 29)).alloc (.cells #[.bool false, .int .i64 0, .slice none 0 0, .slice none 0 0, .slice none 0 0] 33)).alloc (.cells #[.int .i64 f, .int .i64 la] 40)) := (((Bel.refl w).alloc _).alloc _).alloc _
  have hB0 : Blk (((w.alloc (.cells #[.int .i64 kd, .int .i64 (i : Int), .int .i64 ln, .int .i64 co, .int .i64 va] 29)).alloc (.cells #[.bool false, .int .i64 0, .slice none 0 0, .slice none 0 0, .slice none 0 0] 33)).alloc (.cells #[.int .i64 f, .int .i64 la] 40)) w.heap.size 29 [.int .i64 kd, .int .i64 (i : Int), .int .i64 ln, .int .i64 co, .int .i64 va] := ((Blk.new w _ [_, _, _, _, _]).alloc _).alloc _
  have hB1 : Blk (((w.alloc (.cells #[.int .i64 kd, .int .i64 (i : Int), .int .i64 ln, .int .i64 co, .int .i64 va] 29)).alloc (.cells #[.bool false, .int .i64 0, .slice none 0 0, .slice none 0 0, .slice none 0 0] 33)).alloc (.cells #[.int .i64 f, .int .i64 la] 40)) (w.heap.size + 1) 33 [.bool false, .int .i64 0, .slice none 0 0, .slice none 0 0, .slice none 0 0] := by
    have := (Blk.new (w.alloc (.cells #[.int .i64 kd, .int .i64 (i : Int), .int .i64 ln, .int .i64 co, .int .i64 va] 29)) 33 [.bool false, .int .i64 0, .slice none 0 0, .slice none 0 0, .slice none 0 0]).alloc (.cells #[.int .i64 f, .int .i64 la] 40)
    rwa [World.size_alloc] at this
  have HW := Lib.hid (And.intro hb1 (And.intro hB0 hB1))
  clear hb1 hB0 hB1
  have HK := Lib.hid hk
  have e0 : (kd == 0) = false := by simp; omega
  have e1 : (kd == 1) = false := by simp; omega
  have e2 : (kd == 2) = true := by simp; omega
  clear hk
  have hin : ln < f ∨ (f ≤ ln ∧ la < ln) ∨ (f ≤ ln ∧ ln ≤ la) := by omega
  rcases hin with h1 | ⟨h1, h2⟩ | ⟨h1, h2⟩
  all_goals (
    go_enter Try.func11, Try.ntmps11
    go_wp2_with fail
    generalize (((w.alloc (.cells #[.int .i64 kd, .int .i64 (i : Int), .int .i64 ln, .int .i64 co, .int .i64 va] 29)).alloc (.cells #[.bool false, .int .i64 0, .slice none 0 0, .slice none 0 0, .slice none 0 0] 33)).alloc (.cells #[.int .i64 f, .int .i64 la] 40)) = w1 at HW ⊢
    have HFL := Lib.hid (findLine_any _ l (i : Int) ln w1 (HV.out.bel HW.out.1).toS)
    rw [hfl] at HFL
    simp only [ixOf] at HFL
    refine HFL.out.mono ?_
    rintro ex w2 ⟨rfl, hb2⟩
    have HW2 := Lib.hid (And.intro (HW.out.1.trans hb2) (And.intro (HW.out.2.1.bel hb2) (HW.out.2.2.bel hb2)))
    have hba : Bel w2 (w2.alloc (.cells #[.bool false, .int .i64 0, .slice none 0 0, .slice none 0 0, .slice none 0 0] 33)) := (Bel.refl w2).alloc _
    have hBD := Blk.new w2 33 [.bool false, .int .i64 0, .slice none 0 0, .slice none 0 0, .slice none 0 0]
    change Blk (w2.alloc (.cells #[.bool false, .int .i64 0, .slice none 0 0, .slice none 0 0, .slice none 0 0] 33)) _ _ _ at hBD
    have HW3 := Lib.hid (And.intro (HW2.out.1.trans hba) (And.intro (HW2.out.2.1.bel hba) (And.intro (HW2.out.2.2.bel hba) hBD)))
    clear hb2 hba hBD HW
    have HNE := Lib.hid HW2.out.2.2.lt
    go_upto_region 5 with (fail)
    generalize w2.alloc (.cells #[.bool false, .int .i64 0, .slice none 0 0, .slice none 0 0, .slice none 0 0] 33) = w3 at HW3 ⊢
    generalize w2.heap.size = db at HW3 HNE ⊢
    generalize hwb : w.heap.size = wb at HW3 HNE ⊢
    have HWB := Lib.hid hwb; clear hwb HW2
    have s0 : w3.cell? ⟨wb, 0, none⟩ = some (.int .i64 kd) := HW3.out.2.1.cell 0
    have s1 : w3.cell? ⟨wb, 1, none⟩ = some (.int .i64 (i : Int)) := HW3.out.2.1.cell 1
    have s2 : w3.cell? ⟨wb, 2, none⟩ = some (.int .i64 ln) := HW3.out.2.1.cell 2
    have s3 : w3.cell? ⟨wb, 3, none⟩ = some (.int .i64 co) := HW3.out.2.1.cell 3
    have s4 : w3.cell? ⟨wb, 4, none⟩ = some (.int .i64 va) := HW3.out.2.1.cell 4
    have HQ : Hid (Pl.specOk l ⟨kd, (i : Int), ln, co, va⟩ = true ∧ Pl.specVal l ⟨kd, (i : Int), ln, co, va⟩ = 0) := Lib.hid (by simp [Pl.specOk, Pl.specVal, HK.out, hfl])
    have HU : Hid (∀ W' : World, Bel w W' → KT outT (wb + 1) (w3.setCell ⟨db, 0, none⟩ (.bool true)) W' → LnO W' (.slice x l.length y) (Pl.specL (fsOf R) (lsOf R) l ⟨kd, (i : Int), ln, co, va⟩)) := Lib.hid (fun W' hb _ => by
      have h := HV.out.bel hb
      have e : Pl.specL (fsOf R) (lsOf R) l ⟨kd, (i : Int), ln, co, va⟩ = l := by
        simp [Pl.specL, HK.out]
      rw [e]; exact h)
    have HW4 : Hid (Bel w (w3.setCell ⟨db, 0, none⟩ (.bool true)) ∧ Blk (w3.setCell ⟨db, 0, none⟩ (.bool true)) (wb + 1) 33 [.bool false, .int .i64 0, .slice none 0 0, .slice none 0 0, .slice none 0 0] ∧ Blk (w3.setCell ⟨db, 0, none⟩ (.bool true)) db 33 [.bool true, .int .i64 0, .slice none 0 0, .slice none 0 0, .slice none 0 0]) := Lib.hid ⟨(Below.setCell HW3.out.1 (p := ⟨db, 0, none⟩) (by have h1 := HNE.out; have h2 := HWB.out; simp only; omega) _), (HW3.out.2.2.1.far (p := ⟨db, 0, none⟩) (by have h1 := HNE.out; simp only; omega) _), (HW3.out.2.2.2.set 0 _)⟩
    have m0 : w3.cell? ⟨db, 0, none⟩ = some (.bool false) := HW3.out.2.2.2.cell 0
    have m1 : w3.cell? ⟨db, 1, none⟩ = some (.int .i64 0) := HW3.out.2.2.2.cell 1
    have g0 := HW3.out.2.2.2.frozen 0
    have g1 := HW3.out.2.2.2.frozen 1
    go_upto_region 18 with (fail)
    generalize w3.setCell ⟨db, 0, none⟩ (.bool true) = w4 at HW4 HU ⊢
    clear m0 m1 g0 g1 HW3
    have m0 : w4.cell? ⟨db, 0, none⟩ = some (.bool true) := HW4.out.2.2.cell 0
    have m1 : w4.cell? ⟨db, 1, none⟩ = some (.int .i64 0) := HW4.out.2.2.cell 1
    have m2 : w4.cell? ⟨db, 2, none⟩ = some (.slice none 0 0) := HW4.out.2.2.cell 2
    have m3 : w4.cell? ⟨db, 3, none⟩ = some (.slice none 0 0) := HW4.out.2.2.cell 3
    have m4 : w4.cell? ⟨db, 4, none⟩ = some (.slice none 0 0) := HW4.out.2.2.cell 4
    have q0 : w4.cell? ⟨(wb + 1), 0, none⟩ = some (.bool false) := HW4.out.2.1.cell 0
    have q1 : w4.cell? ⟨(wb + 1), 1, none⟩ = some (.int .i64 0) := HW4.out.2.1.cell 1
    have q2 : w4.cell? ⟨(wb + 1), 2, none⟩ = some (.slice none 0 0) := HW4.out.2.1.cell 2
    have q3 : w4.cell? ⟨(wb + 1), 3, none⟩ = some (.slice none 0 0) := HW4.out.2.1.cell 3
    have q4 : w4.cell? ⟨(wb + 1), 4, none⟩ = some (.slice none 0 0) := HW4.out.2.1.cell 4
    have f0 := HW4.out.2.1.frozen 0
    have f1 := HW4.out.2.1.frozen 1
    have f2 := HW4.out.2.1.frozen 2
    have f3 := HW4.out.2.1.frozen 3
    have f4 := HW4.out.2.1.frozen 4
    have hne : wb + 1 < db := HNE.out
    go_region
    have HF := Lib.hid (five HW4.out.2.1 (.bool true) (.int .i64 0) (.slice none 0 0) (.slice none 0 0) (.slice none 0 0))
    generalize (((((w4.setCell ⟨wb + 1, 0, none⟩ (.bool true)).setCell ⟨wb + 1, 1, none⟩ (.int .i64 0)).setCell ⟨wb + 1, 2, none⟩ (.slice none 0 0)).setCell ⟨wb + 1, 3, none⟩ (.slice none 0 0)).setCell ⟨wb + 1, 4, none⟩ (.slice none 0 0)) = w5 at HF ⊢
    clear m0 m1 m2 m3 m4 q0 q1 q2 q3 q4 f0 f1 f2 f3 f4 hne
    have m0 := HF.out.1.cell 0
    have m1 := HF.out.1.cell 1
    have m2 := HF.out.1.cell 2
    have m3 := HF.out.1.cell 3
    have m4 := HF.out.1.cell 4
    simp only [List.getElem?_cons_succ, List.getElem?_cons_zero] at m0 m1 m2 m3 m4
    go_wp2
    refine bodyPost_ret (v := .tuple #[.slice x l.length y, .agg #[.bool true, .int .i64 0, .slice none 0 0, .slice none 0 0, .slice none 0 0]]) (by simp [results, Try.results11, go_sem, m0, m1, m2, m3, m4]) rfl ?_
    have hbe : Bel w w5.drew := (HW4.out.1.kt HF.out.2.2 (by have := HWB.out; omega)).drew
    refine ⟨.slice x l.length y, ?_, HU.out _ hbe HF.out.2.2.drew, hbe⟩
    rw [HQ.out.1, HQ.out.2])

set_option maxRecDepth 100000 in
set_option maxHeartbeats 4000000 in
theorem spec_2b {w : World} {v : Value} {l : List Pl.LnE} (h : LnO w v l) (_hn : l.length ≤ 100000) {a1 : Option Addr} {n1 c1 : Nat} {R : List Pl.Ent} (hR : Ents w a1 n1 R) {kd ln co va : Int} {i : Nat} (hi : i < n1) (hk : kd = 2) (hfl : Pl.findL l (i : Int) ln = none) :
    Calls Try.prog 11 #[v, .slice a1 n1 c1, .agg #[.int .i64 kd, .int .i64 (i : Int), .int .i64 ln, .int .i64 co, .int .i64 va]] w (SpTo w R l ⟨kd, (i : Int), ln, co, va⟩) := by
  obtain ⟨b, o, rfl, hcell⟩ := hR.2 (by omega)
  obtain ⟨e, he⟩ : ∃ e, R[i]? = some e := ⟨_, List.getElem?_eq_getElem (by rw [hR.1]; exact hi)⟩
  obtain ⟨d0, d1⟩ := hcell i e he
  have HF : Hid (fsOf R i = e.1 ∧ lsOf R i = e.2) := Lib.hid (by
    unfold fsOf lsOf
    rw [List.getD_eq_getElem?_getD, he]
    exact ⟨rfl, rfl⟩)
  clear hcell he hR
  obtain ⟨f, la⟩ := e
  simp only at d0 d1 HF
  have HV := Lib.hid h
  obtain ⟨x, y, rfl, _, _, hE⟩ := h.toS
  have HE := Lib.hid hE; clear hE
  have hb0 : Bel w ((w.alloc (.cells #[.int .i64 kd, .int .i64 (i : Int), .int .i64 ln, .int .i64 co, .int .i64 va] 29)).alloc (.cells #[.bool false, .int .i64 0, .slice none 0 0, .slice none 0 0, .slice none 0 0] 33)) := ((Bel.refl w).alloc _).alloc _
  replace d0 := hb0.cell d0
  replace d1 := hb0.cell d1
  clear hb0
  have hb1 : Bel w (((w.alloc (.cells #[.int .i64 kd, .int .i64 (i : Int), .int .i64 ln, .int .i64 co, .int .i64 va] 29)).alloc (.cells #[.bool false, .int .i64 0, .slice none 0 0, .slice none 0 0, .slice none 0 0] 33)).alloc (.cells #[.int .i64 f, .int .i64 la] 40)) := (((Bel.refl w).alloc _).alloc _).alloc _
  have hB0 : Blk (((w.alloc (.cells #[.int .i64 kd, .int .i64 (i : Int), .int .i64 ln, .int .i64 co, .int .i64 va] 29)).alloc (.cells #[.bool false, .int .i64 0, .slice none 0 0, .slice none 0 0, .slice none 0 0] 33)).alloc (.cells #[.int .i64 f, .int .i64 la] 40)) w.heap.size 29 [.int .i64 kd, .int .i64 (i : Int), .int .i64 ln, .int .i64 co, .int .i64 va] := ((Blk.new w _ [_, _, _, _, _]).alloc _).alloc _
  have hB1 : Blk (((w.alloc (.cells #[.int .i64 kd, .int .i64 (i : Int), .int .i64 ln, .int .i64 co, .int .i64 va] 29)).alloc (.cells #[.bool false, .int .i64 0, .slice none 0 0, .slice none 0 0, .slice none 0 0] 33)).alloc (.cells #[.int .i64 f, .int .i64 la] 40)) (w.heap.size + 1) 33 [.bool false, .int .i64 0, .slice none 0 0, .slice none 0 0, .slice none 0 0] := by
    have := (Blk.new (w.alloc (.cells #[.int .i64 kd, .int .i64 (i : Int), .int .i64 ln, .int .i64 co, .int .i64 va] 29)) 33 [.bool false, .int .i64 0, .slice none 0 0, .slice none 0 0, .slice none 0 0]).alloc (.cells #[.int .i64 f, .int .i64 la] 40)
    rwa [World.size_alloc] at this
  have HW := Lib.hid (And.intro hb1 (And.intro hB0 hB1))
  clear hb1 hB0 hB1
  have HK := Lib.hid hk
  have e0 : (kd == 0) = false := by simp; omega
  have e1 : (kd == 1) = false := by simp; omega
  have e2 : (kd == 2) = true := by simp; omega
  clear hk
  have hin : ln < f ∨ (f ≤ ln ∧ la < ln) ∨ (f ≤ ln ∧ ln ≤ la) := by omega
  rcases hin with h1 | ⟨h1, h2⟩ | ⟨h1, h2⟩
  all_goals (
    go_enter Try.func11, Try.ntmps11
    go_wp2_with fail
    generalize (((w.alloc (.cells #[.int .i64 kd, .int .i64 (i : Int), .int .i64 ln, .int .i64 co, .int .i64 va] 29)).alloc (.cells #[.bool false, .int .i64 0, .slice none 0 0, .slice none 0 0, .slice none 0 0] 33)).alloc (.cells #[.int .i64 f, .int .i64 la] 40)) = w1 at HW ⊢
    have HFL := Lib.hid (findLine_any _ l (i : Int) ln w1 (HV.out.bel HW.out.1).toS)
    rw [hfl] at HFL
    simp only [ixOf] at HFL
    refine HFL.out.mono ?_
    rintro ex w2 ⟨rfl, hb2⟩
    have HW2 := Lib.hid (And.intro (HW.out.1.trans hb2) (And.intro (HW.out.2.1.bel hb2) (HW.out.2.2.bel hb2)))
    have hba : Bel w2 (w2.alloc (.cells #[.bool false, .int .i64 0, .slice none 0 0, .slice none 0 0, .slice none 0 0] 33)) := (Bel.refl w2).alloc _
    have hBD := Blk.new w2 33 [.bool false, .int .i64 0, .slice none 0 0, .slice none 0 0, .slice none 0 0]
    change Blk (w2.alloc (.cells #[.bool false, .int .i64 0, .slice none 0 0, .slice none 0 0, .slice none 0 0] 33)) _ _ _ at hBD
    have HW3 := Lib.hid (And.intro (HW2.out.1.trans hba) (And.intro (HW2.out.2.1.bel hba) (And.intro (HW2.out.2.2.bel hba) hBD)))
    clear hb2 hba hBD HW
    have HNE := Lib.hid HW2.out.2.2.lt
    go_upto_region 5 with (fail)
    generalize w2.alloc (.cells #[.bool false, .int .i64 0, .slice none 0 0, .slice none 0 0, .slice none 0 0] 33) = w3 at HW3 ⊢
    generalize w2.heap.size = db at HW3 HNE ⊢
    generalize hwb : w.heap.size = wb at HW3 HNE ⊢
    have HWB := Lib.hid hwb; clear hwb HW2
    have s0 : w3.cell? ⟨wb, 0, none⟩ = some (.int .i64 kd) := HW3.out.2.1.cell 0
    have s1 : w3.cell? ⟨wb, 1, none⟩ = some (.int .i64 (i : Int)) := HW3.out.2.1.cell 1
    have s2 : w3.cell? ⟨wb, 2, none⟩ = some (.int .i64 ln) := HW3.out.2.1.cell 2
    have s3 : w3.cell? ⟨wb, 3, none⟩ = some (.int .i64 co) := HW3.out.2.1.cell 3
    have s4 : w3.cell? ⟨wb, 4, none⟩ = some (.int .i64 va) := HW3.out.2.1.cell 4
    have HQ : Hid (Pl.specOk l ⟨kd, (i : Int), ln, co, va⟩ = false ∧ Pl.specVal l ⟨kd, (i : Int), ln, co, va⟩ = 0) := Lib.hid (by simp [Pl.specOk, Pl.specVal, HK.out, hfl])
    have HU : Hid (∀ W' : World, Bel w W' → KT outT (wb + 1) (w3.setCell ⟨db, 0, none⟩ (.bool false)) W' → LnO W' (.slice x l.length y) (Pl.specL (fsOf R) (lsOf R) l ⟨kd, (i : Int), ln, co, va⟩)) := Lib.hid (fun W' hb _ => by
      have h := HV.out.bel hb
      have e : Pl.specL (fsOf R) (lsOf R) l ⟨kd, (i : Int), ln, co, va⟩ = l := by
        simp [Pl.specL, HK.out]
      rw [e]; exact h)
    have HW4 : Hid (Bel w (w3.setCell ⟨db, 0, none⟩ (.bool false)) ∧ Blk (w3.setCell ⟨db, 0, none⟩ (.bool false)) (wb + 1) 33 [.bool false, .int .i64 0, .slice none 0 0, .slice none 0 0, .slice none 0 0] ∧ Blk (w3.setCell ⟨db, 0, none⟩ (.bool false)) db 33 [.bool false, .int .i64 0, .slice none 0 0, .slice none 0 0, .slice none 0 0]) := Lib.hid ⟨(Below.setCell HW3.out.1 (p := ⟨db, 0, none⟩) (by have h1 := HNE.out; have h2 := HWB.out; simp only; omega) _), (HW3.out.2.2.1.far (p := ⟨db, 0, none⟩) (by have h1 := HNE.out; simp only; omega) _), (HW3.out.2.2.2.set 0 _)⟩
    have m0 : w3.cell? ⟨db, 0, none⟩ = some (.bool false) := HW3.out.2.2.2.cell 0
    have m1 : w3.cell? ⟨db, 1, none⟩ = some (.int .i64 0) := HW3.out.2.2.2.cell 1
    have g0 := HW3.out.2.2.2.frozen 0
    have g1 := HW3.out.2.2.2.frozen 1
    go_upto_region 18 with (fail)
    generalize w3.setCell ⟨db, 0, none⟩ (.bool false) = w4 at HW4 HU ⊢
    clear m0 m1 g0 g1 HW3
    have m0 : w4.cell? ⟨db, 0, none⟩ = some (.bool false) := HW4.out.2.2.cell 0
    have m1 : w4.cell? ⟨db, 1, none⟩ = some (.int .i64 0) := HW4.out.2.2.cell 1
    have m2 : w4.cell? ⟨db, 2, none⟩ = some (.slice none 0 0) := HW4.out.2.2.cell 2
    have m3 : w4.cell? ⟨db, 3, none⟩ = some (.slice none 0 0) := HW4.out.2.2.cell 3
    have m4 : w4.cell? ⟨db, 4, none⟩ = some (.slice none 0 0) := HW4.out.2.2.cell 4
    have q0 : w4.cell? ⟨(wb + 1), 0, none⟩ = some (.bool false) := HW4.out.2.1.cell 0
    have q1 : w4.cell? ⟨(wb + 1), 1, none⟩ = some (.int .i64 0) := HW4.out.2.1.cell 1
    have q2 : w4.cell? ⟨(wb + 1), 2, none⟩ = some (.slice none 0 0) := HW4.out.2.1.cell 2
    have q3 : w4.cell? ⟨(wb + 1), 3, none⟩ = some (.slice none 0 0) := HW4.out.2.1.cell 3
    have q4 : w4.cell? ⟨(wb + 1), 4, none⟩ = some (.slice none 0 0) := HW4.out.2.1.cell 4
    have f0 := HW4.out.2.1.frozen 0
    have f1 := HW4.out.2.1.frozen 1
    have f2 := HW4.out.2.1.frozen 2
    have f3 := HW4.out.2.1.frozen 3
    have f4 := HW4.out.2.1.frozen 4
    have hne : wb + 1 < db := HNE.out
    go_region
    have HF := Lib.hid (five HW4.out.2.1 (.bool false) (.int .i64 0) (.slice none 0 0) (.slice none 0 0) (.slice none 0 0))
    generalize (((((w4.setCell ⟨wb + 1, 0, none⟩ (.bool false)).setCell ⟨wb + 1, 1, none⟩ (.int .i64 0)).setCell ⟨wb + 1, 2, none⟩ (.slice none 0 0)).setCell ⟨wb + 1, 3, none⟩ (.slice none 0 0)).setCell ⟨wb + 1, 4, none⟩ (.slice none 0 0)) = w5 at HF ⊢
    clear m0 m1 m2 m3 m4 q0 q1 q2 q3 q4 f0 f1 f2 f3 f4 hne
    have m0 := HF.out.1.cell 0
    have m1 := HF.out.1.cell 1
    have m2 := HF.out.1.cell 2
    have m3 := HF.out.1.cell 3
    have m4 := HF.out.1.cell 4
    simp only [List.getElem?_cons_succ, List.getElem?_cons_zero] at m0 m1 m2 m3 m4
    go_wp2
    refine bodyPost_ret (v := .tuple #[.slice x l.length y, .agg #[.bool false, .int .i64 0, .slice none 0 0, .slice none 0 0, .slice none 0 0]]) (by simp [results, Try.results11, go_sem, m0, m1, m2, m3, m4]) rfl ?_
    have hbe : Bel w w5.drew := (HW4.out.1.kt HF.out.2.2 (by have := HWB.out; omega)).drew
    refine ⟨.slice x l.length y, ?_, HU.out _ hbe HF.out.2.2.drew, hbe⟩
    rw [HQ.out.1, HQ.out.2])

set_option maxRecDepth 100000 in
set_option maxHeartbeats 4000000 in
theorem spec_3b {w : World} {v : Value} {l : List Pl.LnE} (h : LnO w v l) (_hn : l.length ≤ 100000) {a1 : Option Addr} {n1 c1 : Nat} {R : List Pl.Ent} (hR : Ents w a1 n1 R) {kd ln co va : Int} {i : Nat} (hi : i < n1) (hk : kd = 3) (hfl : Pl.findL l (i : Int) ln = none) :
    Calls Try.prog 11 #[v, .slice a1 n1 c1, .agg #[.int .i64 kd, .int .i64 (i : Int), .int .i64 ln, .int .i64 co, .int .i64 va]] w (SpTo w R l ⟨kd, (i : Int), ln, co, va⟩) := by
  obtain ⟨b, o, rfl, hcell⟩ := hR.2 (by omega)
  obtain ⟨e, he⟩ : ∃ e, R[i]? = some e := ⟨_, List.getElem?_eq_getElem (by rw [hR.1]; exact hi)⟩
  obtain ⟨d0, d1⟩ := hcell i e he
  have HF : Hid (fsOf R i = e.1 ∧ lsOf R i = e.2) := Lib.hid (by
    unfold fsOf lsOf
    rw [List.getD_eq_getElem?_getD, he]
    exact ⟨rfl, rfl⟩)
  clear hcell he hR
  obtain ⟨f, la⟩ := e
  simp only at d0 d1 HF
  have HV := Lib.hid h
  obtain ⟨x, y, rfl, _, _, hE⟩ := h.toS
  have HE := Lib.hid hE; clear hE
  have hb0 : Bel w ((w.alloc (.cells #[.int .i64 kd, .int .i64 (i : Int), .int .i64 ln, .int .i64 co, .int .i64 va] 29)).alloc (.cells #[.bool false, .int .i64 0, .slice none 0 0, .slice none 0 0, .slice none 0 0] 33)) := ((Bel.refl w).alloc _).alloc _
  replace d0 := hb0.cell d0
  replace d1 := hb0.cell d1
  clear hb0
  have hb1 : Bel w (((w.alloc (.cells #[.int .i64 kd, .int .i64 (i : Int), .int .i64 ln, .int .i64 co, .int .i64 va] 29)).alloc (.cells #[.bool false, .int .i64 0, .slice none 0 0, .slice none 0 0, .slice none 0 0] 33)).alloc (.cells #[.int .i64 f, .int .i64 la] 40)) := (((Bel.refl w).alloc _).alloc _).alloc _
  have hB0 : Blk (((w.alloc (.cells #[.int .i64 kd, .int .i64 (i : Int), .int .i64 ln, .int .i64 co, .int .i64 va] 29)).alloc (.cells #[.bool false, .int .i64 0, .slice none 0 0, .slice none 0 0, .slice none 0 0] 33)).alloc (.cells #[.int .i64 f, .int .i64 la] 40)) w.heap.size 29 [.int .i64 kd, .int .i64 (i : Int), .int .i64 ln, .int .i64 co, .int .i64 va] := ((Blk.new w _ [_, _, _, _, _]).alloc _).alloc _
  have hB1 : Blk (((w.alloc (.cells #[.int .i64 kd, .int .i64 (i : Int), .int .i64 ln, .int .i64 co, .int .i64 va] 29)).alloc (.cells #[.bool false, .int .i64 0, .slice none 0 0, .slice none 0 0, .slice none 0 0] 33)).alloc (.cells #[.int .i64 f, .int .i64 la] 40)) (w.heap.size + 1) 33 [.bool false, .int .i64 0, .slice none 0 0, .slice none 0 0, .slice none 0 0] := by
    have := (Blk.new (w.alloc (.cells #[.int .i64 kd, .int .i64 (i : Int), .int .i64 ln, .int .i64 co, .int .i64 va] 29)) 33 [.bool false, .int .i64 0, .slice none 0 0, .slice none 0 0, .slice none 0 0]).alloc (.cells #[.int .i64 f, .int .i64 la] 40)
    rwa [World.size_alloc] at this
  have HW := Lib.hid (And.intro hb1 (And.intro hB0 hB1))
  clear hb1 hB0 hB1
  have HK := Lib.hid hk
  have e0 : (kd == 0) = false := by simp; omega
  have e1 : (kd == 1) = false := by simp; omega
  have e2 : (kd == 2) = false := by simp; omega
  have e3 : (kd == 3) = true := by simp; omega
  clear hk
  have hin : ln < f ∨ (f ≤ ln ∧ la < ln) ∨ (f ≤ ln ∧ ln ≤ la) := by omega
  rcases hin with h1 | ⟨h1, h2⟩ | ⟨h1, h2⟩
  all_goals (
    go_enter Try.func11, Try.ntmps11
    go_wp2_with fail
    generalize (((w.alloc (.cells #[.int .i64 kd, .int .i64 (i : Int), .int .i64 ln, .int .i64 co, .int .i64 va] 29)).alloc (.cells #[.bool false, .int .i64 0, .slice none 0 0, .slice none 0 0, .slice none 0 0] 33)).alloc (.cells #[.int .i64 f, .int .i64 la] 40)) = w1 at HW ⊢
    have HFL := Lib.hid (findLine_any _ l (i : Int) ln w1 (HV.out.bel HW.out.1).toS)
    rw [hfl] at HFL
    simp only [ixOf] at HFL
    refine HFL.out.mono ?_
    rintro ex w2 ⟨rfl, hb2⟩
    have HW2 := Lib.hid (And.intro (HW.out.1.trans hb2) (And.intro (HW.out.2.1.bel hb2) (HW.out.2.2.bel hb2)))
    have hba : Bel w2 (w2.alloc (.cells #[.bool false, .int .i64 0, .slice none 0 0, .slice none 0 0, .slice none 0 0] 33)) := (Bel.refl w2).alloc _
    have hBD := Blk.new w2 33 [.bool false, .int .i64 0, .slice none 0 0, .slice none 0 0, .slice none 0 0]
    change Blk (w2.alloc (.cells #[.bool false, .int .i64 0, .slice none 0 0, .slice none 0 0, .slice none 0 0] 33)) _ _ _ at hBD
    have HW3 := Lib.hid (And.intro (HW2.out.1.trans hba) (And.intro (HW2.out.2.1.bel hba) (And.intro (HW2.out.2.2.bel hba) hBD)))
    clear hb2 hba hBD HW
    have HNE := Lib.hid HW2.out.2.2.lt
    go_upto_region 5 with (fail)
    generalize w2.alloc (.cells #[.bool false, .int .i64 0, .slice none 0 0, .slice none 0 0, .slice none 0 0] 33) = w3 at HW3 ⊢
    generalize w2.heap.size = db at HW3 HNE ⊢
    generalize hwb : w.heap.size = wb at HW3 HNE ⊢
    have HWB := Lib.hid hwb; clear hwb HW2
    have s0 : w3.cell? ⟨wb, 0, none⟩ = some (.int .i64 kd) := HW3.out.2.1.cell 0
    have s1 : w3.cell? ⟨wb, 1, none⟩ = some (.int .i64 (i : Int)) := HW3.out.2.1.cell 1
    have s2 : w3.cell? ⟨wb, 2, none⟩ = some (.int .i64 ln) := HW3.out.2.1.cell 2
    have s3 : w3.cell? ⟨wb, 3, none⟩ = some (.int .i64 co) := HW3.out.2.1.cell 3
    have s4 : w3.cell? ⟨wb, 4, none⟩ = some (.int .i64 va) := HW3.out.2.1.cell 4
    have HQ : Hid (Pl.specOk l ⟨kd, (i : Int), ln, co, va⟩ = false ∧ Pl.specVal l ⟨kd, (i : Int), ln, co, va⟩ = 0) := Lib.hid (by simp [Pl.specOk, Pl.specVal, HK.out, hfl])
    have HU : Hid (∀ W' : World, Bel w W' → KT outT (wb + 1) w3 W' → LnO W' (.slice x l.length y) (Pl.specL (fsOf R) (lsOf R) l ⟨kd, (i : Int), ln, co, va⟩)) := Lib.hid (fun W' hb _ => by
      have h := HV.out.bel hb
      have e : Pl.specL (fsOf R) (lsOf R) l ⟨kd, (i : Int), ln, co, va⟩ = l := by
        simp [Pl.specL, HK.out]
      rw [e]; exact h)
    have HW4 := Lib.hid (And.intro HW3.out.1 (And.intro HW3.out.2.2.1 HW3.out.2.2.2))
    clear HW3
    go_upto_region 18 with (fail)
    have m0 : w3.cell? ⟨db, 0, none⟩ = some (.bool false) := HW4.out.2.2.cell 0
    have m1 : w3.cell? ⟨db, 1, none⟩ = some (.int .i64 0) := HW4.out.2.2.cell 1
    have m2 : w3.cell? ⟨db, 2, none⟩ = some (.slice none 0 0) := HW4.out.2.2.cell 2
    have m3 : w3.cell? ⟨db, 3, none⟩ = some (.slice none 0 0) := HW4.out.2.2.cell 3
    have m4 : w3.cell? ⟨db, 4, none⟩ = some (.slice none 0 0) := HW4.out.2.2.cell 4
    have q0 : w3.cell? ⟨(wb + 1), 0, none⟩ = some (.bool false) := HW4.out.2.1.cell 0
    have q1 : w3.cell? ⟨(wb + 1), 1, none⟩ = some (.int .i64 0) := HW4.out.2.1.cell 1
    have q2 : w3.cell? ⟨(wb + 1), 2, none⟩ = some (.slice none 0 0) := HW4.out.2.1.cell 2
    have q3 : w3.cell? ⟨(wb + 1), 3, none⟩ = some (.slice none 0 0) := HW4.out.2.1.cell 3
    have q4 : w3.cell? ⟨(wb + 1), 4, none⟩ = some (.slice none 0 0) := HW4.out.2.1.cell 4
    have f0 := HW4.out.2.1.frozen 0
    have f1 := HW4.out.2.1.frozen 1
    have f2 := HW4.out.2.1.frozen 2
    have f3 := HW4.out.2.1.frozen 3
    have f4 := HW4.out.2.1.frozen 4
    have hne : wb + 1 < db := HNE.out
    go_region
    have HF := Lib.hid (five HW4.out.2.1 (.bool false) (.int .i64 0) (.slice none 0 0) (.slice none 0 0) (.slice none 0 0))
    generalize (((((w3.setCell ⟨wb + 1, 0, none⟩ (.bool false)).setCell ⟨wb + 1, 1, none⟩ (.int .i64 0)).setCell ⟨wb + 1, 2, none⟩ (.slice none 0 0)).setCell ⟨wb + 1, 3, none⟩ (.slice none 0 0)).setCell ⟨wb + 1, 4, none⟩ (.slice none 0 0)) = w5 at HF ⊢
    clear m0 m1 m2 m3 m4 q0 q1 q2 q3 q4 f0 f1 f2 f3 f4 hne
    have m0 := HF.out.1.cell 0
    have m1 := HF.out.1.cell 1
    have m2 := HF.out.1.cell 2
    have m3 := HF.out.1.cell 3
    have m4 := HF.out.1.cell 4
    simp only [List.getElem?_cons_succ, List.getElem?_cons_zero] at m0 m1 m2 m3 m4
    go_wp2
    refine bodyPost_ret (v := .tuple #[.slice x l.length y, .agg #[.bool false, .int .i64 0, .slice none 0 0, .slice none 0 0, .slice none 0 0]]) (by simp [results, Try.results11, go_sem, m0, m1, m2, m3, m4]) rfl ?_
    have hbe : Bel w w5.drew := (HW4.out.1.kt HF.out.2.2 (by have := HWB.out; omega)).drew
    refine ⟨.slice x l.length y, ?_, HU.out _ hbe HF.out.2.2.drew, hbe⟩
    rw [HQ.out.1, HQ.out.2])
end Go.Proofs.Ytangceejmjklcaa
