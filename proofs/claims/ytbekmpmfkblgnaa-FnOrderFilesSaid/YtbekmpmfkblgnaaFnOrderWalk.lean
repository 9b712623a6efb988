/- The walk of FnOrder. -/
import Derived.Test.YtbekmpmfkblgnaaPos8
import Derived.Test.YtbekmpmfkblgnaaRel3
namespace Go.Proofs.Ytbekmpmfkblgnaa
open Go.RowKit Go.BigFrame

theorem compared_as (p q : PlaceD) (w : World) (hp : placedB p 4 = true) (hq : placedB q 4 = true) {x y f l : Bool} (h1 : cmpB p q = x) (h2 : cmpB q p = y) (h3 : decide (p.file = q.file) = f) (h4 : decide (p.file = q.file ∧ p.line = q.line) = l) :
    Calls Try.prog 26 #[placeV p, placeV q] w fun e w' => e = .returned (.tuple #[.bool x, .bool y, .bool f, .bool l]) ∧ Bel w w' := by
  have := compared_any p q w hp hq
  rw [h1, h2, h3, h4] at this
  exact this
theorem beq_of {a b : Int} (h : a = b) : (a == b) = true := by subst h; simp
theorem beq_not {a b : Int} (h : ¬ a = b) : (a == b) = false := by simp [h]
theorem bb (b : Bool) : (b == b) = true := by cases b <;> rfl

/-- The boxes of the two arguments. -/
def Two (w W : World) (p q : PlaceD) : Prop := PBox W w.heap.size p ∧ PBox W (w.heap.size + 1) q ∧ Bel w W
theorem Two.start (w : World) (p q : PlaceD) : Two w ((w.alloc (.cells #[.int .i64 p.file, .int .i64 p.line, .int .i64 p.col, .int .i64 p.stmt, .int .i64 p.logue] 23)).alloc (.cells #[.int .i64 q.file, .int .i64 q.line, .int .i64 q.col, .int .i64 q.stmt, .int .i64 q.logue] 23)) p q :=
  ⟨(PBox.new w p _ rfl).bel ((Bel.refl _).alloc _), PBox.new (w.alloc _) q _ (World.size_alloc _ _), ((Bel.refl w).alloc _).alloc _⟩
theorem Two.bel {w W W' : World} {p q : PlaceD} (h : Two w W p q) (hb : Bel W W') : Two w W' p q := ⟨h.1.bel hb, h.2.1.bel hb, h.2.2.trans hb⟩

set_option maxRecDepth 100000 in
set_option maxHeartbeats 2000000 in
theorem order1 (p q : PlaceD) (w : World) (hA : placedB p 4 = true) (hB : placedB q 4 = true) (hf : ¬ p.file = q.file) :
    Calls Try.prog 8 #[placeV p, placeV q] w fun e w' => e = .returned (.bool true) ∧ Bel w w' := by
  have HPA := Lib.hid (fun W => placed_any p 4 W)
  have HPB := Lib.hid (fun W => placed_any q 4 W)
  rw [hA] at HPA
  rw [hB] at HPB
  have HT0 := Lib.hid (Two.start w p q)
  have HCM := Lib.hid (fun W => compared_as p q W hA hB (x := decide (p.file < q.file)) (y := decide (q.file < p.file)) (f := false) (l := false) (decide_eq_decide.2 (by omega)) (decide_eq_decide.2 (by omega)) (decide_eq_false hf) (decide_eq_false (fun h => hf h.1)))
  have t1 := beq_not hf
  have n1 : (decide (p.file < q.file) != decide (q.file < p.file)) = true := by
    rcases Int.lt_or_gt_of_ne hf with h | h
    · rw [decide_eq_true h, decide_eq_false (by omega)]; rfl
    · rw [decide_eq_true (show q.file < p.file from h), decide_eq_false (by omega)]; rfl
  generalize decide (p.file < q.file) = x at *
  generalize decide (q.file < p.file) = y at *
  have n3 : (x == y) = false := by cases x <;> cases y <;> first | rfl | cases n1
  clear hf n1
  clear hA hB
  obtain ⟨pf, pl, pc, ps, px⟩ := p
  obtain ⟨qf, ql, qc, qs, qx⟩ := q
  simp only at *
  go_enter Try.func8, Try.ntmps8
  go_wp2_with fail
  refine (HPA.out _).mono ?_
  rintro e w1 ⟨rfl, hb1⟩
  have HT1 := Lib.hid (HT0.out.bel hb1)
  clear hb1 HT0
  obtain ⟨y0, y1, y2, y3, y4⟩ := HT1.out.2.1.all
  go_wp2_with fail
  refine (HPB.out _).mono ?_
  rintro e w2 ⟨rfl, hb2⟩
  have HT2 := Lib.hid (HT1.out.bel hb2)
  clear hb2 HT1 y0 y1 y2 y3 y4
  obtain ⟨x0, x1, x2, x3, x4⟩ := HT2.out.1.all
  obtain ⟨y0, y1, y2, y3, y4⟩ := HT2.out.2.1.all
  go_wp2_with fail
  refine (HCM.out _).mono ?_
  rintro e w3 ⟨rfl, hb3⟩
  have HT3 := Lib.hid (HT2.out.bel hb3)
  clear hb3 HT2 x0 x1 x2 x3 x4 y0 y1 y2 y3 y4
  obtain ⟨x0, x1, x2, x3, x4⟩ := HT3.out.1.all
  obtain ⟨y0, y1, y2, y3, y4⟩ := HT3.out.2.1.all
  have hbw := HT3.out.2.2
  go_wp2
  go_ret
  exact ⟨rfl, hbw⟩
set_option maxRecDepth 100000 in
set_option maxHeartbeats 2000000 in
theorem order2 (p q : PlaceD) (w : World) (hA : placedB p 4 = true) (hB : placedB q 4 = true) (hf : p.file = q.file) (hl : p.line = q.line) :
    Calls Try.prog 8 #[placeV p, placeV q] w fun e w' => e = .returned (.bool true) ∧ Bel w w' := by
  have HPA := Lib.hid (fun W => placed_any p 4 W)
  have HPB := Lib.hid (fun W => placed_any q 4 W)
  rw [hA] at HPA
  rw [hB] at HPB
  have HT0 := Lib.hid (Two.start w p q)
  have hc1 : cmpB p q = befB p q := decide_eq_decide.2 (by omega)
  have hc2 : cmpB q p = befB q p := decide_eq_decide.2 (by omega)
  have HCM := Lib.hid (fun W => compared_as p q W hA hB (f := true) (l := true) hc1 hc2 (decide_eq_true hf) (decide_eq_true ⟨hf, hl⟩))
  have t1 := beq_of hf
  have t2 := beq_of hl
  clear hc1 hc2 hf hl
  clear hA hB
  obtain ⟨pf, pl, pc, ps, px⟩ := p
  obtain ⟨qf, ql, qc, qs, qx⟩ := q
  simp only at *
  go_enter Try.func8, Try.ntmps8
  go_wp2_with fail
  refine (HPA.out _).mono ?_
  rintro e w1 ⟨rfl, hb1⟩
  have HT1 := Lib.hid (HT0.out.bel hb1)
  clear hb1 HT0
  obtain ⟨y0, y1, y2, y3, y4⟩ := HT1.out.2.1.all
  go_wp2_with fail
  refine (HPB.out _).mono ?_
  rintro e w2 ⟨rfl, hb2⟩
  have HT2 := Lib.hid (HT1.out.bel hb2)
  clear hb2 HT1 y0 y1 y2 y3 y4
  obtain ⟨x0, x1, x2, x3, x4⟩ := HT2.out.1.all
  obtain ⟨y0, y1, y2, y3, y4⟩ := HT2.out.2.1.all
  go_wp2_with fail
  refine (HCM.out _).mono ?_
  rintro e w3 ⟨rfl, hb3⟩
  have HT3 := Lib.hid (HT2.out.bel hb3)
  clear hb3 HT2 x0 x1 x2 x3 x4 y0 y1 y2 y3 y4
  obtain ⟨x0, x1, x2, x3, x4⟩ := HT3.out.1.all
  obtain ⟨y0, y1, y2, y3, y4⟩ := HT3.out.2.1.all
  have HS1 := Lib.hid (fun W => specBefore_any ⟨pf, pl, pc, ps, px⟩ ⟨qf, ql, qc, qs, qx⟩ W)
  have HS2 := Lib.hid (fun W => specBefore_any ⟨qf, ql, qc, qs, qx⟩ ⟨pf, pl, pc, ps, px⟩ W)
  generalize befB ⟨pf, pl, pc, ps, px⟩ ⟨qf, ql, qc, qs, qx⟩ = x at *
  generalize befB ⟨qf, ql, qc, qs, qx⟩ ⟨pf, pl, pc, ps, px⟩ = y at *
  have n1 := bb x
  have n2 := bb y
  go_wp2_with fail
  refine (HS1.out _).mono ?_
  rintro e w4 ⟨rfl, hb4⟩
  have HT4 := Lib.hid (HT3.out.bel hb4)
  clear hb4 HT3 x0 x1 x2 x3 x4 y0 y1 y2 y3 y4
  obtain ⟨x0, x1, x2, x3, x4⟩ := HT4.out.1.all
  obtain ⟨y0, y1, y2, y3, y4⟩ := HT4.out.2.1.all
  go_wp2_with fail
  refine (HS2.out _).mono ?_
  rintro e w5 ⟨rfl, hb5⟩
  have hbw := HT4.out.2.2.trans hb5
  go_wp2
  go_ret
  exact ⟨rfl, hbw⟩
set_option maxRecDepth 100000 in
set_option maxHeartbeats 2000000 in
theorem order3 (p q : PlaceD) (w : World) (hA : placedB p 4 = true) (hB : placedB q 4 = true) (hf : p.file = q.file) (hl : ¬ p.line = q.line) :
    Calls Try.prog 8 #[placeV p, placeV q] w fun e w' => e = .returned (.bool true) ∧ Bel w w' := by
  have HPA := Lib.hid (fun W => placed_any p 4 W)
  have HPB := Lib.hid (fun W => placed_any q 4 W)
  rw [hA] at HPA
  rw [hB] at HPB
  have HT0 := Lib.hid (Two.start w p q)
  have hc1 : cmpB p q = befB p q := decide_eq_decide.2 (by omega)
  have hc2 : cmpB q p = befB q p := decide_eq_decide.2 (by omega)
  have HCM := Lib.hid (fun W => compared_as p q W hA hB (f := true) (l := false) hc1 hc2 (decide_eq_true hf) (decide_eq_false (fun h => hl h.2)))
  have t1 := beq_of hf
  have t2 := beq_not hl
  clear hc1 hc2 hf hl
  clear hA hB
  obtain ⟨pf, pl, pc, ps, px⟩ := p
  obtain ⟨qf, ql, qc, qs, qx⟩ := q
  simp only at *
  go_enter Try.func8, Try.ntmps8
  go_wp2_with fail
  refine (HPA.out _).mono ?_
  rintro e w1 ⟨rfl, hb1⟩
  have HT1 := Lib.hid (HT0.out.bel hb1)
  clear hb1 HT0
  obtain ⟨y0, y1, y2, y3, y4⟩ := HT1.out.2.1.all
  go_wp2_with fail
  refine (HPB.out _).mono ?_
  rintro e w2 ⟨rfl, hb2⟩
  have HT2 := Lib.hid (HT1.out.bel hb2)
  clear hb2 HT1 y0 y1 y2 y3 y4
  obtain ⟨x0, x1, x2, x3, x4⟩ := HT2.out.1.all
  obtain ⟨y0, y1, y2, y3, y4⟩ := HT2.out.2.1.all
  go_wp2_with fail
  refine (HCM.out _).mono ?_
  rintro e w3 ⟨rfl, hb3⟩
  have HT3 := Lib.hid (HT2.out.bel hb3)
  clear hb3 HT2 x0 x1 x2 x3 x4 y0 y1 y2 y3 y4
  obtain ⟨x0, x1, x2, x3, x4⟩ := HT3.out.1.all
  obtain ⟨y0, y1, y2, y3, y4⟩ := HT3.out.2.1.all
  have HS1 := Lib.hid (fun W => specBefore_any ⟨pf, pl, pc, ps, px⟩ ⟨qf, ql, qc, qs, qx⟩ W)
  have HS2 := Lib.hid (fun W => specBefore_any ⟨qf, ql, qc, qs, qx⟩ ⟨pf, pl, pc, ps, px⟩ W)
  generalize befB ⟨pf, pl, pc, ps, px⟩ ⟨qf, ql, qc, qs, qx⟩ = x at *
  generalize befB ⟨qf, ql, qc, qs, qx⟩ ⟨pf, pl, pc, ps, px⟩ = y at *
  have n1 := bb x
  have n2 := bb y
  go_wp2_with fail
  refine (HS1.out _).mono ?_
  rintro e w4 ⟨rfl, hb4⟩
  have HT4 := Lib.hid (HT3.out.bel hb4)
  clear hb4 HT3 x0 x1 x2 x3 x4 y0 y1 y2 y3 y4
  obtain ⟨x0, x1, x2, x3, x4⟩ := HT4.out.1.all
  obtain ⟨y0, y1, y2, y3, y4⟩ := HT4.out.2.1.all
  go_wp2_with fail
  refine (HS2.out _).mono ?_
  rintro e w5 ⟨rfl, hb5⟩
  have hbw := HT4.out.2.2.trans hb5
  go_wp2
  go_ret
  exact ⟨rfl, hbw⟩
set_option maxHeartbeats 1000000 in
theorem order_out (p q : PlaceD) (w : World) (h : ¬ (placedB p 4 = true ∧ placedB q 4 = true)) :
    Calls Try.prog 8 #[placeV p, placeV q] w fun e w' => e = .returned (.bool true) ∧ Bel w w' := by
  have HPA := Lib.hid (fun W => placed_any p 4 W)
  have HPB := Lib.hid (fun W => placed_any q 4 W)
  have HT0 := Lib.hid (Two.start w p q)
  cases hA : placedB p 4
  · rw [hA] at HPA
    clear h hA
    obtain ⟨pf, pl, pc, ps, px⟩ := p
    obtain ⟨qf, ql, qc, qs, qx⟩ := q
    go_enter Try.func8, Try.ntmps8
    go_wp2_with fail
    refine (HPA.out _).mono ?_
    rintro e w1 ⟨rfl, hb1⟩
    have hbw := (HT0.out.bel hb1).2.2
    go_wp2
    go_ret
    exact ⟨rfl, hbw⟩
  have hB : placedB q 4 = false := by cases hB : placedB q 4; rfl; exact absurd ⟨hA, hB⟩ h
  rw [hA] at HPA
  rw [hB] at HPB
  clear h hA hB
  obtain ⟨pf, pl, pc, ps, px⟩ := p
  obtain ⟨qf, ql, qc, qs, qx⟩ := q
  go_enter Try.func8, Try.ntmps8
  go_wp2_with fail
  refine (HPA.out _).mono ?_
  rintro e w1 ⟨rfl, hb1⟩
  have HT1 := Lib.hid (HT0.out.bel hb1)
  clear hb1 HT0
  obtain ⟨y0, y1, y2, y3, y4⟩ := HT1.out.2.1.all
  go_wp2_with fail
  refine (HPB.out _).mono ?_
  rintro e w2 ⟨rfl, hb2⟩
  have hbw := (HT1.out.bel hb2).2.2
  go_wp2
  go_ret
  exact ⟨rfl, hbw⟩
theorem law_FnOrder (w : World) (p : PlaceD) (_hp : PlaceIn p) (q : PlaceD) (_hq : PlaceIn q) :
    Calls Try.prog 8 #[placeV p, placeV q] w fun e w' => e = .returned (.bool true) ∧ Bel w w' := by
  by_cases h : placedB p 4 = true ∧ placedB q 4 = true
  · by_cases hf : p.file = q.file
    · by_cases hl : p.line = q.line
      · exact order2 p q w h.1 h.2 hf hl
      · exact order3 p q w h.1 h.2 hf hl
    · exact order1 p q w h.1 h.2 hf
  · exact order_out p q w h
end Go.Proofs.Ytbekmpmfkblgnaa
