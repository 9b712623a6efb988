/- The walk of FnOrderChain. -/
import Derived.Test.YtbekmpmfkblgnaaFnOrderWalk
namespace Go.Proofs.Ytbekmpmfkblgnaa
open Go.RowKit Go.BigFrame

/-- The boxes of the arguments. -/
def Thr (w W : World) (p0 p1 p2 : PlaceD) : Prop := PBox W (w.heap.size) p0 ∧ PBox W (w.heap.size + 1) p1 ∧ PBox W (w.heap.size + 1 + 1) p2 ∧ Bel w W
theorem Thr.start (w : World) (p0 p1 p2 : PlaceD) : Thr w (((w.alloc (.cells #[.int .i64 p0.file, .int .i64 p0.line, .int .i64 p0.col, .int .i64 p0.stmt, .int .i64 p0.logue] 23)).alloc (.cells #[.int .i64 p1.file, .int .i64 p1.line, .int .i64 p1.col, .int .i64 p1.stmt, .int .i64 p1.logue] 23)).alloc (.cells #[.int .i64 p2.file, .int .i64 p2.line, .int .i64 p2.col, .int .i64 p2.stmt, .int .i64 p2.logue] 23)) p0 p1 p2 :=
  ⟨((PBox.new w p0 _ (rfl)).bel (((Bel.refl _).alloc _).alloc _)), ((PBox.new ((w.alloc (.cells #[.int .i64 p0.file, .int .i64 p0.line, .int .i64 p0.col, .int .i64 p0.stmt, .int .i64 p0.logue] 23))) p1 _ (by simp)).bel ((Bel.refl _).alloc _)), (PBox.new (((w.alloc (.cells #[.int .i64 p0.file, .int .i64 p0.line, .int .i64 p0.col, .int .i64 p0.stmt, .int .i64 p0.logue] 23)).alloc (.cells #[.int .i64 p1.file, .int .i64 p1.line, .int .i64 p1.col, .int .i64 p1.stmt, .int .i64 p1.logue] 23))) p2 _ (by simp)), ((((Bel.refl w).alloc _).alloc _).alloc _)⟩
theorem Thr.bel {w W W' : World} {p0 p1 p2 : PlaceD} (h : Thr w W p0 p1 p2) (hb : Bel W W') : Thr w W' p0 p1 p2 := by
  obtain ⟨h0, h1, h2, hw⟩ := h
  exact ⟨h0.bel hb, h1.bel hb, h2.bel hb, hw.trans hb⟩
theorem Thr.belw {w W : World} {p0 p1 p2 : PlaceD} (h : Thr w W p0 p1 p2) : Bel w W := by
  obtain ⟨_h0, _h1, _h2, hw⟩ := h
  exact hw
set_option maxRecDepth 100000 in
set_option maxHeartbeats 4000000 in
theorem chain_out0 (p0 p1 p2 : PlaceD) (w : World) (hA0 : placedB p0 4 = false) :
    Calls Try.prog 9 #[placeV p0, placeV p1, placeV p2] w fun e w' => e = .returned (.bool true) ∧ Bel w w' := by
  have HT0 := Lib.hid (Thr.start w p0 p1 p2)
  have HP0 := Lib.hid (fun W => placed_any p0 4 W)
  rw [hA0] at HP0
  clear hA0
  obtain ⟨f0, l0, c0, s0, x0⟩ := p0
  obtain ⟨f1, l1, c1, s1, x1⟩ := p1
  obtain ⟨f2, l2, c2, s2, x2⟩ := p2
  simp only at *
  go_enter Try.func9, Try.ntmps9
  go_wp2_with fail
  refine (HP0.out _).mono ?_
  rintro e w1 ⟨rfl, hb1⟩
  have HT1 := Lib.hid (HT0.out.bel hb1)
  clear hb1 HT0
  obtain ⟨hb0, hb1, hb2, _⟩ := HT1.out
  obtain ⟨a00, a01, a02, a03, a04⟩ := hb0.all
  obtain ⟨a10, a11, a12, a13, a14⟩ := hb1.all
  obtain ⟨a20, a21, a22, a23, a24⟩ := hb2.all
  clear hb0 hb1 hb2
  have hbw := HT1.out.belw
  go_wp2
  go_ret
  exact ⟨rfl, hbw⟩
set_option maxRecDepth 100000 in
set_option maxHeartbeats 4000000 in
theorem chain_out1 (p0 p1 p2 : PlaceD) (w : World) (hA0 : placedB p0 4 = true) (hA1 : placedB p1 4 = false) :
    Calls Try.prog 9 #[placeV p0, placeV p1, placeV p2] w fun e w' => e = .returned (.bool true) ∧ Bel w w' := by
  have HT0 := Lib.hid (Thr.start w p0 p1 p2)
  have HP0 := Lib.hid (fun W => placed_any p0 4 W)
  rw [hA0] at HP0
  have HP1 := Lib.hid (fun W => placed_any p1 4 W)
  rw [hA1] at HP1
  clear hA0 hA1
  obtain ⟨f0, l0, c0, s0, x0⟩ := p0
  obtain ⟨f1, l1, c1, s1, x1⟩ := p1
  obtain ⟨f2, l2, c2, s2, x2⟩ := p2
  simp only at *
  go_enter Try.func9, Try.ntmps9
  go_wp2_with fail
  refine (HP0.out _).mono ?_
  rintro e w1 ⟨rfl, hb1⟩
  have HT1 := Lib.hid (HT0.out.bel hb1)
  clear hb1 HT0
  obtain ⟨hb0, hb1, hb2, _⟩ := HT1.out
  obtain ⟨a00, a01, a02, a03, a04⟩ := hb0.all
  obtain ⟨a10, a11, a12, a13, a14⟩ := hb1.all
  obtain ⟨a20, a21, a22, a23, a24⟩ := hb2.all
  clear hb0 hb1 hb2
  go_wp2_with fail
  refine (HP1.out _).mono ?_
  rintro e w2 ⟨rfl, hb2⟩
  have HT2 := Lib.hid (HT1.out.bel hb2)
  clear hb2 HT1
  clear a00 a01 a02 a03 a04 a10 a11 a12 a13 a14 a20 a21 a22 a23 a24
  obtain ⟨hb0, hb1, hb2, _⟩ := HT2.out
  obtain ⟨a00, a01, a02, a03, a04⟩ := hb0.all
  obtain ⟨a10, a11, a12, a13, a14⟩ := hb1.all
  obtain ⟨a20, a21, a22, a23, a24⟩ := hb2.all
  clear hb0 hb1 hb2
  have hbw := HT2.out.belw
  go_wp2
  go_ret
  exact ⟨rfl, hbw⟩
set_option maxRecDepth 100000 in
set_option maxHeartbeats 4000000 in
theorem chain_out2 (p0 p1 p2 : PlaceD) (w : World) (hA0 : placedB p0 4 = true) (hA1 : placedB p1 4 = true) (hA2 : placedB p2 4 = false) :
    Calls Try.prog 9 #[placeV p0, placeV p1, placeV p2] w fun e w' => e = .returned (.bool true) ∧ Bel w w' := by
  have HT0 := Lib.hid (Thr.start w p0 p1 p2)
  have HP0 := Lib.hid (fun W => placed_any p0 4 W)
  rw [hA0] at HP0
  have HP1 := Lib.hid (fun W => placed_any p1 4 W)
  rw [hA1] at HP1
  have HP2 := Lib.hid (fun W => placed_any p2 4 W)
  rw [hA2] at HP2
  clear hA0 hA1 hA2
  obtain ⟨f0, l0, c0, s0, x0⟩ := p0
  obtain ⟨f1, l1, c1, s1, x1⟩ := p1
  obtain ⟨f2, l2, c2, s2, x2⟩ := p2
  simp only at *
  go_enter Try.func9, Try.ntmps9
  go_wp2_with fail
  refine (HP0.out _).mono ?_
  rintro e w1 ⟨rfl, hb1⟩
  have HT1 := Lib.hid (HT0.out.bel hb1)
  clear hb1 HT0
  obtain ⟨hb0, hb1, hb2, _⟩ := HT1.out
  obtain ⟨a00, a01, a02, a03, a04⟩ := hb0.all
  obtain ⟨a10, a11, a12, a13, a14⟩ := hb1.all
  obtain ⟨a20, a21, a22, a23, a24⟩ := hb2.all
  clear hb0 hb1 hb2
  go_wp2_with fail
  refine (HP1.out _).mono ?_
  rintro e w2 ⟨rfl, hb2⟩
  have HT2 := Lib.hid (HT1.out.bel hb2)
  clear hb2 HT1
  clear a00 a01 a02 a03 a04 a10 a11 a12 a13 a14 a20 a21 a22 a23 a24
  obtain ⟨hb0, hb1, hb2, _⟩ := HT2.out
  obtain ⟨a00, a01, a02, a03, a04⟩ := hb0.all
  obtain ⟨a10, a11, a12, a13, a14⟩ := hb1.all
  obtain ⟨a20, a21, a22, a23, a24⟩ := hb2.all
  clear hb0 hb1 hb2
  go_wp2_with fail
  refine (HP2.out _).mono ?_
  rintro e w3 ⟨rfl, hb3⟩
  have HT3 := Lib.hid (HT2.out.bel hb3)
  clear hb3 HT2
  clear a00 a01 a02 a03 a04 a10 a11 a12 a13 a14 a20 a21 a22 a23 a24
  obtain ⟨hb0, hb1, hb2, _⟩ := HT3.out
  obtain ⟨a00, a01, a02, a03, a04⟩ := hb0.all
  obtain ⟨a10, a11, a12, a13, a14⟩ := hb1.all
  obtain ⟨a20, a21, a22, a23, a24⟩ := hb2.all
  clear hb0 hb1 hb2
  have hbw := HT3.out.belw
  go_wp2
  go_ret
  exact ⟨rfl, hbw⟩
set_option maxRecDepth 100000 in
set_option maxHeartbeats 4000000 in
theorem chain_in (p0 p1 p2 : PlaceD) (w : World) (hA0 : placedB p0 4 = true) (hA1 : placedB p1 4 = true) (hA2 : placedB p2 4 = true) :
    Calls Try.prog 9 #[placeV p0, placeV p1, placeV p2] w fun e w' => e = .returned (.bool true) ∧ Bel w w' := by
  have HT0 := Lib.hid (Thr.start w p0 p1 p2)
  have HP0 := Lib.hid (fun W => placed_any p0 4 W)
  rw [hA0] at HP0
  have HP1 := Lib.hid (fun W => placed_any p1 4 W)
  rw [hA1] at HP1
  have HP2 := Lib.hid (fun W => placed_any p2 4 W)
  rw [hA2] at HP2
  have HC1 := Lib.hid (fun W => compared_as p0 p1 W hA0 hA1 (x := cmpB p0 p1) (y := cmpB p1 p0) (f := decide (p0.file = p1.file)) (l := decide (p0.file = p1.file ∧ p0.line = p1.line)) rfl rfl rfl rfl)
  have HC2 := Lib.hid (fun W => compared_as p1 p2 W hA1 hA2 (x := cmpB p1 p2) (y := cmpB p2 p1) (f := decide (p1.file = p2.file)) (l := decide (p1.file = p2.file ∧ p1.line = p2.line)) rfl rfl rfl rfl)
  have HC3 := Lib.hid (fun W => compared_as p0 p2 W hA0 hA2 (x := cmpB p0 p2) (y := cmpB p2 p0) (f := decide (p0.file = p2.file)) (l := decide (p0.file = p2.file ∧ p0.line = p2.line)) rfl rfl rfl rfl)
  have HC4 := Lib.hid (fun W => compared_as p0 p0 W hA0 hA0 (x := false) (y := false) (f := true) (l := true) (decide_eq_false (by omega)) (decide_eq_false (by omega)) (decide_eq_true rfl) (decide_eq_true ⟨rfl, rfl⟩))
  have htr : cmpB p0 p1 = true → cmpB p1 p2 = true → cmpB p0 p2 = true := fun h1 h2 => by
    have h1 := of_decide_eq_true h1
    have h2 := of_decide_eq_true h2
    exact decide_eq_true (by omega)
  generalize cmpB p0 p1 = b1 at *
  generalize cmpB p1 p2 = b2 at *
  generalize cmpB p0 p2 = b3 at *
  generalize cmpB p1 p0 = b4 at *
  generalize cmpB p2 p1 = b5 at *
  generalize cmpB p2 p0 = b6 at *
  generalize decide (p0.file = p1.file) = b7 at *
  generalize decide (p1.file = p2.file) = b8 at *
  generalize decide (p0.file = p2.file) = b9 at *
  generalize decide (p0.file = p1.file ∧ p0.line = p1.line) = b10 at *
  generalize decide (p1.file = p2.file ∧ p1.line = p2.line) = b11 at *
  generalize decide (p0.file = p2.file ∧ p0.line = p2.line) = b12 at *
  have HTR := Lib.hid htr; clear htr hA0 hA1 hA2
  obtain ⟨f0, l0, c0, s0, x0⟩ := p0
  obtain ⟨f1, l1, c1, s1, x1⟩ := p1
  obtain ⟨f2, l2, c2, s2, x2⟩ := p2
  simp only at *
  go_enter Try.func9, Try.ntmps9
  go_wp2_with fail
  refine (HP0.out _).mono ?_
  rintro e w1 ⟨rfl, hb1⟩
  have HT1 := Lib.hid (HT0.out.bel hb1)
  clear hb1 HT0
  obtain ⟨hb0, hb1, hb2, _⟩ := HT1.out
  obtain ⟨a00, a01, a02, a03, a04⟩ := hb0.all
  obtain ⟨a10, a11, a12, a13, a14⟩ := hb1.all
  obtain ⟨a20, a21, a22, a23, a24⟩ := hb2.all
  clear hb0 hb1 hb2
  go_wp2_with fail
  refine (HP1.out _).mono ?_
  rintro e w2 ⟨rfl, hb2⟩
  have HT2 := Lib.hid (HT1.out.bel hb2)
  clear hb2 HT1
  clear a00 a01 a02 a03 a04 a10 a11 a12 a13 a14 a20 a21 a22 a23 a24
  obtain ⟨hb0, hb1, hb2, _⟩ := HT2.out
  obtain ⟨a00, a01, a02, a03, a04⟩ := hb0.all
  obtain ⟨a10, a11, a12, a13, a14⟩ := hb1.all
  obtain ⟨a20, a21, a22, a23, a24⟩ := hb2.all
  clear hb0 hb1 hb2
  go_wp2_with fail
  refine (HP2.out _).mono ?_
  rintro e w3 ⟨rfl, hb3⟩
  have HT3 := Lib.hid (HT2.out.bel hb3)
  clear hb3 HT2
  clear a00 a01 a02 a03 a04 a10 a11 a12 a13 a14 a20 a21 a22 a23 a24
  obtain ⟨hb0, hb1, hb2, _⟩ := HT3.out
  obtain ⟨a00, a01, a02, a03, a04⟩ := hb0.all
  obtain ⟨a10, a11, a12, a13, a14⟩ := hb1.all
  obtain ⟨a20, a21, a22, a23, a24⟩ := hb2.all
  clear hb0 hb1 hb2
  go_wp2_with fail
  refine (HC1.out _).mono ?_
  rintro e w4 ⟨rfl, hb4⟩
  have HT4 := Lib.hid (HT3.out.bel hb4)
  clear hb4 HT3
  clear a00 a01 a02 a03 a04 a10 a11 a12 a13 a14 a20 a21 a22 a23 a24
  obtain ⟨hb0, hb1, hb2, _⟩ := HT4.out
  obtain ⟨a00, a01, a02, a03, a04⟩ := hb0.all
  obtain ⟨a10, a11, a12, a13, a14⟩ := hb1.all
  obtain ⟨a20, a21, a22, a23, a24⟩ := hb2.all
  clear hb0 hb1 hb2
  go_wp2_with fail
  refine (HC2.out _).mono ?_
  rintro e w5 ⟨rfl, hb5⟩
  have HT5 := Lib.hid (HT4.out.bel hb5)
  clear hb5 HT4
  clear a00 a01 a02 a03 a04 a10 a11 a12 a13 a14 a20 a21 a22 a23 a24
  obtain ⟨hb0, hb1, hb2, _⟩ := HT5.out
  obtain ⟨a00, a01, a02, a03, a04⟩ := hb0.all
  obtain ⟨a10, a11, a12, a13, a14⟩ := hb1.all
  obtain ⟨a20, a21, a22, a23, a24⟩ := hb2.all
  clear hb0 hb1 hb2
  go_wp2_with fail
  refine (HC3.out _).mono ?_
  rintro e w6 ⟨rfl, hb6⟩
  have HT6 := Lib.hid (HT5.out.bel hb6)
  clear hb6 HT5
  clear a00 a01 a02 a03 a04 a10 a11 a12 a13 a14 a20 a21 a22 a23 a24
  obtain ⟨hb0, hb1, hb2, _⟩ := HT6.out
  obtain ⟨a00, a01, a02, a03, a04⟩ := hb0.all
  obtain ⟨a10, a11, a12, a13, a14⟩ := hb1.all
  obtain ⟨a20, a21, a22, a23, a24⟩ := hb2.all
  clear hb0 hb1 hb2
  go_wp2_with fail
  refine (HC4.out _).mono ?_
  rintro e w7 ⟨rfl, hb7⟩
  have HT7 := Lib.hid (HT6.out.bel hb7)
  clear hb7 HT6
  clear a00 a01 a02 a03 a04 a10 a11 a12 a13 a14 a20 a21 a22 a23 a24
  obtain ⟨hb0, hb1, hb2, _⟩ := HT7.out
  obtain ⟨a00, a01, a02, a03, a04⟩ := hb0.all
  obtain ⟨a10, a11, a12, a13, a14⟩ := hb1.all
  obtain ⟨a20, a21, a22, a23, a24⟩ := hb2.all
  clear hb0 hb1 hb2
  have hbw := HT7.out.belw
  cases b1
  · go_wp2
    go_ret
    exact ⟨rfl, hbw⟩
  cases b2
  · go_wp2
    go_ret
    exact ⟨rfl, hbw⟩
  have h3 := HTR.out rfl rfl
  subst h3
  go_wp2
  go_ret
  exact ⟨rfl, hbw⟩
theorem law_FnOrderChain (w : World) (p : PlaceD) (_hp : PlaceIn p) (q : PlaceD) (_hq : PlaceIn q) (r : PlaceD) (_hr : PlaceIn r) :
    Calls Try.prog 9 #[placeV p, placeV q, placeV r] w fun e w' => e = .returned (.bool true) ∧ Bel w w' := by
  cases h0 : placedB p 4
  · exact chain_out0 p q r w h0
  cases h1 : placedB q 4
  · exact chain_out1 p q r w h0 h1
  cases h2 : placedB r 4
  · exact chain_out2 p q r w h0 h1 h2
  exact chain_in p q r w h0 h1 h2
end Go.Proofs.Ytbekmpmfkblgnaa
