/- The walk of FnOrderFiles. -/
import Derived.Test.YtbekmpmfkblgnaaFnOrderWalk
namespace Go.Proofs.Ytbekmpmfkblgnaa
open Go.RowKit Go.BigFrame

/-- The boxes of the arguments. -/
def Fou (w W : World) (p0 p1 p2 p3 : PlaceD) : Prop := PBox W (w.heap.size) p0 ∧ PBox W (w.heap.size + 1) p1 ∧ PBox W (w.heap.size + 1 + 1) p2 ∧ PBox W (w.heap.size + 1 + 1 + 1) p3 ∧ Bel w W
theorem Fou.start (w : World) (p0 p1 p2 p3 : PlaceD) : Fou w ((((w.alloc (.cells #[.int .i64 p0.file, .int .i64 p0.line, .int .i64 p0.col, .int .i64 p0.stmt, .int .i64 p0.logue] 23)).alloc (.cells #[.int .i64 p1.file, .int .i64 p1.line, .int .i64 p1.col, .int .i64 p1.stmt, .int .i64 p1.logue] 23)).alloc (.cells #[.int .i64 p2.file, .int .i64 p2.line, .int .i64 p2.col, .int .i64 p2.stmt, .int .i64 p2.logue] 23)).alloc (.cells #[.int .i64 p3.file, .int .i64 p3.line, .int .i64 p3.col, .int .i64 p3.stmt, .int .i64 p3.logue] 23)) p0 p1 p2 p3 :=
  ⟨((PBox.new w p0 _ (rfl)).bel ((((Bel.refl _).alloc _).alloc _).alloc _)), ((PBox.new ((w.alloc (.cells #[.int .i64 p0.file, .int .i64 p0.line, .int .i64 p0.col, .int .i64 p0.stmt, .int .i64 p0.logue] 23))) p1 _ (by simp)).bel (((Bel.refl _).alloc _).alloc _)), ((PBox.new (((w.alloc (.cells #[.int .i64 p0.file, .int .i64 p0.line, .int .i64 p0.col, .int .i64 p0.stmt, .int .i64 p0.logue] 23)).alloc (.cells #[.int .i64 p1.file, .int .i64 p1.line, .int .i64 p1.col, .int .i64 p1.stmt, .int .i64 p1.logue] 23))) p2 _ (by simp)).bel ((Bel.refl _).alloc _)), (PBox.new ((((w.alloc (.cells #[.int .i64 p0.file, .int .i64 p0.line, .int .i64 p0.col, .int .i64 p0.stmt, .int .i64 p0.logue] 23)).alloc (.cells #[.int .i64 p1.file, .int .i64 p1.line, .int .i64 p1.col, .int .i64 p1.stmt, .int .i64 p1.logue] 23)).alloc (.cells #[.int .i64 p2.file, .int .i64 p2.line, .int .i64 p2.col, .int .i64 p2.stmt, .int .i64 p2.logue] 23))) p3 _ (by simp)), (((((Bel.refl w).alloc _).alloc _).alloc _).alloc _)⟩
theorem Fou.bel {w W W' : World} {p0 p1 p2 p3 : PlaceD} (h : Fou w W p0 p1 p2 p3) (hb : Bel W W') : Fou w W' p0 p1 p2 p3 := by
  obtain ⟨h0, h1, h2, h3, hw⟩ := h
  exact ⟨h0.bel hb, h1.bel hb, h2.bel hb, h3.bel hb, hw.trans hb⟩
theorem Fou.belw {w W : World} {p0 p1 p2 p3 : PlaceD} (h : Fou w W p0 p1 p2 p3) : Bel w W := by
  obtain ⟨_h0, _h1, _h2, _h3, hw⟩ := h
  exact hw
set_option maxRecDepth 100000 in
set_option maxHeartbeats 4000000 in
theorem files_out0 (p0 p1 p2 p3 : PlaceD) (w : World) (hA0 : placedB p0 4 = false) :
    Calls Try.prog 10 #[placeV p0, placeV p1, placeV p2, placeV p3] w fun e w' => e = .returned (.bool true) ∧ Bel w w' := by
  have HT0 := Lib.hid (Fou.start w p0 p1 p2 p3)
  have HP0 := Lib.hid (fun W => placed_any p0 4 W)
  rw [hA0] at HP0
  clear hA0
  obtain ⟨f0, l0, c0, s0, x0⟩ := p0
  obtain ⟨f1, l1, c1, s1, x1⟩ := p1
  obtain ⟨f2, l2, c2, s2, x2⟩ := p2
  obtain ⟨f3, l3, c3, s3, x3⟩ := p3
  simp only at *
  go_enter Try.func10, Try.ntmps10
  go_wp2_with fail
  refine (HP0.out _).mono ?_
  rintro e w1 ⟨rfl, hb1⟩
  have HT1 := Lib.hid (HT0.out.bel hb1)
  clear hb1 HT0
  obtain ⟨hb0, hb1, hb2, hb3, _⟩ := HT1.out
  obtain ⟨a00, a01, a02, a03, a04⟩ := hb0.all
  obtain ⟨a10, a11, a12, a13, a14⟩ := hb1.all
  obtain ⟨a20, a21, a22, a23, a24⟩ := hb2.all
  obtain ⟨a30, a31, a32, a33, a34⟩ := hb3.all
  clear hb0 hb1 hb2 hb3
  have hbw := HT1.out.belw
  go_wp2
  go_ret
  exact ⟨rfl, hbw⟩
set_option maxRecDepth 100000 in
set_option maxHeartbeats 4000000 in
theorem files_out1 (p0 p1 p2 p3 : PlaceD) (w : World) (hA0 : placedB p0 4 = true) (hA1 : placedB p1 4 = false) :
    Calls Try.prog 10 #[placeV p0, placeV p1, placeV p2, placeV p3] w fun e w' => e = .returned (.bool true) ∧ Bel w w' := by
  have HT0 := Lib.hid (Fou.start w p0 p1 p2 p3)
  have HP0 := Lib.hid (fun W => placed_any p0 4 W)
  rw [hA0] at HP0
  have HP1 := Lib.hid (fun W => placed_any p1 4 W)
  rw [hA1] at HP1
  clear hA0 hA1
  obtain ⟨f0, l0, c0, s0, x0⟩ := p0
  obtain ⟨f1, l1, c1, s1, x1⟩ := p1
  obtain ⟨f2, l2, c2, s2, x2⟩ := p2
  obtain ⟨f3, l3, c3, s3, x3⟩ := p3
  simp only at *
  go_enter Try.func10, Try.ntmps10
  go_wp2_with fail
  refine (HP0.out _).mono ?_
  rintro e w1 ⟨rfl, hb1⟩
  have HT1 := Lib.hid (HT0.out.bel hb1)
  clear hb1 HT0
  obtain ⟨hb0, hb1, hb2, hb3, _⟩ := HT1.out
  obtain ⟨a00, a01, a02, a03, a04⟩ := hb0.all
  obtain ⟨a10, a11, a12, a13, a14⟩ := hb1.all
  obtain ⟨a20, a21, a22, a23, a24⟩ := hb2.all
  obtain ⟨a30, a31, a32, a33, a34⟩ := hb3.all
  clear hb0 hb1 hb2 hb3
  go_wp2_with fail
  refine (HP1.out _).mono ?_
  rintro e w2 ⟨rfl, hb2⟩
  have HT2 := Lib.hid (HT1.out.bel hb2)
  clear hb2 HT1
  clear a00 a01 a02 a03 a04 a10 a11 a12 a13 a14 a20 a21 a22 a23 a24 a30 a31 a32 a33 a34
  obtain ⟨hb0, hb1, hb2, hb3, _⟩ := HT2.out
  obtain ⟨a00, a01, a02, a03, a04⟩ := hb0.all
  obtain ⟨a10, a11, a12, a13, a14⟩ := hb1.all
  obtain ⟨a20, a21, a22, a23, a24⟩ := hb2.all
  obtain ⟨a30, a31, a32, a33, a34⟩ := hb3.all
  clear hb0 hb1 hb2 hb3
  have hbw := HT2.out.belw
  go_wp2
  go_ret
  exact ⟨rfl, hbw⟩
set_option maxRecDepth 100000 in
set_option maxHeartbeats 4000000 in
theorem files_out2 (p0 p1 p2 p3 : PlaceD) (w : World) (hA0 : placedB p0 4 = true) (hA1 : placedB p1 4 = true) (hA2 : placedB p2 4 = false) :
    Calls Try.prog 10 #[placeV p0, placeV p1, placeV p2, placeV p3] w fun e w' => e = .returned (.bool true) ∧ Bel w w' := by
  have HT0 := Lib.hid (Fou.start w p0 p1 p2 p3)
  have HP0 := Lib.hid (fun W => placed_any p0 4 W)
  rw [hA0] at HP0
  have HP1 := Lib.hid (fun W => placed_any p1 4 W)
  rw [hA1] at HP1
  have HP2 := Lib.hid (fun W => placed_any p2 4 W)
  rw [hA2] at HP2
  clear hA0 hA1 hA2
  obtain ⟨f0, l0, c0, s0, x0⟩ := p0
  obtain ⟨f1, l1, c1, s1, x1⟩ := p1
  obtain ⟨f2, l2, c2, s2, x2⟩ := p2
  obtain ⟨f3, l3, c3, s3, x3⟩ := p3
  simp only at *
  go_enter Try.func10, Try.ntmps10
  go_wp2_with fail
  refine (HP0.out _).mono ?_
  rintro e w1 ⟨rfl, hb1⟩
  have HT1 := Lib.hid (HT0.out.bel hb1)
  clear hb1 HT0
  obtain ⟨hb0, hb1, hb2, hb3, _⟩ := HT1.out
  obtain ⟨a00, a01, a02, a03, a04⟩ := hb0.all
  obtain ⟨a10, a11, a12, a13, a14⟩ := hb1.all
  obtain ⟨a20, a21, a22, a23, a24⟩ := hb2.all
  obtain ⟨a30, a31, a32, a33, a34⟩ := hb3.all
  clear hb0 hb1 hb2 hb3
  go_wp2_with fail
  refine (HP1.out _).mono ?_
  rintro e w2 ⟨rfl, hb2⟩
  have HT2 := Lib.hid (HT1.out.bel hb2)
  clear hb2 HT1
  clear a00 a01 a02 a03 a04 a10 a11 a12 a13 a14 a20 a21 a22 a23 a24 a30 a31 a32 a33 a34
  obtain ⟨hb0, hb1, hb2, hb3, _⟩ := HT2.out
  obtain ⟨a00, a01, a02, a03, a04⟩ := hb0.all
  obtain ⟨a10, a11, a12, a13, a14⟩ := hb1.all
  obtain ⟨a20, a21, a22, a23, a24⟩ := hb2.all
  obtain ⟨a30, a31, a32, a33, a34⟩ := hb3.all
  clear hb0 hb1 hb2 hb3
  go_wp2_with fail
  refine (HP2.out _).mono ?_
  rintro e w3 ⟨rfl, hb3⟩
  have HT3 := Lib.hid (HT2.out.bel hb3)
  clear hb3 HT2
  clear a00 a01 a02 a03 a04 a10 a11 a12 a13 a14 a20 a21 a22 a23 a24 a30 a31 a32 a33 a34
  obtain ⟨hb0, hb1, hb2, hb3, _⟩ := HT3.out
  obtain ⟨a00, a01, a02, a03, a04⟩ := hb0.all
  obtain ⟨a10, a11, a12, a13, a14⟩ := hb1.all
  obtain ⟨a20, a21, a22, a23, a24⟩ := hb2.all
  obtain ⟨a30, a31, a32, a33, a34⟩ := hb3.all
  clear hb0 hb1 hb2 hb3
  have hbw := HT3.out.belw
  go_wp2
  go_ret
  exact ⟨rfl, hbw⟩
set_option maxRecDepth 100000 in
set_option maxHeartbeats 4000000 in
theorem files_out3 (p0 p1 p2 p3 : PlaceD) (w : World) (hA0 : placedB p0 4 = true) (hA1 : placedB p1 4 = true) (hA2 : placedB p2 4 = true) (hA3 : placedB p3 4 = false) :
    Calls Try.prog 10 #[placeV p0, placeV p1, placeV p2, placeV p3] w fun e w' => e = .returned (.bool true) ∧ Bel w w' := by
  have HT0 := Lib.hid (Fou.start w p0 p1 p2 p3)
  have HP0 := Lib.hid (fun W => placed_any p0 4 W)
  rw [hA0] at HP0
  have HP1 := Lib.hid (fun W => placed_any p1 4 W)
  rw [hA1] at HP1
  have HP2 := Lib.hid (fun W => placed_any p2 4 W)
  rw [hA2] at HP2
  have HP3 := Lib.hid (fun W => placed_any p3 4 W)
  rw [hA3] at HP3
  clear hA0 hA1 hA2 hA3
  obtain ⟨f0, l0, c0, s0, x0⟩ := p0
  obtain ⟨f1, l1, c1, s1, x1⟩ := p1
  obtain ⟨f2, l2, c2, s2, x2⟩ := p2
  obtain ⟨f3, l3, c3, s3, x3⟩ := p3
  simp only at *
  go_enter Try.func10, Try.ntmps10
  go_wp2_with fail
  refine (HP0.out _).mono ?_
  rintro e w1 ⟨rfl, hb1⟩
  have HT1 := Lib.hid (HT0.out.bel hb1)
  clear hb1 HT0
  obtain ⟨hb0, hb1, hb2, hb3, _⟩ := HT1.out
  obtain ⟨a00, a01, a02, a03, a04⟩ := hb0.all
  obtain ⟨a10, a11, a12, a13, a14⟩ := hb1.all
  obtain ⟨a20, a21, a22, a23, a24⟩ := hb2.all
  obtain ⟨a30, a31, a32, a33, a34⟩ := hb3.all
  clear hb0 hb1 hb2 hb3
  go_wp2_with fail
  refine (HP1.out _).mono ?_
  rintro e w2 ⟨rfl, hb2⟩
  have HT2 := Lib.hid (HT1.out.bel hb2)
  clear hb2 HT1
  clear a00 a01 a02 a03 a04 a10 a11 a12 a13 a14 a20 a21 a22 a23 a24 a30 a31 a32 a33 a34
  obtain ⟨hb0, hb1, hb2, hb3, _⟩ := HT2.out
  obtain ⟨a00, a01, a02, a03, a04⟩ := hb0.all
  obtain ⟨a10, a11, a12, a13, a14⟩ := hb1.all
  obtain ⟨a20, a21, a22, a23, a24⟩ := hb2.all
  obtain ⟨a30, a31, a32, a33, a34⟩ := hb3.all
  clear hb0 hb1 hb2 hb3
  go_wp2_with fail
  refine (HP2.out _).mono ?_
  rintro e w3 ⟨rfl, hb3⟩
  have HT3 := Lib.hid (HT2.out.bel hb3)
  clear hb3 HT2
  clear a00 a01 a02 a03 a04 a10 a11 a12 a13 a14 a20 a21 a22 a23 a24 a30 a31 a32 a33 a34
  obtain ⟨hb0, hb1, hb2, hb3, _⟩ := HT3.out
  obtain ⟨a00, a01, a02, a03, a04⟩ := hb0.all
  obtain ⟨a10, a11, a12, a13, a14⟩ := hb1.all
  obtain ⟨a20, a21, a22, a23, a24⟩ := hb2.all
  obtain ⟨a30, a31, a32, a33, a34⟩ := hb3.all
  clear hb0 hb1 hb2 hb3
  go_wp2_with fail
  refine (HP3.out _).mono ?_
  rintro e w4 ⟨rfl, hb4⟩
  have HT4 := Lib.hid (HT3.out.bel hb4)
  clear hb4 HT3
  clear a00 a01 a02 a03 a04 a10 a11 a12 a13 a14 a20 a21 a22 a23 a24 a30 a31 a32 a33 a34
  obtain ⟨hb0, hb1, hb2, hb3, _⟩ := HT4.out
  obtain ⟨a00, a01, a02, a03, a04⟩ := hb0.all
  obtain ⟨a10, a11, a12, a13, a14⟩ := hb1.all
  obtain ⟨a20, a21, a22, a23, a24⟩ := hb2.all
  obtain ⟨a30, a31, a32, a33, a34⟩ := hb3.all
  clear hb0 hb1 hb2 hb3
  have hbw := HT4.out.belw
  go_wp2
  go_ret
  exact ⟨rfl, hbw⟩
set_option maxRecDepth 100000 in
set_option maxHeartbeats 4000000 in
theorem files_a (p0 p1 p2 p3 : PlaceD) (w : World) (hA0 : placedB p0 4 = true) (hA1 : placedB p1 4 = true) (hA2 : placedB p2 4 = true) (hA3 : placedB p3 4 = true) (he : p0.file = p1.file) :
    Calls Try.prog 10 #[placeV p0, placeV p1, placeV p2, placeV p3] w fun e w' => e = .returned (.bool true) ∧ Bel w w' := by
  have HT0 := Lib.hid (Fou.start w p0 p1 p2 p3)
  have HP0 := Lib.hid (fun W => placed_any p0 4 W)
  rw [hA0] at HP0
  have HP1 := Lib.hid (fun W => placed_any p1 4 W)
  rw [hA1] at HP1
  have HP2 := Lib.hid (fun W => placed_any p2 4 W)
  rw [hA2] at HP2
  have HP3 := Lib.hid (fun W => placed_any p3 4 W)
  rw [hA3] at HP3
  have t1 := beq_of he
  clear he
  clear hA0 hA1 hA2 hA3
  obtain ⟨f0, l0, c0, s0, x0⟩ := p0
  obtain ⟨f1, l1, c1, s1, x1⟩ := p1
  obtain ⟨f2, l2, c2, s2, x2⟩ := p2
  obtain ⟨f3, l3, c3, s3, x3⟩ := p3
  simp only at *
  go_enter Try.func10, Try.ntmps10
  go_wp2_with fail
  refine (HP0.out _).mono ?_
  rintro e w1 ⟨rfl, hb1⟩
  have HT1 := Lib.hid (HT0.out.bel hb1)
  clear hb1 HT0
  obtain ⟨hb0, hb1, hb2, hb3, _⟩ := HT1.out
  obtain ⟨a00, a01, a02, a03, a04⟩ := hb0.all
  obtain ⟨a10, a11, a12, a13, a14⟩ := hb1.all
  obtain ⟨a20, a21, a22, a23, a24⟩ := hb2.all
  obtain ⟨a30, a31, a32, a33, a34⟩ := hb3.all
  clear hb0 hb1 hb2 hb3
  go_wp2_with fail
  refine (HP1.out _).mono ?_
  rintro e w2 ⟨rfl, hb2⟩
  have HT2 := Lib.hid (HT1.out.bel hb2)
  clear hb2 HT1
  clear a00 a01 a02 a03 a04 a10 a11 a12 a13 a14 a20 a21 a22 a23 a24 a30 a31 a32 a33 a34
  obtain ⟨hb0, hb1, hb2, hb3, _⟩ := HT2.out
  obtain ⟨a00, a01, a02, a03, a04⟩ := hb0.all
  obtain ⟨a10, a11, a12, a13, a14⟩ := hb1.all
  obtain ⟨a20, a21, a22, a23, a24⟩ := hb2.all
  obtain ⟨a30, a31, a32, a33, a34⟩ := hb3.all
  clear hb0 hb1 hb2 hb3
  go_wp2_with fail
  refine (HP2.out _).mono ?_
  rintro e w3 ⟨rfl, hb3⟩
  have HT3 := Lib.hid (HT2.out.bel hb3)
  clear hb3 HT2
  clear a00 a01 a02 a03 a04 a10 a11 a12 a13 a14 a20 a21 a22 a23 a24 a30 a31 a32 a33 a34
  obtain ⟨hb0, hb1, hb2, hb3, _⟩ := HT3.out
  obtain ⟨a00, a01, a02, a03, a04⟩ := hb0.all
  obtain ⟨a10, a11, a12, a13, a14⟩ := hb1.all
  obtain ⟨a20, a21, a22, a23, a24⟩ := hb2.all
  obtain ⟨a30, a31, a32, a33, a34⟩ := hb3.all
  clear hb0 hb1 hb2 hb3
  go_wp2_with fail
  refine (HP3.out _).mono ?_
  rintro e w4 ⟨rfl, hb4⟩
  have HT4 := Lib.hid (HT3.out.bel hb4)
  clear hb4 HT3
  clear a00 a01 a02 a03 a04 a10 a11 a12 a13 a14 a20 a21 a22 a23 a24 a30 a31 a32 a33 a34
  obtain ⟨hb0, hb1, hb2, hb3, _⟩ := HT4.out
  obtain ⟨a00, a01, a02, a03, a04⟩ := hb0.all
  obtain ⟨a10, a11, a12, a13, a14⟩ := hb1.all
  obtain ⟨a20, a21, a22, a23, a24⟩ := hb2.all
  obtain ⟨a30, a31, a32, a33, a34⟩ := hb3.all
  clear hb0 hb1 hb2 hb3
  have hbw := HT4.out.belw
  go_wp2
  go_ret
  exact ⟨rfl, hbw⟩
set_option maxRecDepth 100000 in
set_option maxHeartbeats 4000000 in
theorem files_b (p0 p1 p2 p3 : PlaceD) (w : World) (hA0 : placedB p0 4 = true) (hA1 : placedB p1 4 = true) (hA2 : placedB p2 4 = true) (hA3 : placedB p3 4 = true) (he : ¬ p0.file = p1.file) (h2 : ¬ p2.file = p0.file) :
    Calls Try.prog 10 #[placeV p0, placeV p1, placeV p2, placeV p3] w fun e w' => e = .returned (.bool true) ∧ Bel w w' := by
  have HT0 := Lib.hid (Fou.start w p0 p1 p2 p3)
  have HP0 := Lib.hid (fun W => placed_any p0 4 W)
  rw [hA0] at HP0
  have HP1 := Lib.hid (fun W => placed_any p1 4 W)
  rw [hA1] at HP1
  have HP2 := Lib.hid (fun W => placed_any p2 4 W)
  rw [hA2] at HP2
  have HP3 := Lib.hid (fun W => placed_any p3 4 W)
  rw [hA3] at HP3
  have t1 := beq_not he
  have t2 := beq_not h2
  have t2x : (p2.file != p0.file) = true := by simp [h2]
  clear he h2
  clear hA0 hA1 hA2 hA3
  obtain ⟨f0, l0, c0, s0, x0⟩ := p0
  obtain ⟨f1, l1, c1, s1, x1⟩ := p1
  obtain ⟨f2, l2, c2, s2, x2⟩ := p2
  obtain ⟨f3, l3, c3, s3, x3⟩ := p3
  simp only at *
  go_enter Try.func10, Try.ntmps10
  go_wp2_with fail
  refine (HP0.out _).mono ?_
  rintro e w1 ⟨rfl, hb1⟩
  have HT1 := Lib.hid (HT0.out.bel hb1)
  clear hb1 HT0
  obtain ⟨hb0, hb1, hb2, hb3, _⟩ := HT1.out
  obtain ⟨a00, a01, a02, a03, a04⟩ := hb0.all
  obtain ⟨a10, a11, a12, a13, a14⟩ := hb1.all
  obtain ⟨a20, a21, a22, a23, a24⟩ := hb2.all
  obtain ⟨a30, a31, a32, a33, a34⟩ := hb3.all
  clear hb0 hb1 hb2 hb3
  go_wp2_with fail
  refine (HP1.out _).mono ?_
  rintro e w2 ⟨rfl, hb2⟩
  have HT2 := Lib.hid (HT1.out.bel hb2)
  clear hb2 HT1
  clear a00 a01 a02 a03 a04 a10 a11 a12 a13 a14 a20 a21 a22 a23 a24 a30 a31 a32 a33 a34
  obtain ⟨hb0, hb1, hb2, hb3, _⟩ := HT2.out
  obtain ⟨a00, a01, a02, a03, a04⟩ := hb0.all
  obtain ⟨a10, a11, a12, a13, a14⟩ := hb1.all
  obtain ⟨a20, a21, a22, a23, a24⟩ := hb2.all
  obtain ⟨a30, a31, a32, a33, a34⟩ := hb3.all
  clear hb0 hb1 hb2 hb3
  go_wp2_with fail
  refine (HP2.out _).mono ?_
  rintro e w3 ⟨rfl, hb3⟩
  have HT3 := Lib.hid (HT2.out.bel hb3)
  clear hb3 HT2
  clear a00 a01 a02 a03 a04 a10 a11 a12 a13 a14 a20 a21 a22 a23 a24 a30 a31 a32 a33 a34
  obtain ⟨hb0, hb1, hb2, hb3, _⟩ := HT3.out
  obtain ⟨a00, a01, a02, a03, a04⟩ := hb0.all
  obtain ⟨a10, a11, a12, a13, a14⟩ := hb1.all
  obtain ⟨a20, a21, a22, a23, a24⟩ := hb2.all
  obtain ⟨a30, a31, a32, a33, a34⟩ := hb3.all
  clear hb0 hb1 hb2 hb3
  go_wp2_with fail
  refine (HP3.out _).mono ?_
  rintro e w4 ⟨rfl, hb4⟩
  have HT4 := Lib.hid (HT3.out.bel hb4)
  clear hb4 HT3
  clear a00 a01 a02 a03 a04 a10 a11 a12 a13 a14 a20 a21 a22 a23 a24 a30 a31 a32 a33 a34
  obtain ⟨hb0, hb1, hb2, hb3, _⟩ := HT4.out
  obtain ⟨a00, a01, a02, a03, a04⟩ := hb0.all
  obtain ⟨a10, a11, a12, a13, a14⟩ := hb1.all
  obtain ⟨a20, a21, a22, a23, a24⟩ := hb2.all
  obtain ⟨a30, a31, a32, a33, a34⟩ := hb3.all
  clear hb0 hb1 hb2 hb3
  have hbw := HT4.out.belw
  go_wp2
  go_ret
  exact ⟨rfl, hbw⟩
set_option maxRecDepth 100000 in
set_option maxHeartbeats 4000000 in
theorem files_c (p0 p1 p2 p3 : PlaceD) (w : World) (hA0 : placedB p0 4 = true) (hA1 : placedB p1 4 = true) (hA2 : placedB p2 4 = true) (hA3 : placedB p3 4 = true) (he : ¬ p0.file = p1.file) (h2 : p2.file = p0.file) (h3 : ¬ p3.file = p1.file) :
    Calls Try.prog 10 #[placeV p0, placeV p1, placeV p2, placeV p3] w fun e w' => e = .returned (.bool true) ∧ Bel w w' := by
  have HT0 := Lib.hid (Fou.start w p0 p1 p2 p3)
  have HP0 := Lib.hid (fun W => placed_any p0 4 W)
  rw [hA0] at HP0
  have HP1 := Lib.hid (fun W => placed_any p1 4 W)
  rw [hA1] at HP1
  have HP2 := Lib.hid (fun W => placed_any p2 4 W)
  rw [hA2] at HP2
  have HP3 := Lib.hid (fun W => placed_any p3 4 W)
  rw [hA3] at HP3
  have t1 := beq_not he
  have t2 := beq_of h2
  have t3 := beq_not h3
  have t2x : (p2.file != p0.file) = false := by simp [h2]
  have t3x : (p3.file != p1.file) = true := by simp [h3]
  clear he h2 h3
  clear hA0 hA1 hA2 hA3
  obtain ⟨f0, l0, c0, s0, x0⟩ := p0
  obtain ⟨f1, l1, c1, s1, x1⟩ := p1
  obtain ⟨f2, l2, c2, s2, x2⟩ := p2
  obtain ⟨f3, l3, c3, s3, x3⟩ := p3
  simp only at *
  go_enter Try.func10, Try.ntmps10
  go_wp2_with fail
  refine (HP0.out _).mono ?_
  rintro e w1 ⟨rfl, hb1⟩
  have HT1 := Lib.hid (HT0.out.bel hb1)
  clear hb1 HT0
  obtain ⟨hb0, hb1, hb2, hb3, _⟩ := HT1.out
  obtain ⟨a00, a01, a02, a03, a04⟩ := hb0.all
  obtain ⟨a10, a11, a12, a13, a14⟩ := hb1.all
  obtain ⟨a20, a21, a22, a23, a24⟩ := hb2.all
  obtain ⟨a30, a31, a32, a33, a34⟩ := hb3.all
  clear hb0 hb1 hb2 hb3
  go_wp2_with fail
  refine (HP1.out _).mono ?_
  rintro e w2 ⟨rfl, hb2⟩
  have HT2 := Lib.hid (HT1.out.bel hb2)
  clear hb2 HT1
  clear a00 a01 a02 a03 a04 a10 a11 a12 a13 a14 a20 a21 a22 a23 a24 a30 a31 a32 a33 a34
  obtain ⟨hb0, hb1, hb2, hb3, _⟩ := HT2.out
  obtain ⟨a00, a01, a02, a03, a04⟩ := hb0.all
  obtain ⟨a10, a11, a12, a13, a14⟩ := hb1.all
  obtain ⟨a20, a21, a22, a23, a24⟩ := hb2.all
  obtain ⟨a30, a31, a32, a33, a34⟩ := hb3.all
  clear hb0 hb1 hb2 hb3
  go_wp2_with fail
  refine (HP2.out _).mono ?_
  rintro e w3 ⟨rfl, hb3⟩
  have HT3 := Lib.hid (HT2.out.bel hb3)
  clear hb3 HT2
  clear a00 a01 a02 a03 a04 a10 a11 a12 a13 a14 a20 a21 a22 a23 a24 a30 a31 a32 a33 a34
  obtain ⟨hb0, hb1, hb2, hb3, _⟩ := HT3.out
  obtain ⟨a00, a01, a02, a03, a04⟩ := hb0.all
  obtain ⟨a10, a11, a12, a13, a14⟩ := hb1.all
  obtain ⟨a20, a21, a22, a23, a24⟩ := hb2.all
  obtain ⟨a30, a31, a32, a33, a34⟩ := hb3.all
  clear hb0 hb1 hb2 hb3
  go_wp2_with fail
  refine (HP3.out _).mono ?_
  rintro e w4 ⟨rfl, hb4⟩
  have HT4 := Lib.hid (HT3.out.bel hb4)
  clear hb4 HT3
  clear a00 a01 a02 a03 a04 a10 a11 a12 a13 a14 a20 a21 a22 a23 a24 a30 a31 a32 a33 a34
  obtain ⟨hb0, hb1, hb2, hb3, _⟩ := HT4.out
  obtain ⟨a00, a01, a02, a03, a04⟩ := hb0.all
  obtain ⟨a10, a11, a12, a13, a14⟩ := hb1.all
  obtain ⟨a20, a21, a22, a23, a24⟩ := hb2.all
  obtain ⟨a30, a31, a32, a33, a34⟩ := hb3.all
  clear hb0 hb1 hb2 hb3
  have hbw := HT4.out.belw
  go_wp2
  go_ret
  exact ⟨rfl, hbw⟩
set_option maxRecDepth 100000 in
set_option maxHeartbeats 4000000 in
theorem files_in (p0 p1 p2 p3 : PlaceD) (w : World) (hA0 : placedB p0 4 = true) (hA1 : placedB p1 4 = true) (hA2 : placedB p2 4 = true) (hA3 : placedB p3 4 = true) (he : ¬ p0.file = p1.file) (h2 : p2.file = p0.file) (h3 : p3.file = p1.file) :
    Calls Try.prog 10 #[placeV p0, placeV p1, placeV p2, placeV p3] w fun e w' => e = .returned (.bool true) ∧ Bel w w' := by
  have HT0 := Lib.hid (Fou.start w p0 p1 p2 p3)
  have HP0 := Lib.hid (fun W => placed_any p0 4 W)
  rw [hA0] at HP0
  have HP1 := Lib.hid (fun W => placed_any p1 4 W)
  rw [hA1] at HP1
  have HP2 := Lib.hid (fun W => placed_any p2 4 W)
  rw [hA2] at HP2
  have HP3 := Lib.hid (fun W => placed_any p3 4 W)
  rw [hA3] at HP3
  have HC1 := Lib.hid (fun W => compared_as p0 p1 W hA0 hA1 (x := decide (p0.file < p1.file)) (y := decide (p1.file < p0.file)) (f := false) (l := false) (decide_eq_decide.2 (by omega)) (decide_eq_decide.2 (by omega)) (decide_eq_false he) (decide_eq_false (fun h => he h.1)))
  have HC2 := Lib.hid (fun W => compared_as p2 p3 W hA2 hA3 (x := decide (p0.file < p1.file)) (y := decide (p1.file < p0.file)) (f := false) (l := false) (decide_eq_decide.2 (by omega)) (decide_eq_decide.2 (by omega)) (decide_eq_false (by omega)) (decide_eq_false (by omega)))
  have HC3 := Lib.hid (fun W => compared_as p1 p0 W hA1 hA0 (x := decide (p1.file < p0.file)) (y := decide (p0.file < p1.file)) (f := false) (l := false) (decide_eq_decide.2 (by omega)) (decide_eq_decide.2 (by omega)) (decide_eq_false (by omega)) (decide_eq_false (by omega)))
  have n1 : (decide (p0.file < p1.file) != decide (p1.file < p0.file)) = true := by
    rcases Int.lt_or_gt_of_ne he with h | h
    · rw [decide_eq_true h, decide_eq_false (by omega)]; rfl
    · rw [decide_eq_true (show p1.file < p0.file from h), decide_eq_false (by omega)]; rfl
  generalize decide (p0.file < p1.file) = x at *
  generalize decide (p1.file < p0.file) = y at *
  have n3 : (x == y) = false := by cases x <;> cases y <;> first | rfl | cases n1
  have n4 := bb x
  have n5 := bb y
  have t1 := beq_not he
  have t2 := beq_of h2
  have t3 := beq_of h3
  have t2x : (p2.file != p0.file) = false := by simp [h2]
  have t3x : (p3.file != p1.file) = false := by simp [h3]
  clear he h2 h3 n1
  clear hA0 hA1 hA2 hA3
  obtain ⟨f0, l0, c0, s0, x0⟩ := p0
  obtain ⟨f1, l1, c1, s1, x1⟩ := p1
  obtain ⟨f2, l2, c2, s2, x2⟩ := p2
  obtain ⟨f3, l3, c3, s3, x3⟩ := p3
  simp only at *
  go_enter Try.func10, Try.ntmps10
  go_wp2_with fail
  refine (HP0.out _).mono ?_
  rintro e w1 ⟨rfl, hb1⟩
  have HT1 := Lib.hid (HT0.out.bel hb1)
  clear hb1 HT0
  obtain ⟨hb0, hb1, hb2, hb3, _⟩ := HT1.out
  obtain ⟨a00, a01, a02, a03, a04⟩ := hb0.all
  obtain ⟨a10, a11, a12, a13, a14⟩ := hb1.all
  obtain ⟨a20, a21, a22, a23, a24⟩ := hb2.all
  obtain ⟨a30, a31, a32, a33, a34⟩ := hb3.all
  clear hb0 hb1 hb2 hb3
  go_wp2_with fail
  refine (HP1.out _).mono ?_
  rintro e w2 ⟨rfl, hb2⟩
  have HT2 := Lib.hid (HT1.out.bel hb2)
  clear hb2 HT1
  clear a00 a01 a02 a03 a04 a10 a11 a12 a13 a14 a20 a21 a22 a23 a24 a30 a31 a32 a33 a34
  obtain ⟨hb0, hb1, hb2, hb3, _⟩ := HT2.out
  obtain ⟨a00, a01, a02, a03, a04⟩ := hb0.all
  obtain ⟨a10, a11, a12, a13, a14⟩ := hb1.all
  obtain ⟨a20, a21, a22, a23, a24⟩ := hb2.all
  obtain ⟨a30, a31, a32, a33, a34⟩ := hb3.all
  clear hb0 hb1 hb2 hb3
  go_wp2_with fail
  refine (HP2.out _).mono ?_
  rintro e w3 ⟨rfl, hb3⟩
  have HT3 := Lib.hid (HT2.out.bel hb3)
  clear hb3 HT2
  clear a00 a01 a02 a03 a04 a10 a11 a12 a13 a14 a20 a21 a22 a23 a24 a30 a31 a32 a33 a34
  obtain ⟨hb0, hb1, hb2, hb3, _⟩ := HT3.out
  obtain ⟨a00, a01, a02, a03, a04⟩ := hb0.all
  obtain ⟨a10, a11, a12, a13, a14⟩ := hb1.all
  obtain ⟨a20, a21, a22, a23, a24⟩ := hb2.all
  obtain ⟨a30, a31, a32, a33, a34⟩ := hb3.all
  clear hb0 hb1 hb2 hb3
  go_wp2_with fail
  refine (HP3.out _).mono ?_
  rintro e w4 ⟨rfl, hb4⟩
  have HT4 := Lib.hid (HT3.out.bel hb4)
  clear hb4 HT3
  clear a00 a01 a02 a03 a04 a10 a11 a12 a13 a14 a20 a21 a22 a23 a24 a30 a31 a32 a33 a34
  obtain ⟨hb0, hb1, hb2, hb3, _⟩ := HT4.out
  obtain ⟨a00, a01, a02, a03, a04⟩ := hb0.all
  obtain ⟨a10, a11, a12, a13, a14⟩ := hb1.all
  obtain ⟨a20, a21, a22, a23, a24⟩ := hb2.all
  obtain ⟨a30, a31, a32, a33, a34⟩ := hb3.all
  clear hb0 hb1 hb2 hb3
  go_wp2_with fail
  refine (HC1.out _).mono ?_
  rintro e w5 ⟨rfl, hb5⟩
  have HT5 := Lib.hid (HT4.out.bel hb5)
  clear hb5 HT4
  clear a00 a01 a02 a03 a04 a10 a11 a12 a13 a14 a20 a21 a22 a23 a24 a30 a31 a32 a33 a34
  obtain ⟨hb0, hb1, hb2, hb3, _⟩ := HT5.out
  obtain ⟨a00, a01, a02, a03, a04⟩ := hb0.all
  obtain ⟨a10, a11, a12, a13, a14⟩ := hb1.all
  obtain ⟨a20, a21, a22, a23, a24⟩ := hb2.all
  obtain ⟨a30, a31, a32, a33, a34⟩ := hb3.all
  clear hb0 hb1 hb2 hb3
  go_wp2_with fail
  refine (HC2.out _).mono ?_
  rintro e w6 ⟨rfl, hb6⟩
  have HT6 := Lib.hid (HT5.out.bel hb6)
  clear hb6 HT5
  clear a00 a01 a02 a03 a04 a10 a11 a12 a13 a14 a20 a21 a22 a23 a24 a30 a31 a32 a33 a34
  obtain ⟨hb0, hb1, hb2, hb3, _⟩ := HT6.out
  obtain ⟨a00, a01, a02, a03, a04⟩ := hb0.all
  obtain ⟨a10, a11, a12, a13, a14⟩ := hb1.all
  obtain ⟨a20, a21, a22, a23, a24⟩ := hb2.all
  obtain ⟨a30, a31, a32, a33, a34⟩ := hb3.all
  clear hb0 hb1 hb2 hb3
  go_wp2_with fail
  refine (HC3.out _).mono ?_
  rintro e w7 ⟨rfl, hb7⟩
  have HT7 := Lib.hid (HT6.out.bel hb7)
  clear hb7 HT6
  clear a00 a01 a02 a03 a04 a10 a11 a12 a13 a14 a20 a21 a22 a23 a24 a30 a31 a32 a33 a34
  obtain ⟨hb0, hb1, hb2, hb3, _⟩ := HT7.out
  obtain ⟨a00, a01, a02, a03, a04⟩ := hb0.all
  obtain ⟨a10, a11, a12, a13, a14⟩ := hb1.all
  obtain ⟨a20, a21, a22, a23, a24⟩ := hb2.all
  obtain ⟨a30, a31, a32, a33, a34⟩ := hb3.all
  clear hb0 hb1 hb2 hb3
  have hbw := HT7.out.belw
  go_wp2
  go_ret
  exact ⟨rfl, hbw⟩
theorem law_FnOrderFiles (w : World) (p : PlaceD) (_hp : PlaceIn p) (q : PlaceD) (_hq : PlaceIn q) (r : PlaceD) (_hr : PlaceIn r) (s : PlaceD) (_hs : PlaceIn s) :
    Calls Try.prog 10 #[placeV p, placeV q, placeV r, placeV s] w fun e w' => e = .returned (.bool true) ∧ Bel w w' := by
  cases h0 : placedB p 4
  · exact files_out0 p q r s w h0
  cases h1 : placedB q 4
  · exact files_out1 p q r s w h0 h1
  cases h2 : placedB r 4
  · exact files_out2 p q r s w h0 h1 h2
  cases h3 : placedB s 4
  · exact files_out3 p q r s w h0 h1 h2 h3
  by_cases e0 : p.file = q.file
  · exact files_a p q r s w h0 h1 h2 h3 e0
  by_cases e1 : r.file = p.file
  · by_cases e2 : s.file = q.file
    · exact files_in p q r s w h0 h1 h2 h3 e0 e1 e2
    · exact files_c p q r s w h0 h1 h2 h3 e0 e1 e2
  · exact files_b p q r s w h0 h1 h2 h3 e0 e1
end Go.Proofs.Ytbekmpmfkblgnaa
