/- The methods of a map of lines: set, add, remove, contains, get. -/
import Derived.Test.YtangceejmjklcaaLn2
import Derived.Test.YtangceejmjklcaaPosA
namespace Go.Proofs.Ytangceejmjklcaa
open Go.RowKit Go.BigFrame

abbrev xpos (i : Nat) (lc : Int) : Value := .agg #[.int .i32 ((i : Int) + 1), .int .u32 lc]
theorem fileIndex_any (k lc : Int) (w : World) : Calls Try.prog 15 #[.agg #[.int .i32 k, .int .u32 lc]] w fun e w' => e = .returned (.int .i32 k) ∧ Bel w w' := by
  go_enter Try.func15, Try.ntmps15
  go_wp2
  go_ret
  exact ⟨rfl, (Bel.refl w).alloc _⟩
theorem keyIn_line {lc : Int} (h0 : 0 ≤ lc) (h1 : lc < 4294967296) : KeyIn (lc / 4096) := ⟨by omega, by omega⟩

set_option maxHeartbeats 1000000 in
theorem lset0 {w : World} {B x m : Nat} {F : Nat → FileS} {d : Nat → List Pl.Ent} (h : LnW w B x m F d) {i : Nat} (hi : i < m) {lc : Int} (h0 : 0 ≤ lc) (h1 : lc < 4294967296) {v : Int} (hv : Val32 v) :
    Calls Try.prog 35 #[mptr x, xpos i lc, .int .i32 v] w fun e w' => (∃ u, e = .returned u) ∧ LnW w' B x m F (upd d i (bputE (F i).n (F i).f (d i) (lc / 4096) v)) ∧ KT lnT B w w' := by
  obtain ⟨vd, bm, p, hM⟩ := h
  have HM := Lib.hid hM; clear hM
  have HMF := Lib.hid (fun (w1 : World) (h : LnM w1 B x m F d vd bm p) => mapFor_ln h hi)
  unfold xpos
  generalize hk : (i : Int) + 1 = k at HMF ⊢
  clear hk
  go_enter Try.func35, Try.ntmps35
  go_wp2_with fail
  have hb1 : Bel w (w.alloc (.cells #[.int .i32 k, .int .u32 lc] 58)) := (Bel.refl w).alloc _
  have hB1 : Blk (w.alloc (.cells #[.int .i32 k, .int .u32 lc] 58)) w.heap.size 58 [.int .i32 k, .int .u32 lc] := Blk.new w _ [_, _]
  generalize w.alloc (.cells #[.int .i32 k, .int .u32 lc] 58) = w1 at hb1 hB1 ⊢
  have c0 : w1.cell? ⟨w.heap.size, 0, none⟩ = some (.int .i32 k) := hB1.cell 0
  have c1 : w1.cell? ⟨w.heap.size, 1, none⟩ = some (.int .u32 lc) := hB1.cell 1
  refine (fileIndex_any k lc w1).mono ?_
  rintro e w2 ⟨rfl, hb2⟩
  clear c0 c1
  go_wp2_with fail
  refine (HMF.out w2 (HM.out.bel (hb1.trans hb2))).mono ?_
  rintro e w3 ⟨rfl, hM3, hk3⟩
  have hB3 := (hB1.bel hb2).kt hk3 (.inl (by decide))
  have e1 : w3.cell? ⟨w.heap.size, 1, none⟩ = some (.int .u32 lc) := hB3.cell 1
  have HM3 := Lib.hid hM3; clear hM3
  have HK3 : Hid (KT lnT B w w3) := Lib.hid ((KT.of_bel (hb1.trans hb2)).trans hk3)
  clear hk3 hb1 hb2 hB1 hB3 HM HMF
  obtain ⟨sp, hbi⟩ := HM3.out.hb i hi
  obtain ⟨n0, n1, n2⟩ := HM3.out.hn i hi
  have HBI := Lib.hid hbi; clear hbi
  have HKI := Lib.hid (keyIn_line h0 h1)
  go_wp2_with fail
  refine (line_any lc w3 h0 h1).mono ?_
  rintro e w4 ⟨rfl, rfl⟩
  generalize hl : lc / 4096 = l at HKI ⊢
  have HLL := Lib.hid hl; clear hl
  go_wp2_with fail
  refine (bset0 HBI.out n0 n1 n2 HKI.out v hv).mono ?_
  rintro e w5 ⟨⟨u, rfl⟩, hs⟩
  have HS := Lib.hid (HM3.out.upd hi hs); clear hs
  go_wp2
  go_end0
  exact ⟨⟨_, rfl⟩, by rw [HLL.out]; obtain ⟨⟨vd', h⟩, _⟩ := HS.out; exact ⟨vd', bm, p, h⟩, HK3.out.trans HS.out.2⟩

theorem ladd0 {w : World} {B x m : Nat} {F : Nat → FileS} {d : Nat → List Pl.Ent} (h : LnW w B x m F d) {i : Nat} (hi : i < m) {lc : Int} (h0 : 0 ≤ lc) (h1 : lc < 4294967296) :
    Calls Try.prog 36 #[mptr x, xpos i lc] w fun e w' => (∃ u, e = .returned u) ∧ LnW w' B x m F (upd d i (bputE (F i).n (F i).f (d i) (lc / 4096) 0)) ∧ KT lnT B w w' := by
  have H := Lib.hid (fun (w1 : World) (h : LnW w1 B x m F d) => lset0 h hi h0 h1 (v := 0) (by unfold Val32; omega))
  have HL := Lib.hid h; clear h
  unfold xpos at H ⊢
  generalize hk : (i : Int) + 1 = k at H ⊢
  clear hk
  go_enter Try.func36, Try.ntmps36
  go_wp2_with fail
  refine (H.out _ (HL.out.bel ((Bel.refl w).alloc _))).mono ?_
  rintro e w2 ⟨⟨u, rfl⟩, hs, hkt⟩
  go_wp2
  go_end0
  exact ⟨⟨_, rfl⟩, hs, (KT.of_bel ((Bel.refl w).alloc _)).trans hkt⟩

set_option maxHeartbeats 1000000 in
theorem lremove0 {w : World} {B x m : Nat} {F : Nat → FileS} {d : Nat → List Pl.Ent} (h : LnW w B x m F d) {i : Nat} (hi : i < m) {lc : Int} (h0 : 0 ≤ lc) (h1 : lc < 4294967296) :
    Calls Try.prog 37 #[mptr x, xpos i lc] w fun e w' => (∃ u, e = .returned u) ∧ LnW w' B x m F (upd d i (outE (d i) (lc / 4096 - (F i).f))) ∧ KT lnT B w w' := by
  obtain ⟨vd, bm, p, hM⟩ := h
  have HM := Lib.hid hM; clear hM
  have HMF := Lib.hid (fun (w1 : World) (h : LnM w1 B x m F d vd bm p) => mapFor_ln h hi)
  unfold xpos
  generalize hk : (i : Int) + 1 = k at HMF ⊢
  clear hk
  go_enter Try.func37, Try.ntmps37
  go_wp2_with fail
  have hb1 : Bel w (w.alloc (.cells #[.int .i32 k, .int .u32 lc] 58)) := (Bel.refl w).alloc _
  have hB1 : Blk (w.alloc (.cells #[.int .i32 k, .int .u32 lc] 58)) w.heap.size 58 [.int .i32 k, .int .u32 lc] := Blk.new w _ [_, _]
  generalize w.alloc (.cells #[.int .i32 k, .int .u32 lc] 58) = w1 at hb1 hB1 ⊢
  have c0 : w1.cell? ⟨w.heap.size, 0, none⟩ = some (.int .i32 k) := hB1.cell 0
  have c1 : w1.cell? ⟨w.heap.size, 1, none⟩ = some (.int .u32 lc) := hB1.cell 1
  refine (fileIndex_any k lc w1).mono ?_
  rintro e w2 ⟨rfl, hb2⟩
  clear c0 c1
  go_wp2_with fail
  refine (HMF.out w2 (HM.out.bel (hb1.trans hb2))).mono ?_
  rintro e w3 ⟨rfl, hM3, hk3⟩
  have hB3 := (hB1.bel hb2).kt hk3 (.inl (by decide))
  have e1 : w3.cell? ⟨w.heap.size, 1, none⟩ = some (.int .u32 lc) := hB3.cell 1
  have HM3 := Lib.hid hM3; clear hM3
  have HK3 : Hid (KT lnT B w w3) := Lib.hid ((KT.of_bel (hb1.trans hb2)).trans hk3)
  clear hk3 hb1 hb2 hB1 hB3 HM HMF
  obtain ⟨sp, hbi⟩ := HM3.out.hb i hi
  obtain ⟨n0, n1, n2⟩ := HM3.out.hn i hi
  have HBI := Lib.hid hbi; clear hbi
  have HKI := Lib.hid (keyIn_line h0 h1)
  go_wp2_with fail
  refine (line_any lc w3 h0 h1).mono ?_
  rintro e w4 ⟨rfl, rfl⟩
  generalize hl : lc / 4096 = l at HKI ⊢
  have HLL := Lib.hid hl; clear hl
  go_wp2_with fail
  refine (bremove0 HBI.out n0 n1 n2 HKI.out).mono ?_
  rintro e w5 ⟨⟨u, rfl⟩, hs⟩
  have HS := Lib.hid (HM3.out.upd hi hs); clear hs
  go_wp2
  go_end0
  exact ⟨⟨_, rfl⟩, by rw [HLL.out]; obtain ⟨⟨vd', h⟩, _⟩ := HS.out; exact ⟨vd', bm, p, h⟩, HK3.out.trans HS.out.2⟩

set_option maxHeartbeats 1000000 in
theorem lcontains0 {w : World} {B x m : Nat} {F : Nat → FileS} {d : Nat → List Pl.Ent} (h : LnW w B x m F d) {i : Nat} (hi : i < m) {lc : Int} (h0 : 0 ≤ lc) (h1 : lc < 4294967296) :
    Calls Try.prog 38 #[mptr x, xpos i lc] w fun e w' => e = .returned (.bool (hasB (shE (F i).f (d i)) (lc / 4096))) ∧ LnW w' B x m F d ∧ KT lnT B w w' := by
  obtain ⟨vd, bm, p, hM⟩ := h
  have HM := Lib.hid hM; clear hM
  have HMF := Lib.hid (fun (w1 : World) (h : LnM w1 B x m F d vd bm p) => mapFor_ln h hi)
  unfold xpos
  generalize hk : (i : Int) + 1 = k at HMF ⊢
  clear hk
  go_enter Try.func38, Try.ntmps38
  go_wp2_with fail
  have hb1 : Bel w (w.alloc (.cells #[.int .i32 k, .int .u32 lc] 58)) := (Bel.refl w).alloc _
  have hB1 : Blk (w.alloc (.cells #[.int .i32 k, .int .u32 lc] 58)) w.heap.size 58 [.int .i32 k, .int .u32 lc] := Blk.new w _ [_, _]
  generalize w.alloc (.cells #[.int .i32 k, .int .u32 lc] 58) = w1 at hb1 hB1 ⊢
  have c0 : w1.cell? ⟨w.heap.size, 0, none⟩ = some (.int .i32 k) := hB1.cell 0
  have c1 : w1.cell? ⟨w.heap.size, 1, none⟩ = some (.int .u32 lc) := hB1.cell 1
  refine (fileIndex_any k lc w1).mono ?_
  rintro e w2 ⟨rfl, hb2⟩
  clear c0 c1
  go_wp2_with fail
  refine (HMF.out w2 (HM.out.bel (hb1.trans hb2))).mono ?_
  rintro e w3 ⟨rfl, hM3, hk3⟩
  have hB3 := (hB1.bel hb2).kt hk3 (.inl (by decide))
  have e1 : w3.cell? ⟨w.heap.size, 1, none⟩ = some (.int .u32 lc) := hB3.cell 1
  have HM3 := Lib.hid hM3; clear hM3
  have HK3 : Hid (KT lnT B w w3) := Lib.hid ((KT.of_bel (hb1.trans hb2)).trans hk3)
  clear hk3 hb1 hb2 hB1 hB3 HM HMF
  obtain ⟨sp, hbi⟩ := HM3.out.hb i hi
  obtain ⟨n0, n1, n2⟩ := HM3.out.hn i hi
  have HBI := Lib.hid hbi; clear hbi
  have HKI := Lib.hid (keyIn_line h0 h1)
  go_wp2_with fail
  refine (line_any lc w3 h0 h1).mono ?_
  rintro e w4 ⟨rfl, rfl⟩
  generalize hl : lc / 4096 = l at HKI ⊢
  have HLL := Lib.hid hl; clear hl
  go_wp2_with fail
  refine (bcontains0 HBI.out n0 n1 n2 HKI.out).mono ?_
  rintro e w5 ⟨rfl, hb5⟩
  go_wp2
  go_ret
  rw [HLL.out]
  exact ⟨rfl, ⟨vd, bm, p, HM3.out.bel hb5⟩, HK3.out.then hb5⟩

set_option maxHeartbeats 1000000 in
theorem lget0 {w : World} {B x m : Nat} {F : Nat → FileS} {d : Nat → List Pl.Ent} (h : LnW w B x m F d) {i : Nat} (hi : i < m) {lc : Int} (h0 : 0 ≤ lc) (h1 : lc < 4294967296) :
    Calls Try.prog 39 #[mptr x, xpos i lc] w fun e w' => e = .returned (.tuple #[.int .i32 (getV (shE (F i).f (d i)) (lc / 4096)), .bool (hasB (shE (F i).f (d i)) (lc / 4096))]) ∧ LnW w' B x m F d ∧ KT lnT B w w' := by
  obtain ⟨vd, bm, p, hM⟩ := h
  have HM := Lib.hid hM; clear hM
  have HMF := Lib.hid (fun (w1 : World) (h : LnM w1 B x m F d vd bm p) => mapFor_ln h hi)
  unfold xpos
  generalize hk : (i : Int) + 1 = k at HMF ⊢
  clear hk
  go_enter Try.func39, Try.ntmps39
  go_wp2_with fail
  have hb1 : Bel w (w.alloc (.cells #[.int .i32 k, .int .u32 lc] 58)) := (Bel.refl w).alloc _
  have hB1 : Blk (w.alloc (.cells #[.int .i32 k, .int .u32 lc] 58)) w.heap.size 58 [.int .i32 k, .int .u32 lc] := Blk.new w _ [_, _]
  generalize w.alloc (.cells #[.int .i32 k, .int .u32 lc] 58) = w1 at hb1 hB1 ⊢
  have c0 : w1.cell? ⟨w.heap.size, 0, none⟩ = some (.int .i32 k) := hB1.cell 0
  have c1 : w1.cell? ⟨w.heap.size, 1, none⟩ = some (.int .u32 lc) := hB1.cell 1
  refine (fileIndex_any k lc w1).mono ?_
  rintro e w2 ⟨rfl, hb2⟩
  clear c0 c1
  go_wp2_with fail
  refine (HMF.out w2 (HM.out.bel (hb1.trans hb2))).mono ?_
  rintro e w3 ⟨rfl, hM3, hk3⟩
  have hB3 := (hB1.bel hb2).kt hk3 (.inl (by decide))
  have e1 : w3.cell? ⟨w.heap.size, 1, none⟩ = some (.int .u32 lc) := hB3.cell 1
  have HM3 := Lib.hid hM3; clear hM3
  have HK3 : Hid (KT lnT B w w3) := Lib.hid ((KT.of_bel (hb1.trans hb2)).trans hk3)
  clear hk3 hb1 hb2 hB1 hB3 HM HMF
  obtain ⟨sp, hbi⟩ := HM3.out.hb i hi
  obtain ⟨n0, n1, n2⟩ := HM3.out.hn i hi
  have HBI := Lib.hid hbi; clear hbi
  have HKI := Lib.hid (keyIn_line h0 h1)
  go_wp2_with fail
  refine (line_any lc w3 h0 h1).mono ?_
  rintro e w4 ⟨rfl, rfl⟩
  generalize hl : lc / 4096 = l at HKI ⊢
  have HLL := Lib.hid hl; clear hl
  go_wp2_with fail
  refine (bget0 HBI.out n0 n1 n2 HKI.out).mono ?_
  rintro e w5 ⟨rfl, hb5⟩
  go_wp2
  go_ret2
  rw [HLL.out]
  exact ⟨rfl, ⟨vd, bm, p, HM3.out.bel hb5⟩, HK3.out.then hb5⟩

theorem lSet_any {w : World} {B x m : Nat} {F : Nat → FileS} {d : Nat → List Pl.Ent} (h : LnW w B x m F d) {i : Nat} (hi : i < m) {lc : Int} (h0 : 0 ≤ lc) (h1 : lc < 4294967296) {v : Int} (hv : Val32 v) :
    Calls Try.prog 25 #[mptr x, xpos i lc, .int .i32 v] w fun e w' => (∃ u, e = .returned u) ∧ LnW w' B x m F (upd d i (bputE (F i).n (F i).f (d i) (lc / 4096) v)) ∧ KT lnT B w w' := by
  have H := Lib.hid (fun (w1 : World) (h : LnW w1 B x m F d) => lset0 h hi h0 h1 hv)
  have HL := Lib.hid h; clear h
  unfold xpos at H ⊢
  generalize hk : (i : Int) + 1 = k at H ⊢
  clear hk
  go_enter Try.func25, Try.ntmps25
  go_wp2_with fail
  refine (H.out _ (HL.out.bel ((Bel.refl w).alloc _))).mono ?_
  rintro e w2 ⟨⟨u, rfl⟩, hs, hkt⟩
  go_wp2
  go_end0
  exact ⟨⟨_, rfl⟩, hs, (KT.of_bel ((Bel.refl w).alloc _)).trans hkt⟩

theorem lAdd_any {w : World} {B x m : Nat} {F : Nat → FileS} {d : Nat → List Pl.Ent} (h : LnW w B x m F d) {i : Nat} (hi : i < m) {lc : Int} (h0 : 0 ≤ lc) (h1 : lc < 4294967296) :
    Calls Try.prog 26 #[mptr x, xpos i lc] w fun e w' => (∃ u, e = .returned u) ∧ LnW w' B x m F (upd d i (bputE (F i).n (F i).f (d i) (lc / 4096) 0)) ∧ KT lnT B w w' := by
  have H := Lib.hid (fun (w1 : World) (h : LnW w1 B x m F d) => ladd0 h hi h0 h1)
  have HL := Lib.hid h; clear h
  unfold xpos at H ⊢
  generalize hk : (i : Int) + 1 = k at H ⊢
  clear hk
  go_enter Try.func26, Try.ntmps26
  go_wp2_with fail
  refine (H.out _ (HL.out.bel ((Bel.refl w).alloc _))).mono ?_
  rintro e w2 ⟨⟨u, rfl⟩, hs, hkt⟩
  go_wp2
  go_end0
  exact ⟨⟨_, rfl⟩, hs, (KT.of_bel ((Bel.refl w).alloc _)).trans hkt⟩

theorem lRemove_any {w : World} {B x m : Nat} {F : Nat → FileS} {d : Nat → List Pl.Ent} (h : LnW w B x m F d) {i : Nat} (hi : i < m) {lc : Int} (h0 : 0 ≤ lc) (h1 : lc < 4294967296) :
    Calls Try.prog 27 #[mptr x, xpos i lc] w fun e w' => (∃ u, e = .returned u) ∧ LnW w' B x m F (upd d i (outE (d i) (lc / 4096 - (F i).f))) ∧ KT lnT B w w' := by
  have H := Lib.hid (fun (w1 : World) (h : LnW w1 B x m F d) => lremove0 h hi h0 h1)
  have HL := Lib.hid h; clear h
  unfold xpos at H ⊢
  generalize hk : (i : Int) + 1 = k at H ⊢
  clear hk
  go_enter Try.func27, Try.ntmps27
  go_wp2_with fail
  refine (H.out _ (HL.out.bel ((Bel.refl w).alloc _))).mono ?_
  rintro e w2 ⟨⟨u, rfl⟩, hs, hkt⟩
  go_wp2
  go_end0
  exact ⟨⟨_, rfl⟩, hs, (KT.of_bel ((Bel.refl w).alloc _)).trans hkt⟩

theorem lContains_any {w : World} {B x m : Nat} {F : Nat → FileS} {d : Nat → List Pl.Ent} (h : LnW w B x m F d) {i : Nat} (hi : i < m) {lc : Int} (h0 : 0 ≤ lc) (h1 : lc < 4294967296) :
    Calls Try.prog 28 #[mptr x, xpos i lc] w fun e w' => e = .returned (.bool (hasB (shE (F i).f (d i)) (lc / 4096))) ∧ LnW w' B x m F d ∧ KT lnT B w w' := by
  have H := Lib.hid (fun (w1 : World) (h : LnW w1 B x m F d) => lcontains0 h hi h0 h1)
  have HL := Lib.hid h; clear h
  unfold xpos at H ⊢
  generalize hk : (i : Int) + 1 = k at H ⊢
  clear hk
  go_enter Try.func28, Try.ntmps28
  go_wp2_with fail
  refine (H.out _ (HL.out.bel ((Bel.refl w).alloc _))).mono ?_
  rintro e w2 ⟨rfl, hs, hkt⟩
  go_wp2
  go_ret
  exact ⟨rfl, hs, (KT.of_bel ((Bel.refl w).alloc _)).trans hkt⟩

theorem lGet_any {w : World} {B x m : Nat} {F : Nat → FileS} {d : Nat → List Pl.Ent} (h : LnW w B x m F d) {i : Nat} (hi : i < m) {lc : Int} (h0 : 0 ≤ lc) (h1 : lc < 4294967296) :
    Calls Try.prog 29 #[mptr x, xpos i lc] w fun e w' => e = .returned (.tuple #[.int .i32 (getV (shE (F i).f (d i)) (lc / 4096)), .bool (hasB (shE (F i).f (d i)) (lc / 4096))]) ∧ LnW w' B x m F d ∧ KT lnT B w w' := by
  have H := Lib.hid (fun (w1 : World) (h : LnW w1 B x m F d) => lget0 h hi h0 h1)
  have HL := Lib.hid h; clear h
  unfold xpos at H ⊢
  generalize hk : (i : Int) + 1 = k at H ⊢
  clear hk
  go_enter Try.func29, Try.ntmps29
  go_wp2_with fail
  refine (H.out _ (HL.out.bel ((Bel.refl w).alloc _))).mono ?_
  rintro e w2 ⟨rfl, hs, hkt⟩
  go_wp2
  go_ret2
  exact ⟨rfl, hs, (KT.of_bel ((Bel.refl w).alloc _)).trans hkt⟩
end Go.Proofs.Ytangceejmjklcaa
