/- Pos.WriteTo, Pos.Format, impl.Format: a position's text. -/
import Derived.Test.YtmlimedmeolegaaDoorFW
import Derived.Test.YtmlimedmeolegaaDoorInv3
import Derived.BigQuiet
import Derived.LaidEqlPtr
import Derived.Deep.RegionHeld3
import Derived.Deep.RegionLaw
import Derived.Deep.DeepCutAuto
import Derived.Deep.DrawnRows
import Derived.BigRegion
namespace Go.Proofs.YtmlimedmeolegaaDoor
open Go.RowKit Go.BigFrame Go.Lib
set_option linter.unusedVariables false
set_option linter.unusedSimpArgs false

/-- The values of the operations. -/
def VW5 (b bx g : Nat) (lc : Int) (nm : ByteArray) (x y : Nat) (sh : Bool)  : List (Nat × Nat × Value) := [(0, 23, bufV b), (1, 24, .agg #[ptr g, .int .u32 lc]), (2, 25, .string nm), (3, 26, .pointer (some ⟨bx, 1, none⟩)), (4, 27, .int .u32 lc), (5, 28, .int .u64 x), (6, 29, .pointer (some ⟨bx, 1, none⟩)), (7, 30, .int .u32 lc), (8, 31, .int .u64 y), (9, 32, .bool sh), (10, 33, .tuple #[])]
theorem VW5_slots (b bx g : Nat) (lc : Int) (nm : ByteArray) (x y : Nat) (sh : Bool)  : (VW5 b bx g lc nm x y sh).map (·.2.1) = [23, 24, 25, 26, 27, 28, 29, 30, 31, 32, 33] := rfl
theorem VW5_idx (b bx g : Nat) (lc : Int) (nm : ByteArray) (x y : Nat) (sh : Bool)  : (VW5 b bx g lc nm x y sh).map (·.1) = [0, 1, 2, 3, 4, 5, 6, 7, 8, 9, 10] := rfl
theorem VW5_nd (b bx g : Nat) (lc : Int) (nm : ByteArray) (x y : Nat) (sh : Bool)  : ((VW5 b bx g lc nm x y sh).map (·.2.1)).Nodup := by rw [VW5_slots]; decide
theorem VW5_nd' (b bx g : Nat) (lc : Int) (nm : ByteArray) (x y : Nat) (sh : Bool)  : ((VW5 b bx g lc nm x y sh).map (·.1)).Nodup := by rw [VW5_idx]; decide
theorem VW5_not1 (b bx g : Nat) (lc : Int) (nm : ByteArray) (x y : Nat) (sh : Bool)  : 1 ∉ (VW5 b bx g lc nm x y sh).map (·.2.1) := by rw [VW5_slots]; decide
theorem VW5_not2 (b bx g : Nat) (lc : Int) (nm : ByteArray) (x y : Nat) (sh : Bool)  : 2 ∉ (VW5 b bx g lc nm x y sh).map (·.2.1) := by rw [VW5_slots]; decide
theorem VW5_not4 (b bx g : Nat) (lc : Int) (nm : ByteArray) (x y : Nat) (sh : Bool)  : 4 ∉ (VW5 b bx g lc nm x y sh).map (·.2.1) := by rw [VW5_slots]; decide
/-- The worlds of a drawn region whose last operation k does what Q says; the others leave old blocks as they are. -/
structure FI (k : Nat) (wb : World) (Q : World → Prop) (D : Nat → Bool) (W : World) : Prop where
  no : D k = false → Bel wb W
  yes : D k = true → Q W
theorem FI.step {k : Nat} {wb W W' : World} {Q : World → Prop} {D : Nat → Bool} (h : FI k wb Q D W) (hb : Bel W W') (hk : D k = false) {i : Nat} (hi : i ≠ k) : FI k wb Q (also D i) W' :=
  ⟨fun _ => (h.no hk).trans hb, fun e => (by rw [also_ne (Ne.symm hi), hk] at e; cases e)⟩
theorem FI.last {k : Nat} {wb W W' : World} {Q : World → Prop} {D : Nat → Bool} (h : FI k wb Q D W) (hq : Q W') : FI k wb Q (also D k) W' :=
  ⟨fun e => (by rw [also_self] at e; cases e), fun _ => hq⟩

theorem base_info : (Tryd.prog.info? 40).isSome = true := by kernel_rfl
theorem eql_base (g : Nat) (w : World) : (binOp .eql 29 (ptr g) (ptr g)).run Tryd.prog w = .ok (.bool true) w := by
  obtain ⟨j, hj⟩ := Option.isSome_iff_exists.1 base_info
  exact run_eql_ptr_same w ⟨g, 0, none⟩ Tryd.underlying29 hj
attribute [local go_sem ↓] eql_base
/-- The text of a position. -/
def fmtL (nm : ByteArray) (x y : Nat) (sh : Bool) : List UInt8 := nm.data.toList ++ [58] ++ decDigits x ++ (if sh = true then 58 :: decDigits y else [])

set_option maxRecDepth 100000 in
set_option maxHeartbeats 4000000 in
theorem writeTo_any (B b g : Nat) (nm : ByteArray) (fi : Int) (x y : Nat) (sh : Bool) (w : World) (h : IsBuffer 45 5 B b (byteCells []) w) (hBw : B ≤ w.heap.size) (hg : Blk w g 40 (fileBase g nm fi)) (hl : nm.size ≤ 1000) (hx1 : 1 ≤ x) (hx : x ≤ 1000000) (hy1 : 1 ≤ y) (hy : y ≤ 250) (hT : Lib.TabBelow Tryd.prog B w powName .u64 Lib.pow10Tab) :
    Calls Tryd.prog 11 #[.agg #[ptr g, .int .u32 ((x : Int) * 4096 + (y : Int) * 16)], bufV b, .bool sh, .bool false] w fun e w' => e = .returned (.tuple #[]) ∧ IsBuffer 45 5 B b (byteCells (fmtL nm x y sh)) w' ∧ Below B w w' := by
  obtain ⟨lc, hlc⟩ : ∃ z : Int, z = (x : Int) * 4096 + (y : Int) * 16 := ⟨_, rfl⟩
  rw [← hlc]
  have e1 : lc / 4096 = (x : Int) := by omega
  have e2 : lc / 16 % 256 = (y : Int) := by omega
  have HLI := Lib.hid (fun (W : World) => (show Calls Tryd.prog 19 #[.int .u32 lc] W fun e w' => e = .returned (.int .u64 (x : Int)) ∧ Bel W w' from (line_any lc W (by omega) (by omega)).mono fun e w' ⟨h1, h2⟩ => ⟨by rw [h1, e1], h2 ▸ Bel.refl _⟩))
  have HCO := Lib.hid (fun (W : World) => (show Calls Tryd.prog 20 #[.int .u32 lc] W fun e w' => e = .returned (.int .u64 (y : Int)) ∧ Bel W w' from (col_any lc W (by omega) (by omega)).mono fun e w' ⟨h1, h2⟩ => ⟨by rw [h1, e2], h2 ▸ Bel.refl _⟩))
  have HLC := Lib.hid hlc; clear hlc e1 e2
  have HB0 : Hid (Blk (w.alloc (.cells #[ptr g, .int .u32 lc] 33)) w.heap.size 33 [ptr g, .int .u32 lc] ∧ Bel w (w.alloc (.cells #[ptr g, .int .u32 lc] 33))) := Lib.hid ⟨Blk.new w _ [_, _], (Bel.refl w).alloc _⟩
  have H := Lib.hid (And.intro h (And.intro hg hT)); clear h hg hT
  go_enter Tryd.func11, Tryd.ntmps11
  go_wp2_with fail
  generalize w.alloc (.cells #[ptr g, .int .u32 lc] 33) = w0 at HB0 ⊢
  generalize hbx : w.heap.size = bx at HB0 ⊢
  have HBX := Lib.hid hbx; clear hbx
  refine (posKnown_some g lc w0).mono ?_
  rintro e w1 ⟨rfl, hb1⟩
  have HB1 := Lib.hid (And.intro (HB0.out.1.bel hb1) (And.intro (HB0.out.2.trans hb1) (H.out.2.1.bel (HB0.out.2.trans hb1))))
  clear hb1 HB0
  have c0 : w1.cell? ⟨bx, 0, none⟩ = some (ptr g) := HB1.out.1.cell 0
  have c1 : w1.cell? ⟨bx, 1, none⟩ = some (.int .u32 lc) := HB1.out.1.cell 1
  have d0 : w1.cell? ⟨g, 0, none⟩ = some (ptr g) := HB1.out.2.2.cell 0
  go_wp2_with fail
  refine (basePos_any g w1).mono ?_
  rintro e w2 ⟨rfl, rfl⟩
  go_upto_region 5 with (fail)
  have HFN := Lib.hid (fun (W : World) (hb : Bel w1 W) => fileName_any g lc fi nm W (HB1.out.2.2.bel hb))
  obtain ⟨QF, hQF⟩ : ∃ Q : World → Prop, Q = fun W => IsBuffer 45 5 B b (byteCells (fmtL nm x y sh)) W ∧ Below B w W := ⟨_, rfl⟩
  have HFM : Hid (∀ W, Bel w1 W → Calls Tryd.prog 17 #[bufV b, .string nm, .int .u64 x, .int .u64 y, .bool sh] W fun e w' => e = .returned (.tuple #[]) ∧ QF w') := Lib.hid (fun W hb => by
    have hw : Bel w W := HB1.out.2.1.trans hb
    have hbw := hw.size
    refine (format_any B b [] nm x y sh W (H.out.1.old hw) (by omega) (by simp; omega) hx1 hx hy1 hy (H.out.2.2.on (hw.mono hBw))).mono ?_
    rintro e w' ⟨rfl, h1, h2⟩
    refine ⟨rfl, ?_⟩
    rw [hQF]
    exact ⟨by simpa [fmtL] using h1, (hw.mono hBw).trans h2⟩)
  have HQF := Lib.hid hQF; clear hQF d0
  refine act_name (fun a0 ha0 => ?_)
  have so1 : a0.eval (.tmp 1) = bufV b := by rw [ha0]; rfl
  have so4 : a0.eval (.tmp 4) = .pointer (some ⟨bx, 0, none⟩) := by rw [ha0]; rfl
  have so2 : a0.eval (.tmp 2) = .bool sh := by rw [ha0]; rfl
  have hsz : a0.tmps.size = 59 := by rw [ha0]; rfl
  have HA0 := Lib.hid ha0; clear ha0
  refine region_obs3 (fun D a' W => a' = frC a0 D (VW5 b bx g lc nm x y sh) ∧ FI 10 w1 QF D W) (by kernel_rfl) (by kernel_rfl) ⟨(frC_none _ _).symm, fun _ => (Bel.refl w1).drew, fun e => (by cases e)⟩ ?_ ?_
  · refine ⟨?_, ?_, ?_, ?_, ?_, ?_, ?_, ?_, ?_, ?_, ?_, trivial⟩
    · rintro D _ W hD hcl hdeps ⟨rfl, hW⟩
      have e1 := ev_get ((frC_out (a0 := a0) (D := D) (VW5_not1 b bx g lc nm x y sh)).trans so1)
      have hn10 : D 10 = false := by cases h : D 10; rfl; have := hcl 10 _ rfl h ⟨0, .data⟩ (by simp) rfl; rw [hD] at this; cases this
      have hk10 := hn10
      refine ob_val rfl (v := bufV b) (by simp [execOp, go_sem, e1]) ⟨frC_put hD (by simp [VW5]) (VW5_nd _ _ _ _ _ _ _ _) (VW5_nd' _ _ _ _ _ _ _ _), hW.step (Bel.refl W) hk10 (by decide)⟩
    · rintro D _ W hD hcl hdeps ⟨rfl, hW⟩
      have e4 := ev_get ((frC_out (a0 := a0) (D := D) (VW5_not4 b bx g lc nm x y sh)).trans so4)
      have hn2 : D 2 = false := by cases h : D 2; rfl; have := hcl 2 _ rfl h ⟨1, .data⟩ (by simp) rfl; rw [hD] at this; cases this
      have hn10 : D 10 = false := by cases h : D 10; rfl; have := hcl 10 _ rfl h ⟨2, .data⟩ (by simp) rfl; rw [hn2] at this; cases this
      have hk10 := hn10
      have z0 := (hW.no hk10).cell c0
      have z1 := (hW.no hk10).cell c1
      refine ob_val rfl (v := .agg #[ptr g, .int .u32 lc]) (by simp [execOp, go_sem, e4, z0, z1]) ⟨frC_put hD (by simp [VW5]) (VW5_nd _ _ _ _ _ _ _ _) (VW5_nd' _ _ _ _ _ _ _ _), hW.step (Bel.refl W) hk10 (by decide)⟩
    · rintro D _ W hD hcl hdeps ⟨rfl, hW⟩
      have hd1 : D 1 = true := hdeps ⟨1, .data⟩ (by simp) rfl
      have e24 := ev_get (frC_in (v := .agg #[ptr g, .int .u32 lc]) hd1 (show 24 < a0.tmps.size by rw [hsz]; decide) (vs := VW5 b bx g lc nm x y sh) (by simp [VW5]) (VW5_nd _ _ _ _ _ _ _ _))
      have hn10 : D 10 = false := by cases h : D 10; rfl; have := hcl 10 _ rfl h ⟨2, .data⟩ (by simp) rfl; rw [hD] at this; cases this
      have hk10 := hn10
      refine ob_enter rfl (v := .string nm) (f := 18) (args := #[.agg #[ptr g, .int .u32 lc]]) (w' := W) (by simp [go_sem, e24]) ((HFN.out W (hW.no hk10)).mono ?_)
      rintro e w2 ⟨rfl, hb2⟩
      exact ⟨rfl, frC_put hD (by simp [VW5]) (VW5_nd _ _ _ _ _ _ _ _) (VW5_nd' _ _ _ _ _ _ _ _), hW.step hb2 hk10 (by decide)⟩
    · rintro D _ W hD hcl hdeps ⟨rfl, hW⟩
      have e4 := ev_get ((frC_out (a0 := a0) (D := D) (VW5_not4 b bx g lc nm x y sh)).trans so4)
      have hn4 : D 4 = false := by cases h : D 4; rfl; have := hcl 4 _ rfl h ⟨3, .data⟩ (by simp) rfl; rw [hD] at this; cases this
      have hn5 : D 5 = false := by cases h : D 5; rfl; have := hcl 5 _ rfl h ⟨4, .data⟩ (by simp) rfl; rw [hn4] at this; cases this
      have hn10 : D 10 = false := by cases h : D 10; rfl; have := hcl 10 _ rfl h ⟨5, .data⟩ (by simp) rfl; rw [hn5] at this; cases this
      have hk10 := hn10
      refine ob_val rfl (v := .pointer (some ⟨bx, 1, none⟩)) (by simp [execOp, go_sem, e4]) ⟨frC_put hD (by simp [VW5]) (VW5_nd _ _ _ _ _ _ _ _) (VW5_nd' _ _ _ _ _ _ _ _), hW.step (Bel.refl W) hk10 (by decide)⟩
    · rintro D _ W hD hcl hdeps ⟨rfl, hW⟩
      have hd3 : D 3 = true := hdeps ⟨3, .data⟩ (by simp) rfl
      have e26 := ev_get (frC_in (v := .pointer (some ⟨bx, 1, none⟩)) hd3 (show 26 < a0.tmps.size by rw [hsz]; decide) (vs := VW5 b bx g lc nm x y sh) (by simp [VW5]) (VW5_nd _ _ _ _ _ _ _ _))
      have hn5 : D 5 = false := by cases h : D 5; rfl; have := hcl 5 _ rfl h ⟨4, .data⟩ (by simp) rfl; rw [hD] at this; cases this
      have hn10 : D 10 = false := by cases h : D 10; rfl; have := hcl 10 _ rfl h ⟨5, .data⟩ (by simp) rfl; rw [hn5] at this; cases this
      have hk10 := hn10
      have z0 := (hW.no hk10).cell c1
      refine ob_val rfl (v := .int .u32 lc) (by simp [execOp, go_sem, e26, z0]) ⟨frC_put hD (by simp [VW5]) (VW5_nd _ _ _ _ _ _ _ _) (VW5_nd' _ _ _ _ _ _ _ _), hW.step (Bel.refl W) hk10 (by decide)⟩
    · rintro D _ W hD hcl hdeps ⟨rfl, hW⟩
      have hd4 : D 4 = true := hdeps ⟨4, .data⟩ (by simp) rfl
      have e27 := ev_get (frC_in (v := .int .u32 lc) hd4 (show 27 < a0.tmps.size by rw [hsz]; decide) (vs := VW5 b bx g lc nm x y sh) (by simp [VW5]) (VW5_nd _ _ _ _ _ _ _ _))
      have hn10 : D 10 = false := by cases h : D 10; rfl; have := hcl 10 _ rfl h ⟨5, .data⟩ (by simp) rfl; rw [hD] at this; cases this
      have hk10 := hn10
      refine ob_enter rfl (v := .int .u64 x) (f := 19) (args := #[.int .u32 lc]) (w' := W) (by simp [go_sem, e27]) ((HLI.out W).mono ?_)
      rintro e w2 ⟨rfl, hb2⟩
      exact ⟨rfl, frC_put hD (by simp [VW5]) (VW5_nd _ _ _ _ _ _ _ _) (VW5_nd' _ _ _ _ _ _ _ _), hW.step hb2 hk10 (by decide)⟩
    · rintro D _ W hD hcl hdeps ⟨rfl, hW⟩
      have e4 := ev_get ((frC_out (a0 := a0) (D := D) (VW5_not4 b bx g lc nm x y sh)).trans so4)
      have hn7 : D 7 = false := by cases h : D 7; rfl; have := hcl 7 _ rfl h ⟨6, .data⟩ (by simp) rfl; rw [hD] at this; cases this
      have hn8 : D 8 = false := by cases h : D 8; rfl; have := hcl 8 _ rfl h ⟨7, .data⟩ (by simp) rfl; rw [hn7] at this; cases this
      have hn10 : D 10 = false := by cases h : D 10; rfl; have := hcl 10 _ rfl h ⟨8, .data⟩ (by simp) rfl; rw [hn8] at this; cases this
      have hk10 := hn10
      refine ob_val rfl (v := .pointer (some ⟨bx, 1, none⟩)) (by simp [execOp, go_sem, e4]) ⟨frC_put hD (by simp [VW5]) (VW5_nd _ _ _ _ _ _ _ _) (VW5_nd' _ _ _ _ _ _ _ _), hW.step (Bel.refl W) hk10 (by decide)⟩
    · rintro D _ W hD hcl hdeps ⟨rfl, hW⟩
      have hd6 : D 6 = true := hdeps ⟨6, .data⟩ (by simp) rfl
      have e29 := ev_get (frC_in (v := .pointer (some ⟨bx, 1, none⟩)) hd6 (show 29 < a0.tmps.size by rw [hsz]; decide) (vs := VW5 b bx g lc nm x y sh) (by simp [VW5]) (VW5_nd _ _ _ _ _ _ _ _))
      have hn8 : D 8 = false := by cases h : D 8; rfl; have := hcl 8 _ rfl h ⟨7, .data⟩ (by simp) rfl; rw [hD] at this; cases this
      have hn10 : D 10 = false := by cases h : D 10; rfl; have := hcl 10 _ rfl h ⟨8, .data⟩ (by simp) rfl; rw [hn8] at this; cases this
      have hk10 := hn10
      have z0 := (hW.no hk10).cell c1
      refine ob_val rfl (v := .int .u32 lc) (by simp [execOp, go_sem, e29, z0]) ⟨frC_put hD (by simp [VW5]) (VW5_nd _ _ _ _ _ _ _ _) (VW5_nd' _ _ _ _ _ _ _ _), hW.step (Bel.refl W) hk10 (by decide)⟩
    · rintro D _ W hD hcl hdeps ⟨rfl, hW⟩
      have hd7 : D 7 = true := hdeps ⟨7, .data⟩ (by simp) rfl
      have e30 := ev_get (frC_in (v := .int .u32 lc) hd7 (show 30 < a0.tmps.size by rw [hsz]; decide) (vs := VW5 b bx g lc nm x y sh) (by simp [VW5]) (VW5_nd _ _ _ _ _ _ _ _))
      have hn10 : D 10 = false := by cases h : D 10; rfl; have := hcl 10 _ rfl h ⟨8, .data⟩ (by simp) rfl; rw [hD] at this; cases this
      have hk10 := hn10
      refine ob_enter rfl (v := .int .u64 y) (f := 20) (args := #[.int .u32 lc]) (w' := W) (by simp [go_sem, e30]) ((HCO.out W).mono ?_)
      rintro e w2 ⟨rfl, hb2⟩
      exact ⟨rfl, frC_put hD (by simp [VW5]) (VW5_nd _ _ _ _ _ _ _ _) (VW5_nd' _ _ _ _ _ _ _ _), hW.step hb2 hk10 (by decide)⟩
    · rintro D _ W hD hcl hdeps ⟨rfl, hW⟩
      have e2 := ev_get ((frC_out (a0 := a0) (D := D) (VW5_not2 b bx g lc nm x y sh)).trans so2)
      have hn10 : D 10 = false := by cases h : D 10; rfl; have := hcl 10 _ rfl h ⟨9, .data⟩ (by simp) rfl; rw [hD] at this; cases this
      have hk10 := hn10
      refine ob_val rfl (v := .bool sh) (by simp [execOp, go_sem, e2]) ⟨frC_put hD (by simp [VW5]) (VW5_nd _ _ _ _ _ _ _ _) (VW5_nd' _ _ _ _ _ _ _ _), hW.step (Bel.refl W) hk10 (by decide)⟩
    · rintro D _ W hD hcl hdeps ⟨rfl, hW⟩
      have hd0 : D 0 = true := hdeps ⟨0, .data⟩ (by simp) rfl
      have e23 := ev_get (frC_in (v := bufV b) hd0 (show 23 < a0.tmps.size by rw [hsz]; decide) (vs := VW5 b bx g lc nm x y sh) (by simp [VW5]) (VW5_nd _ _ _ _ _ _ _ _))
      have hd2 : D 2 = true := hdeps ⟨2, .data⟩ (by simp) rfl
      have e25 := ev_get (frC_in (v := .string nm) hd2 (show 25 < a0.tmps.size by rw [hsz]; decide) (vs := VW5 b bx g lc nm x y sh) (by simp [VW5]) (VW5_nd _ _ _ _ _ _ _ _))
      have hd5 : D 5 = true := hdeps ⟨5, .data⟩ (by simp) rfl
      have e28 := ev_get (frC_in (v := .int .u64 x) hd5 (show 28 < a0.tmps.size by rw [hsz]; decide) (vs := VW5 b bx g lc nm x y sh) (by simp [VW5]) (VW5_nd _ _ _ _ _ _ _ _))
      have hd8 : D 8 = true := hdeps ⟨8, .data⟩ (by simp) rfl
      have e31 := ev_get (frC_in (v := .int .u64 y) hd8 (show 31 < a0.tmps.size by rw [hsz]; decide) (vs := VW5 b bx g lc nm x y sh) (by simp [VW5]) (VW5_nd _ _ _ _ _ _ _ _))
      have hd9 : D 9 = true := hdeps ⟨9, .data⟩ (by simp) rfl
      have e32 := ev_get (frC_in (v := .bool sh) hd9 (show 32 < a0.tmps.size by rw [hsz]; decide) (vs := VW5 b bx g lc nm x y sh) (by simp [VW5]) (VW5_nd _ _ _ _ _ _ _ _))
      refine ob_enter rfl (v := .tuple #[]) (f := 17) (args := #[bufV b, .string nm, .int .u64 x, .int .u64 y, .bool sh]) (w' := W) (by simp [go_sem, e23, e25, e28, e31, e32]) ((HFM.out W (hW.no hD)).mono ?_)
      rintro e w2 ⟨rfl, hq⟩
      exact ⟨rfl, frC_put hD (by simp [VW5]) (VW5_nd _ _ _ _ _ _ _ _) (VW5_nd' _ _ _ _ _ _ _ _), hW.last hq⟩
  · rintro D _ wc hall ⟨rfl, hW⟩
    rw [frC_all (fun e he => hall e.1 (by have h1 : e.1 ∈ (VW5 b bx g lc nm x y sh).map (·.1) := List.mem_map.2 ⟨e, he, rfl⟩; rw [VW5_idx] at h1; simp at h1; show e.1 < 11; omega))]
    have HE := Lib.hid (hW.yes (hall 10 (by decide)))
    rw [HA0.out]
    simp only [VW5, List.foldr_cons, List.foldr_nil, Act.put, List.setIfInBounds_toArray, List.set_cons_succ, List.set_cons_zero]
    clear hW hall HA0 so1 so4 so2 hsz HFM HFN HB1 c0 c1
    go_wp2
    refine bodyPost_ret (results_none rfl _ _ _) rfl ?_
    have hq := HE.out
    rw [HQF.out] at hq
    exact ⟨rfl, hq⟩

set_option maxRecDepth 100000 in
set_option maxHeartbeats 2000000 in
theorem posFormat_any (g : Nat) (nm : ByteArray) (fi : Int) (x y : Nat) (sh : Bool) (w : World) (hg : Blk w g 40 (fileBase g nm fi)) (hl : nm.size ≤ 1000) (hx1 : 1 ≤ x) (hx : x ≤ 1000000) (hy1 : 1 ≤ y) (hy : y ≤ 250) (htab : Lib.TabIs Tryd.prog w powName .u64 Lib.pow10Tab) :
    Calls Tryd.prog 9 #[.agg #[ptr g, .int .u32 ((x : Int) * 4096 + (y : Int) * 16)], .bool sh, .bool false] w fun e w' => e = .returned (.string ⟨(fmtL nm x y sh).toArray⟩) ∧ Bel w w' := by
  have H := Lib.hid (And.intro hg htab); clear hg htab
  go_enter Tryd.func9, Tryd.ntmps9
  go_wp2_with fail
  have hIB := Lib.fresh_isBuffer 45 5 (w.alloc (.cells #[ptr g, .int .u32 ((x : Int) * 4096 + (y : Int) * 16)] 33))
  rw [World.size_alloc] at hIB
  have hb2 : Bel w ((w.alloc (.cells #[ptr g, .int .u32 ((x : Int) * 4096 + (y : Int) * 16)] 33)).alloc (.cells #[.slice none 0 0, .int .i64 0, .int .i8 0] 45)) := ((Bel.refl w).alloc _).alloc _
  have hsz2 : w.heap.size + 1 ≤ (((w.alloc (.cells #[ptr g, .int .u32 ((x : Int) * 4096 + (y : Int) * 16)] 33)).alloc (.cells #[.slice none 0 0, .int .i64 0, .int .i8 0] 45))).heap.size := by simp
  have HI := Lib.hid (And.intro hIB (And.intro hb2 hsz2))
  clear hIB hb2 hsz2
  change Hid (IsBuffer _ _ _ _ _ ((w.alloc (.cells #[ptr g, .int .u32 ((x : Int) * 4096 + (y : Int) * 16)] 33)).alloc (.cells #[.slice none 0 0, .int .i64 0, .int .i8 0] 45)) ∧ _) at HI
  generalize ((w.alloc (.cells #[ptr g, .int .u32 ((x : Int) * 4096 + (y : Int) * 16)] 33)).alloc (.cells #[.slice none 0 0, .int .i64 0, .int .i8 0] 45)) = w2 at HI ⊢
  have hTB : Lib.TabBelow Tryd.prog (w.heap.size + 1) w2 powName .u64 Lib.pow10Tab := fun w' h => (Lib.tabBelow_of_tabIs H.out.2) w' (Below.trans (show Below w.heap.size w w2 from HI.out.2.1) (h.mono (Nat.le_succ _)))
  refine (writeTo_any (w.heap.size + 1) (w.heap.size + 1) g nm fi x y sh w2 HI.out.1 HI.out.2.2 (H.out.1.bel HI.out.2.1) hl hx1 hx hy1 hy hTB).mono ?_
  rintro e w3 ⟨rfl, hI3, hb3⟩
  have HI3 := Lib.hid (And.intro hI3 (show Bel w w3 from Below.trans (show Below w.heap.size w w2 from HI.out.2.1) (hb3.mono (Nat.le_succ _))))
  clear hI3 hb3 hTB HI
  go_wp2_with fail
  refine (Tryd.Buffer_String (w.heap.size + 1) (w.heap.size + 1) (fmtL nm x y sh) w3 HI3.out.1).mono ?_
  rintro e w4 ⟨rfl, n, rfl⟩
  have HB := Lib.hid (HI3.out.2.drewN n)
  clear HI3
  go_wp2
  go_ret
  exact ⟨rfl, HB.out⟩

set_option maxRecDepth 100000 in
set_option maxHeartbeats 2000000 in
theorem implFormat_any (nm : ByteArray) (x y : Nat) (sh : Bool) (w : World) (hl : nm.size ≤ 1000) (hx1 : 1 ≤ x) (hx : x ≤ 1000000) (hy1 : 1 ≤ y) (hy : y ≤ 250) (htab : Lib.TabIs Tryd.prog w powName .u64 Lib.pow10Tab) :
    Calls Tryd.prog 6 #[.string nm, .int .i64 x, .int .i64 y, .bool sh] w fun e w' => e = .returned (.string ⟨(fmtL nm x y sh).toArray⟩) ∧ Bel w w' := by
  have HT := Lib.hid htab; clear htab
  go_enter Tryd.func6, Tryd.ntmps6
  go_wp2_with fail
  refine (newFileBase_any nm w).mono ?_
  rintro e w1 ⟨g, rfl, hge, hB, hb1⟩
  have HB := Lib.hid (And.intro hB hb1)
  clear hB hb1 hge
  go_wp2_with fail
  refine (makePos_any (ptr g) x y w1 ⟨_, rfl⟩ (by omega) (by omega) (by omega) (by omega)).mono ?_
  rintro e w2 ⟨rfl, hb2⟩
  have HF := Lib.hid (posFormat_any g nm (-1) x y sh w2 (HB.out.1.bel hb2) hl hx1 hx hy1 hy (tab_bel HT.out (HB.out.2.trans hb2)))
  have HB2 := Lib.hid (HB.out.2.trans hb2)
  clear hb2 HB
  go_wp2_with fail
  refine HF.out.mono ?_
  rintro e w3 ⟨rfl, hb3⟩
  have HB3 := Lib.hid (HB2.out.trans hb3)
  clear hb3 HB2 HF
  go_wp2
  go_ret
  exact ⟨rfl, HB3.out⟩
end Go.Proofs.YtmlimedmeolegaaDoor
