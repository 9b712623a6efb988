/- impl.Relative. -/
import Derived.Test.YtbekmpmfkblgnaaRel
import Derived.Test.YtbekmpmfkblgnaaFam
namespace Go.Proofs.Ytbekmpmfkblgnaa
open Go.RowKit Go.BigFrame

/-- A directive: what it says, and where it stands. -/
structure DirD where
  line : Int
  col : Int
  name : ByteArray
  toLine : Int
  toCol : Int
abbrev dirV (d : DirD) : Value := .agg #[.int .i64 d.line, .int .i64 d.col, .string d.name, .int .i64 d.toLine, .int .i64 d.toCol]
abbrev dirCells (d : DirD) : List Value := [.int .i64 d.line, .int .i64 d.col, .string d.name, .int .i64 d.toLine, .int .i64 d.toCol]
def placeL (p : PlaceD) : List Value := [.int .i64 p.file, .int .i64 p.line, .int .i64 p.col, .int .i64 p.stmt, .int .i64 p.logue]
def ago : ByteArray := ⟨#[97, 46, 103, 111]⟩

/-- The worlds of Relative's last statement: the results' blocks b1, b2 hold p, q once the stores 19, 20 have been carried out. -/
def RC (w5 : World) (b1 b2 : Nat) (p q : PlaceD) (D : Nat → Bool) (W : World) : Prop :=
  Kept [b1, b2] w5 W ∧ Blk W b1 23 (match D 19 with | true => (placeL p) | false => placeL ⟨0, 0, 0, 0, 0⟩) ∧ Blk W b2 23 (match D 20 with | true => (placeL q) | false => placeL ⟨0, 0, 0, 0, 0⟩)
theorem RC.bel {w5 : World} {b1 b2 : Nat} {p q : PlaceD} {D : Nat → Bool} {W W' : World} (h : RC w5 b1 b2 p q D W) (hb : Bel W W') : RC w5 b1 b2 p q D W' :=
  ⟨h.1.trans (Kept.of_bel (S := [b1, b2]) hb) (fun _ hi => .inl hi), h.2.1.bel hb, h.2.2.bel hb⟩

theorem rc_keeps {w5 : World} {b1 b2 : Nat} {p q : PlaceD} {k : Nat} (h1 : (19 == k) = false) (h2 : (20 == k) = false) : famKeeps (RC w5 b1 b2 p q) k := fun D W h => by
  unfold RC also at *
  simp only [h1, h2, Bool.false_or]
  exact h
theorem rc_store1 {w5 : World} {b1 b2 : Nat} {p q : PlaceD} {D : Nat → Bool} {W : World} (hne : b1 ≠ b2) (h : RC w5 b1 b2 p q D W) : RC w5 b1 b2 p q (also D 19) (((((W.setCell ⟨b1, 0, none⟩ (.int .i64 p.file)).setCell ⟨b1, 1, none⟩ (.int .i64 p.line)).setCell ⟨b1, 2, none⟩ (.int .i64 p.col)).setCell ⟨b1, 3, none⟩ (.int .i64 p.stmt)).setCell ⟨b1, 4, none⟩ (.int .i64 p.logue)) := by
  obtain ⟨h1, h2, h3⟩ := h
  refine ⟨((((h1.setCell (p := ⟨b1, 0, none⟩) (.inl (by simp)) _).setCell (p := ⟨b1, 1, none⟩) (.inl (by simp)) _).setCell (p := ⟨b1, 2, none⟩) (.inl (by simp)) _).setCell (p := ⟨b1, 3, none⟩) (.inl (by simp)) _).setCell (p := ⟨b1, 4, none⟩) (.inl (by simp)) _, ?_, ?_⟩
  · have := ((((h2.set 0 (.int .i64 p.file)).set 1 (.int .i64 p.line)).set 2 (.int .i64 p.col)).set 3 (.int .i64 p.stmt)).set 4 (.int .i64 p.logue)
    cases hD : D 19 <;> rw [hD] at this <;> exact this
  · have e : also D 19 20 = D 20 := by simp [also]
    rw [e]
    have hk : Kept [b1] W (((((W.setCell ⟨b1, 0, none⟩ (.int .i64 p.file)).setCell ⟨b1, 1, none⟩ (.int .i64 p.line)).setCell ⟨b1, 2, none⟩ (.int .i64 p.col)).setCell ⟨b1, 3, none⟩ (.int .i64 p.stmt)).setCell ⟨b1, 4, none⟩ (.int .i64 p.logue)) := (((((Kept.refl _ W).setCell (p := ⟨b1, 0, none⟩) (.inl (by simp)) _).setCell (p := ⟨b1, 1, none⟩) (.inl (by simp)) _).setCell (p := ⟨b1, 2, none⟩) (.inl (by simp)) _).setCell (p := ⟨b1, 3, none⟩) (.inl (by simp)) _).setCell (p := ⟨b1, 4, none⟩) (.inl (by simp)) _
    exact h3.kept hk (by simp; exact Ne.symm hne)
theorem rc_store2 {w5 : World} {b1 b2 : Nat} {p q : PlaceD} {D : Nat → Bool} {W : World} (hne : b1 ≠ b2) (h : RC w5 b1 b2 p q D W) : RC w5 b1 b2 p q (also D 20) (((((W.setCell ⟨b2, 0, none⟩ (.int .i64 q.file)).setCell ⟨b2, 1, none⟩ (.int .i64 q.line)).setCell ⟨b2, 2, none⟩ (.int .i64 q.col)).setCell ⟨b2, 3, none⟩ (.int .i64 q.stmt)).setCell ⟨b2, 4, none⟩ (.int .i64 q.logue)) := by
  obtain ⟨h1, h2, h3⟩ := h
  refine ⟨((((h1.setCell (p := ⟨b2, 0, none⟩) (.inl (by simp)) _).setCell (p := ⟨b2, 1, none⟩) (.inl (by simp)) _).setCell (p := ⟨b2, 2, none⟩) (.inl (by simp)) _).setCell (p := ⟨b2, 3, none⟩) (.inl (by simp)) _).setCell (p := ⟨b2, 4, none⟩) (.inl (by simp)) _, ?_, ?_⟩
  · have e : also D 20 19 = D 19 := by simp [also]
    rw [e]
    have hk : Kept [b2] W (((((W.setCell ⟨b2, 0, none⟩ (.int .i64 q.file)).setCell ⟨b2, 1, none⟩ (.int .i64 q.line)).setCell ⟨b2, 2, none⟩ (.int .i64 q.col)).setCell ⟨b2, 3, none⟩ (.int .i64 q.stmt)).setCell ⟨b2, 4, none⟩ (.int .i64 q.logue)) := (((((Kept.refl _ W).setCell (p := ⟨b2, 0, none⟩) (.inl (by simp)) _).setCell (p := ⟨b2, 1, none⟩) (.inl (by simp)) _).setCell (p := ⟨b2, 2, none⟩) (.inl (by simp)) _).setCell (p := ⟨b2, 3, none⟩) (.inl (by simp)) _).setCell (p := ⟨b2, 4, none⟩) (.inl (by simp)) _
    exact h2.kept hk (by simp; exact hne)
  · have := ((((h3.set 0 (.int .i64 q.file)).set 1 (.int .i64 q.line)).set 2 (.int .i64 q.col)).set 3 (.int .i64 q.stmt)).set 4 (.int .i64 q.logue)
    cases hD : D 20 <;> rw [hD] at this <;> exact this

theorem rc_cells {w5 : World} {b1 b2 : Nat} {p q : PlaceD} {D : Nat → Bool} {W : World} (h : RC w5 b1 b2 p q D W) : ∃ u v : PlaceD, Blk W b1 23 (placeL u) ∧ Blk W b2 23 (placeL v) := by
  obtain ⟨_, h2, h3⟩ := h
  refine ⟨match D 19 with | true => p | false => ⟨0, 0, 0, 0, 0⟩, match D 20 with | true => q | false => ⟨0, 0, 0, 0, 0⟩, ?_, ?_⟩
  · cases hD : D 19 <;> rw [hD] at h2 <;> exact h2
  · cases hD : D 20 <;> rw [hD] at h3 <;> exact h3

theorem five {w : World} {b : Nat} {u : PlaceD} (h : Blk w b 23 (placeL u)) :
    (w.cell? ⟨b, 0, none⟩ = some (.int .i64 u.file) ∧ w.cell? ⟨b, 1, none⟩ = some (.int .i64 u.line) ∧ w.cell? ⟨b, 2, none⟩ = some (.int .i64 u.col) ∧ w.cell? ⟨b, 3, none⟩ = some (.int .i64 u.stmt) ∧ w.cell? ⟨b, 4, none⟩ = some (.int .i64 u.logue)) ∧
    w.frozen? ⟨b, 0, none⟩ = false ∧ w.frozen? ⟨b, 1, none⟩ = false ∧ w.frozen? ⟨b, 2, none⟩ = false ∧ w.frozen? ⟨b, 3, none⟩ = false ∧ w.frozen? ⟨b, 4, none⟩ = false :=
  ⟨⟨h.cell 0, h.cell 1, h.cell 2, h.cell 3, h.cell 4⟩, h.frozen 0, h.frozen 1, h.frozen 2, h.frozen 3, h.frozen 4⟩

set_option maxRecDepth 100000 in
set_option maxHeartbeats 30000000 in
theorem relative_any (d : DirD) (l c : Int) (w : World) (h0 : 1 ≤ d.line) (h1 : d.line ≤ 1000000) (h2 : 1 ≤ d.col) (h3 : d.col ≤ 250) (h4 : 1 ≤ d.toLine) (h5 : d.toLine ≤ 1000000) (h6 : 1 ≤ d.toCol) (h7 : d.toCol ≤ 250)
    (h8 : d.line ≤ l) (h9 : l ≤ 1000000) (h10 : 1 ≤ c) (h11 : c ≤ 250) (h12 : l = d.line → d.col ≤ c) :
    Calls Try.prog 23 #[dirV d, .int .i64 l, .int .i64 c] w fun e w' => e = .returned (.tuple #[.string d.name, placeV ⟨0, d.toLine + (l - d.line), relC (l * 4096 + c * 16) (d.line * 4096 + d.col * 16) d.toCol, 0, 0⟩, placeV ⟨0, l, c, 0, 0⟩]) ∧ Bel w w' := by
  obtain ⟨dl, dc, nm, tl, tc⟩ := d
  simp only at h0 h1 h2 h3 h4 h5 h6 h7 h8 h9 h12 ⊢
  go_enter Try.func23, Try.ntmps23
  go_wp2_with fail
  refine (newFileBase_any _ _).mono ?_
  rintro e w1 ⟨g, rfl, hg, hB, hb1⟩
  clear hB
  have hs1 := hb1.size
  have hbw : Bel w w1 := ((((Bel.refl w).alloc _).alloc _).alloc _).trans hb1
  have hD : Blk w1 w.heap.size 34 (dirCells ⟨dl, dc, nm, tl, tc⟩) := (((Blk.new w _ (dirCells ⟨dl, dc, nm, tl, tc⟩)).alloc _).alloc _).bel hb1
  have hP : Blk w1 (w.heap.size + 1) 23 [.int .i64 0, .int .i64 0, .int .i64 0, .int .i64 0, .int .i64 0] := by
    have := ((Blk.new (w.alloc (.cells (dirCells ⟨dl, dc, nm, tl, tc⟩).toArray 34)) 23 [.int .i64 0, .int .i64 0, .int .i64 0, .int .i64 0, .int .i64 0]).alloc _).bel hb1
    rwa [World.size_alloc] at this
  have hQ : Blk w1 (w.heap.size + 1 + 1) 23 [.int .i64 0, .int .i64 0, .int .i64 0, .int .i64 0, .int .i64 0] := by
    have := (Blk.new ((w.alloc (.cells (dirCells ⟨dl, dc, nm, tl, tc⟩).toArray 34)).alloc (.cells #[.int .i64 0, .int .i64 0, .int .i64 0, .int .i64 0, .int .i64 0] 23)) 23 [.int .i64 0, .int .i64 0, .int .i64 0, .int .i64 0, .int .i64 0]).bel hb1
    rwa [World.size_alloc, World.size_alloc] at this
  clear hb1
  have c0 : w1.cell? ⟨w.heap.size, 0, none⟩ = some (.int .i64 dl) := hD.cell 0
  have c1 : w1.cell? ⟨w.heap.size, 1, none⟩ = some (.int .i64 dc) := hD.cell 1
  have c2 : w1.cell? ⟨w.heap.size, 2, none⟩ = some (.string nm) := hD.cell 2
  have c3 : w1.cell? ⟨w.heap.size, 3, none⟩ = some (.int .i64 tl) := hD.cell 3
  have c4 : w1.cell? ⟨w.heap.size, 4, none⟩ = some (.int .i64 tc) := hD.cell 4
  have HW := Lib.hid (And.intro hbw (And.intro hP hQ)); clear hbw hD hP hQ
  go_wp2_with fail
  obtain ⟨c0, c1, c2, c3, c4⟩ := And.intro (Later.cell c0) (And.intro (Later.cell c1) (And.intro (Later.cell c2) (And.intro (Later.cell c3) (Later.cell c4))))
  have e0 : IntKind.u64.wrap dl = dl := IntWalk.u64_in _ (by omega)
  have e1 : IntKind.u64.wrap dc = dc := IntWalk.u64_in _ (by omega)
  have e2 : IntKind.u64.wrap tl = tl := IntWalk.u64_in _ (by omega)
  have e3 : IntKind.u64.wrap tc = tc := IntWalk.u64_in _ (by omega)
  refine region_later_tail 18 (by kernel_rfl) (by kernel_rfl) ?_
  simp only [List.take_succ_cons, List.take_zero, List.drop_succ_cons, List.drop_zero]
  repeat (go_big_quiet_step ((go_at_call 32; exact call_later _ (makePos_any _ dl dc _ ⟨_, rfl⟩ (by omega) (by omega) (by omega) (by omega)))))
  refine wpQuiet_nil ?_
  intro _ hw'
  obtain ⟨x, hx⟩ := hw'
  subst hx
  have hxb := x.bel
  generalize x.at = w2 at hxb ⊢
  clear c0 c1 c2 c3 c4
  go_wp2_with fail
  refine (newLineBase_any _ _ _ _ _ _ ⟨_, rfl⟩).mono ?_
  rintro e w3 ⟨g2, rfl, hg2, hB2, hb3⟩
  have hxb3 := hxb.trans hb3
  clear hxb hb3
  go_wp2_with fail
  refine (makePos_any _ l c _ ⟨_, rfl⟩ (by omega) (by omega) (by omega) (by omega)).mono ?_
  rintro e w4 ⟨rfl, hb4⟩
  have hB4 := hB2.bel hb4
  have hb14 := hxb3.trans hb4
  have hg2l := hB2.lt
  clear hxb3 hB2 hb4
  have HR := Lib.hid (show relC (l * 4096 + c * 16) (dl * 4096 + dc * 16) tc ≥ 0 ∧ relC (l * 4096 + c * 16) (dl * 4096 + dc * 16) tc < 1000 ∧ (l * 4096 + c * 16) / 4096 = l ∧ (l * 4096 + c * 16) / 16 % 256 = c ∧ (dl * 4096 + dc * 16) / 4096 = dl ∧ (dl * 4096 + dc * 16) / 16 % 256 = dc ∧ 0 ≤ l * 4096 + c * 16 ∧ l * 4096 + c * 16 < 4294967296 ∧ 0 ≤ dl * 4096 + dc * 16 ∧ dl * 4096 + dc * 16 < 4294967296 from by
    have a1 : (l * 4096 + c * 16) / 4096 = l := by omega
    have a2 : (l * 4096 + c * 16) / 16 % 256 = c := by omega
    have a3 : (dl * 4096 + dc * 16) / 4096 = dl := by omega
    have a4 : (dl * 4096 + dc * 16) / 16 % 256 = dc := by omega
    refine ⟨?_, ?_, a1, a2, a3, a4, by omega, by omega, by omega, by omega⟩
    · unfold relC; rw [a1, a2, a3, a4]; split
      · have := h12 (by assumption); omega
      · omega
    · unfold relC; rw [a1, a2, a3, a4]; split <;> omega)
  generalize hr : relC (l * 4096 + c * 16) (dl * 4096 + dc * 16) tc = rc at HR ⊢
  have HRC := Lib.hid hr
  have HR0 := Lib.hid hr; clear hr
  generalize l * 4096 + c * 16 = lc at HR HRC ⊢
  generalize dl * 4096 + dc * 16 = bc at HR HRC hB4 ⊢
  go_wp2_with fail
  have hP4 := (HW.out.2.1.bel hb14).alloc (.cells #[ptr g2, .int .u32 lc] 65)
  have hQ4 := (HW.out.2.2.bel hb14).alloc (.cells #[ptr g2, .int .u32 lc] 65)
  have hB5 := hB4.alloc (.cells #[ptr g2, .int .u32 lc] 65)
  have hN5 := Blk.new w4 65 [ptr g2, .int .u32 lc]
  have hb5 := (HW.out.1.trans hb14).alloc (.cells #[ptr g2, .int .u32 lc] 65)
  have hP4w := Lib.hid (HW.out.2.1.bel hb14).lt
  have hQ4w := Lib.hid (HW.out.2.2.bel hb14).lt
  clear hb14 HW hB4 hg2l
  change Blk (w4.alloc (.cells #[ptr g2, .int .u32 lc] 65)) _ _ _ at hN5
  generalize w4.alloc (.cells #[ptr g2, .int .u32 lc] 65) = w5 at hP4 hQ4 hB5 hN5 hb5 ⊢
  have d0 : w5.cell? ⟨w4.heap.size, 0, none⟩ = some (ptr g2) := hN5.cell 0
  have d1 : w5.cell? ⟨w4.heap.size, 1, none⟩ = some (.int .u32 lc) := hN5.cell 1
  have g1 : w5.cell? ⟨g2, 1, none⟩ = some (.int .u32 bc) := hB5.cell 1
  have g2' : w5.cell? ⟨g2, 2, none⟩ = some (.string nm) := hB5.cell 2
  have g4 : w5.cell? ⟨g2, 4, none⟩ = some (.int .u64 tl) := hB5.cell 4
  have g5 : w5.cell? ⟨g2, 5, none⟩ = some (.int .u64 tc) := hB5.cell 5
  obtain ⟨r1, r2, r3, r4, r5, r6, r7, r8, r9, r10⟩ := HR.out
  have hE : ∀ W : World, W.cell? ⟨g2, 4, none⟩ = some (.int .u64 tl) → W.cell? ⟨g2, 1, none⟩ = some (.int .u32 bc) → Calls Try.prog 42 #[.agg #[ptr g2, .int .u32 lc]] W fun e w' => e = .returned (.int .u64 (tl + (l - dl))) ∧ Bel W w' := fun W k4 k1 => by
    have := relLine_any g2 lc bc tl W k4 k1 (by omega) (by omega) r7 r8 r9 r10 (by omega)
    rwa [r3, r5] at this
  have hF : ∀ W : World, W.cell? ⟨g2, 5, none⟩ = some (.int .u64 tc) → W.cell? ⟨g2, 1, none⟩ = some (.int .u32 bc) → Calls Try.prog 43 #[.agg #[ptr g2, .int .u32 lc]] W fun e w' => e = .returned (.int .u64 rc) ∧ Bel W w' := fun W k4 k1 => by
    have := relCol_any g2 lc bc tc W k4 k1 (by omega) (by omega) r7 r8 r9 r10 (by rw [r3, r4, r5, r6]; exact h12)
    rwa [HRC.out] at this
  have hL : ∀ W : World, Calls Try.prog 44 #[.int .u32 lc] W fun e w' => e = .returned (.int .u64 l) ∧ W = w' := fun W => by
    have := line_any lc W r7 r8
    rwa [r3] at this
  have hC : ∀ W : World, Calls Try.prog 45 #[.int .u32 lc] W fun e w' => e = .returned (.int .u64 c) ∧ W = w' := fun W => by
    have := col_any lc W r7 r8
    rwa [r4] at this
  have f1 : IntKind.i64.wrap (tl + (l - dl)) = tl + (l - dl) := IntWalk.i64_in _ (by omega)
  have f2 : IntKind.i64.wrap rc = rc := IntWalk.i64_in _ (by omega)
  have f3 : IntKind.i64.wrap l = l := IntWalk.i64_in _ (by omega)
  have f4 : IntKind.i64.wrap c = c := IntWalk.i64_in _ (by omega)
  have HC1 := Lib.hid hE; clear hE
  have HC2 := Lib.hid hF; clear hF
  have HC3 := Lib.hid hL; clear hL
  have HC4 := Lib.hid hC; clear hC
  clear r1 r2 r3 r4 r5 r6 r7 r8 r9 r10 HR HRC
  have hne1 : w4.heap.size ≠ w.heap.size + 1 ∧ w4.heap.size ≠ w.heap.size + 1 + 1 := by have a1 := hP4w.out; have a2 := hQ4w.out; omega
  have hne2 : g2 ≠ w.heap.size + 1 ∧ g2 ≠ w.heap.size + 1 + 1 := ⟨hB5.ne hP4 (by decide), hB5.ne hQ4 (by decide)⟩
  have C0 : ∀ {D} (x : Fam (RC w5 (w.heap.size + 1) (w.heap.size + 1 + 1) ⟨0, tl + (l - dl), rc, 0, 0⟩ ⟨0, l, c, 0, 0⟩) D), x.at.cell? ⟨w4.heap.size, 0, none⟩ = some (ptr g2) := fun x => x.holds.1.cell d0 (by simp [hne1])
  have C1 : ∀ {D} (x : Fam (RC w5 (w.heap.size + 1) (w.heap.size + 1 + 1) ⟨0, tl + (l - dl), rc, 0, 0⟩ ⟨0, l, c, 0, 0⟩) D), x.at.cell? ⟨w4.heap.size, 1, none⟩ = some (.int .u32 lc) := fun x => x.holds.1.cell d1 (by simp [hne1])
  have HG := Lib.hid (show ∀ D (x : Fam (RC w5 (w.heap.size + 1) (w.heap.size + 1 + 1) ⟨0, tl + (l - dl), rc, 0, 0⟩ ⟨0, l, c, 0, 0⟩) D), x.at.cell? ⟨g2, 1, none⟩ = some (.int .u32 bc) ∧ x.at.cell? ⟨g2, 2, none⟩ = some (.string nm) ∧ x.at.cell? ⟨g2, 4, none⟩ = some (.int .u64 tl) ∧ x.at.cell? ⟨g2, 5, none⟩ = some (.int .u64 tc) from
    fun _ x => ⟨x.holds.1.cell g1 (by simp [hne2]), x.holds.1.cell g2' (by simp [hne2]), x.holds.1.cell g4 (by simp [hne2]), x.holds.1.cell g5 (by simp [hne2])⟩)
  have hC0 : RC w5 (w.heap.size + 1) (w.heap.size + 1 + 1) ⟨0, tl + (l - dl), rc, 0, 0⟩ ⟨0, l, c, 0, 0⟩ (fun _ => false) w5.drew := ⟨(Kept.refl _ w5).drew, hP4, hQ4⟩
  have HB5 := Lib.hid hb5
  clear hP4 hQ4 hb5 hB5 hN5 g1 g2' g4 g5 d0 d1 hne1 hne2
  refine region_fam (C := RC w5 (w.heap.size + 1) (w.heap.size + 1 + 1) ⟨0, tl + (l - dl), rc, 0, 0⟩ ⟨0, l, c, 0, 0⟩) (by kernel_rfl) (by kernel_rfl) hC0 ?_
  iterate 19
    apply wpFam_step ⟨_, _, hC0⟩ (rc_keeps (by decide) (by decide)) ⟨_, rfl, by simp⟩
    · intro D hD
      go_big_quiet_step (first
        | (go_at_call 41; exact call_fam _ ((relName_any g2 lc nm _ (HG.out _ _).2.1).mono fun _ _ h => ⟨h.1, RC.bel (Fam.holds _) h.2⟩))
        | (go_at_call 42; exact call_fam _ ((HC1.out _ (HG.out _ _).2.2.1 (HG.out _ _).1).mono fun _ _ h => ⟨h.1, RC.bel (Fam.holds _) h.2⟩))
        | (go_at_call 43; exact call_fam _ ((HC2.out _ (HG.out _ _).2.2.2 (HG.out _ _).1).mono fun _ _ h => ⟨h.1, RC.bel (Fam.holds _) h.2⟩))
        | (go_at_call 44; exact call_fam _ ((HC3.out _).mono fun _ _ h => ⟨h.1, h.2 ▸ Fam.holds _⟩))
        | (go_at_call 45; exact call_fam _ ((HC4.out _).mono fun _ _ h => ⟨h.1, h.2 ▸ Fam.holds _⟩)))
      exact wpQuiet_nil rfl
  refine wpFam_store rfl (fun D W hC => ⟨_, ?_, rc_store1 (by omega) hC⟩) ?_
  · obtain ⟨u, v, hu, hv⟩ := rc_cells hC
    obtain ⟨⟨p0, p1, p2, p3, p4⟩, z0, z1, z2, z3, z4⟩ := five hu
    simp [go_sem, p0, p1, p2, p3, p4, z0, z1, z2, z3, z4]
  refine wpFam_store rfl (fun D W hC => ⟨_, ?_, rc_store2 (by omega) hC⟩) ?_
  · obtain ⟨u, v, hu, hv⟩ := rc_cells hC
    obtain ⟨⟨p0, p1, p2, p3, p4⟩, z0, z1, z2, z3, z4⟩ := five hv
    simp [go_sem, p0, p1, p2, p3, p4, z0, z1, z2, z3, z4]
  refine wpFam_nil ?_
  intro D w6 hD hC
  obtain ⟨hk6, hp6, hq6⟩ := hC
  rw [hD 19 (by simp)] at hp6
  rw [hD 20 (by simp)] at hq6
  obtain ⟨⟨p0, p1, p2, p3, p4⟩, _, _, _, _, _⟩ := five hp6
  obtain ⟨⟨q0, q1, q2, q3, q4⟩, _, _, _, _, _⟩ := five hq6
  have hb6 : Bel w w6 := HB5.out.kept hk6 (fun x hx => by simp at hx; omega)
  have HB6 := Lib.hid hb6
  clear hb6 hk6 hp6 hq6 C0 C1
  go_wp2
  refine bodyPost_ret (v := .tuple #[.string nm, placeV ⟨0, tl + (l - dl), rc, 0, 0⟩, placeV ⟨0, l, c, 0, 0⟩]) (by simp [results, Try.results23, go_sem, p0, p1, p2, p3, p4, q0, q1, q2, q3, q4]) rfl ?_
  exact ⟨by rw [HR0.out], HB6.out⟩
end Go.Proofs.Ytbekmpmfkblgnaa
