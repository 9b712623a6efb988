/- impl.Compared: two compact positions in four files. -/
import Derived.Test.YtbekmpmfkblgnaaPos7
import Derived.Test.YtbekmpmfkblgnaaInv2
namespace Go.Proofs.Ytbekmpmfkblgnaa
open Go.RowKit Go.BigFrame

theorem regAdd_range (k : Nat) : regAdd (List.range k) k = List.range (k + 1) := by
  unfold regAdd
  rw [if_neg (by simp), List.range_succ]
theorem placeOf_range {i k : Nat} (h : i < k) : placeOf i (List.range k) = some i := placeOf_nodup List.nodup_range (by simp [h])
theorem idx_range {i k : Nat} (h : i < k) : idx (List.range k) i = (i : Int) + 1 := by
  rw [idx_old (by simp [h])]
  unfold regIx
  rw [placeOf_range h]
theorem regAdd_old {reg : List Nat} {i : Nat} (h : i ∈ reg) : regAdd reg i = reg := by simp [regAdd, h]

/-- What Compared tells. -/
def cmpB (p q : PlaceD) : Bool := decide (p.file < q.file ∨ p.file = q.file ∧ (p.line < q.line ∨ p.line = q.line ∧ p.col < q.col))

theorem results_tmp4 {fn : Func} {t u v x : Tmp} (h : fn.results = #[.tmp t, .tmp u, .tmp v, .tmp x]) (tmps : Array Value) (P : Program) (w : World) :
    (results fn tmps).run P w = .ok (.tuple #[tmps.getD t undef, tmps.getD u undef, tmps.getD v undef, tmps.getD x undef]) w := by simp [results, h]

theorem Files.c3 {w : World} {f : Nat} {gs : List Nat} {nms : List ByteArray} {reg S : List Nat} (h : Files w f gs nms reg S) : ∃ a c, w.cell? ⟨f, 3, none⟩ = some (.slice a gs.length c) := by
  obtain ⟨v, hT, hown, _⟩ := h
  obtain ⟨av, cv, rfl, _⟩ := own_form hown
  obtain ⟨⟨_, ⟨_, _, _, hb⟩ | ⟨gv, bi, bn, _, _, cap, hb, _⟩⟩, _⟩ := hT
  · exact ⟨av, cv, hb.cell 3⟩
  · exact ⟨av, cv, hb.cell 3⟩

/-- Behind x, y := ..: two compact positions in blocks of their own. -/
def TwoX (w wc : World) (s10 s11 : Value) (i l j m : Int) : Prop :=
  ∃ b c, s10 = .pointer (some ⟨b, 0, none⟩) ∧ s11 = .pointer (some ⟨c, 0, none⟩) ∧ wc.cell? ⟨b, 0, none⟩ = some (.int .i32 i) ∧ wc.cell? ⟨b, 1, none⟩ = some (.int .u32 l) ∧ wc.cell? ⟨c, 0, none⟩ = some (.int .i32 j) ∧ wc.cell? ⟨c, 1, none⟩ = some (.int .u32 m) ∧ Bel w wc

/-- The values of the operations of x, y := f.at(..), f.at(..). -/
def VS7 (f H : Nat) (i pl pc j ql qc : Int) (b c : Nat) : List (Nat × Nat × Value) := [(0, 26, ptr f), (1, 27, .pointer (some ⟨H, 0, none⟩)), (2, 28, .int .i64 i), (3, 29, .pointer (some ⟨H, 1, none⟩)), (4, 30, .int .i64 pl), (5, 31, .pointer (some ⟨H, 2, none⟩)), (6, 32, .int .i64 pc), (7, 33, .agg #[.int .i32 (i + 1), .int .u32 (pl * 4096 + pc * 16)]), (8, 34, ptr f), (9, 35, .pointer (some ⟨(H + 1), 0, none⟩)), (10, 36, .int .i64 j), (11, 37, .pointer (some ⟨(H + 1), 1, none⟩)), (12, 38, .int .i64 ql), (13, 39, .pointer (some ⟨(H + 1), 2, none⟩)), (14, 40, .int .i64 qc), (15, 41, .agg #[.int .i32 (j + 1), .int .u32 (ql * 4096 + qc * 16)]), (16, 10, .pointer (some ⟨b, 0, none⟩)), (17, 11, .pointer (some ⟨c, 0, none⟩))]
theorem VS7_slots (f H : Nat) (i pl pc j ql qc : Int) (b c : Nat) : (VS7 f H i pl pc j ql qc b c).map (·.2.1) = [26, 27, 28, 29, 30, 31, 32, 33, 34, 35, 36, 37, 38, 39, 40, 41, 10, 11] := rfl
theorem VS7_idx (f H : Nat) (i pl pc j ql qc : Int) (b c : Nat) : (VS7 f H i pl pc j ql qc b c).map (·.1) = [0, 1, 2, 3, 4, 5, 6, 7, 8, 9, 10, 11, 12, 13, 14, 15, 16, 17] := rfl
theorem VS7_nd (f H : Nat) (i pl pc j ql qc : Int) (b c : Nat) : ((VS7 f H i pl pc j ql qc b c).map (·.2.1)).Nodup := by rw [VS7_slots]; decide
theorem VS7_nd' (f H : Nat) (i pl pc j ql qc : Int) (b c : Nat) : ((VS7 f H i pl pc j ql qc b c).map (·.1)).Nodup := by rw [VS7_idx]; decide

theorem VS7_not2 (f H : Nat) (i pl pc j ql qc : Int) (b c : Nat) : 2 ∉ (VS7 f H i pl pc j ql qc b c).map (·.2.1) := by rw [VS7_slots]; decide
theorem VS7_not3 (f H : Nat) (i pl pc j ql qc : Int) (b c : Nat) : 3 ∉ (VS7 f H i pl pc j ql qc b c).map (·.2.1) := by rw [VS7_slots]; decide
theorem VS7_not8 (f H : Nat) (i pl pc j ql qc : Int) (b c : Nat) : 8 ∉ (VS7 f H i pl pc j ql qc b c).map (·.2.1) := by rw [VS7_slots]; decide
theorem VS7_b {a0 : Act} {D : Nat → Bool} {f H : Nat} {i pl pc j ql qc : Int} {b b' c : Nat} (hD : D 16 = false) : frC a0 D (VS7 f H i pl pc j ql qc b c) = frC a0 D (VS7 f H i pl pc j ql qc b' c) := by
  simp only [VS7, frC, hD, Bool.false_eq_true, if_false]
theorem VS7_c {a0 : Act} {D : Nat → Bool} {f H : Nat} {i pl pc j ql qc : Int} {b c c' : Nat} (hD : D 17 = false) : frC a0 D (VS7 f H i pl pc j ql qc b c) = frC a0 D (VS7 f H i pl pc j ql qc b c') := by
  simp only [VS7, frC, hD, Bool.false_eq_true, if_false]
/-- The worlds of that statement. -/
structure WC7 (wr : World) (x l y m : Int) (D : Nat → Bool) (b c : Nat) (W : World) : Prop where
  bel : Bel wr W
  b16 : D 16 = true → wr.heap.size ≤ b ∧ Blk W b 77 (if D 18 then [.int .i32 x, .int .u32 l] else [.int .i32 0, .int .u32 0])
  b17 : D 17 = true → wr.heap.size ≤ c ∧ Blk W c 77 (if D 19 then [.int .i32 y, .int .u32 m] else [.int .i32 0, .int .u32 0])
  ne : D 16 = true → D 17 = true → b ≠ c
  i18 : D 18 = true → D 16 = true
  i19 : D 19 = true → D 17 = true
theorem WC7.step {wr : World} {x l y m : Int} {D : Nat → Bool} {b c : Nat} {W W' : World} (h : WC7 wr x l y m D b c W) (hb : Bel W W') {k : Nat} (hk : k < 16) : WC7 wr x l y m (also D k) b c W' := by
  have e16 : also D k 16 = D 16 := also_ne (by omega)
  have e17 : also D k 17 = D 17 := also_ne (by omega)
  have e18 : also D k 18 = D 18 := also_ne (by omega)
  have e19 : also D k 19 = D 19 := also_ne (by omega)
  refine ⟨h.bel.trans hb, ?_, ?_, ?_, ?_, ?_⟩ <;> simp only [e16, e17, e18, e19]
  · intro hd; exact ⟨(h.b16 hd).1, (h.b16 hd).2.bel hb⟩
  · intro hd; exact ⟨(h.b17 hd).1, (h.b17 hd).2.bel hb⟩
  · exact h.ne
  · exact h.i18
  · exact h.i19
theorem WC7.al16 {wr : World} {x l y m : Int} {D : Nat → Bool} {b c : Nat} {W : World} (h : WC7 wr x l y m D b c W) (hd : D 16 = false) : WC7 wr x l y m (also D 16) W.heap.size c (W.alloc (.cells #[.int .i32 0, .int .u32 0] 77)) := by
  have d18 : D 18 = false := by cases hh : D 18; rfl; rw [h.i18 hh] at hd; cases hd
  have hb : Bel W (W.alloc (.cells #[.int .i32 0, .int .u32 0] 77)) := (Bel.refl W).alloc _
  refine ⟨h.bel.trans hb, ?_, ?_, ?_, ?_, ?_⟩
  · intro _; exact ⟨h.bel.size, by rw [also_ne (by decide), d18]; exact Blk.new W _ _⟩
  · rw [also_ne (by decide), also_ne (by decide)]; intro hd; exact ⟨(h.b17 hd).1, (h.b17 hd).2.bel hb⟩
  · intro _ h17; rw [also_ne (by decide)] at h17; have := (h.b17 h17).2.lt; omega
  · intro _; exact also_self
  · rw [also_ne (by decide), also_ne (by decide)]; exact h.i19
theorem WC7.al17 {wr : World} {x l y m : Int} {D : Nat → Bool} {b c : Nat} {W : World} (h : WC7 wr x l y m D b c W) (hd : D 17 = false) : WC7 wr x l y m (also D 17) b W.heap.size (W.alloc (.cells #[.int .i32 0, .int .u32 0] 77)) := by
  have d19 : D 19 = false := by cases hh : D 19; rfl; rw [h.i19 hh] at hd; cases hd
  have hb : Bel W (W.alloc (.cells #[.int .i32 0, .int .u32 0] 77)) := (Bel.refl W).alloc _
  refine ⟨h.bel.trans hb, ?_, ?_, ?_, ?_, ?_⟩
  · rw [also_ne (by decide), also_ne (by decide)]; intro hd; exact ⟨(h.b16 hd).1, (h.b16 hd).2.bel hb⟩
  · intro _; exact ⟨h.bel.size, by rw [also_ne (by decide), d19]; exact Blk.new W _ _⟩
  · intro h16 _; rw [also_ne (by decide)] at h16; have := (h.b16 h16).2.lt; omega
  · rw [also_ne (by decide), also_ne (by decide)]; exact h.i18
  · intro _; exact also_self
theorem WC7.st18 {wr : World} {x l y m : Int} {D : Nat → Bool} {b c : Nat} {W : World} (h : WC7 wr x l y m D b c W) (h16 : D 16 = true) : WC7 wr x l y m (also D 18) b c ((W.setCell ⟨b, 0, none⟩ (.int .i32 x)).setCell ⟨b, 1, none⟩ (.int .u32 l)) := by
  obtain ⟨hle, hB⟩ := h.b16 h16
  refine ⟨bel_setI (bel_setI h.bel (p := ⟨b, 0, none⟩) hle) (p := ⟨b, 1, none⟩) hle, ?_, ?_, ?_, ?_, ?_⟩
  · intro _
    rw [also_self]
    refine ⟨hle, ?_⟩
    have := (hB.set 0 (.int .i32 x)).set 1 (.int .u32 l)
    cases hh : D 18 <;> rw [hh] at this <;> exact this
  · rw [also_ne (by decide), also_ne (by decide)]
    intro hd
    have hne := h.ne h16 hd
    exact ⟨(h.b17 hd).1, ((h.b17 hd).2.far (p := ⟨b, 0, none⟩) (Ne.symm hne) _).far (p := ⟨b, 1, none⟩) (Ne.symm hne) _⟩
  · rw [also_ne (by decide), also_ne (by decide)]; exact h.ne
  · intro _; rw [also_ne (by decide)]; exact h16
  · rw [also_ne (by decide), also_ne (by decide)]; exact h.i19
theorem WC7.st19 {wr : World} {x l y m : Int} {D : Nat → Bool} {b c : Nat} {W : World} (h : WC7 wr x l y m D b c W) (h17 : D 17 = true) : WC7 wr x l y m (also D 19) b c ((W.setCell ⟨c, 0, none⟩ (.int .i32 y)).setCell ⟨c, 1, none⟩ (.int .u32 m)) := by
  obtain ⟨hle, hB⟩ := h.b17 h17
  refine ⟨bel_setI (bel_setI h.bel (p := ⟨c, 0, none⟩) hle) (p := ⟨c, 1, none⟩) hle, ?_, ?_, ?_, ?_, ?_⟩
  · rw [also_ne (by decide), also_ne (by decide)]
    intro hd
    have hne := h.ne hd h17
    exact ⟨(h.b16 hd).1, ((h.b16 hd).2.far (p := ⟨c, 0, none⟩) hne _).far (p := ⟨c, 1, none⟩) hne _⟩
  · intro _
    rw [also_self]
    refine ⟨hle, ?_⟩
    have := (hB.set 0 (.int .i32 y)).set 1 (.int .u32 m)
    cases hh : D 19 <;> rw [hh] at this <;> exact this
  · rw [also_ne (by decide), also_ne (by decide)]; exact h.ne
  · rw [also_ne (by decide), also_ne (by decide)]; exact h.i18
  · intro _; rw [also_ne (by decide)]; exact h17

theorem WC7.cells16 {wr : World} {x l y m : Int} {D : Nat → Bool} {b c : Nat} {W : World} (h : WC7 wr x l y m D b c W) (h16 : D 16 = true) : (∃ u, W.cell? ⟨b, 0, none⟩ = some u) ∧ (∃ u, W.cell? ⟨b, 1, none⟩ = some u) ∧ W.frozen? ⟨b, 0, none⟩ = false ∧ W.frozen? ⟨b, 1, none⟩ = false := by
  obtain ⟨_, hB⟩ := h.b16 h16
  cases hh : D 18 <;> rw [hh] at hB <;> exact ⟨⟨_, hB.cell 0⟩, ⟨_, hB.cell 1⟩, hB.frozen 0, hB.frozen 1⟩
theorem WC7.cells17 {wr : World} {x l y m : Int} {D : Nat → Bool} {b c : Nat} {W : World} (h : WC7 wr x l y m D b c W) (h17 : D 17 = true) : (∃ u, W.cell? ⟨c, 0, none⟩ = some u) ∧ (∃ u, W.cell? ⟨c, 1, none⟩ = some u) ∧ W.frozen? ⟨c, 0, none⟩ = false ∧ W.frozen? ⟨c, 1, none⟩ = false := by
  obtain ⟨_, hB⟩ := h.b17 h17
  cases hh : D 19 <;> rw [hh] at hB <;> exact ⟨⟨_, hB.cell 0⟩, ⟨_, hB.cell 1⟩, hB.frozen 0, hB.frozen 1⟩

set_option maxRecDepth 100000 in
set_option maxHeartbeats 4000000 in
theorem compared_any (p q : PlaceD) (w : World) (hp : placedB p 4 = true) (hq : placedB q 4 = true) :
    Calls Try.prog 26 #[placeV p, placeV q] w fun e w' => e = .returned (.tuple #[.bool (cmpB p q), .bool (cmpB q p), .bool (decide (p.file = q.file)), .bool (decide (p.file = q.file ∧ p.line = q.line))]) ∧ Bel w w' := by
  obtain ⟨p0, p1, p2, p3, p4, p5⟩ := placedB_true hp
  obtain ⟨q0, q1, q2, q3, q4, q5⟩ := placedB_true hq
  clear hp hq
  obtain ⟨i, hi⟩ := Int.eq_ofNat_of_zero_le p0
  obtain ⟨j, hj⟩ := Int.eq_ofNat_of_zero_le q0
  obtain ⟨pf, pl, pc, ps, px⟩ := p
  obtain ⟨qf, ql, qc, qs, qx⟩ := q
  simp only at *
  subst hi hj
  go_enter Try.func26, Try.ntmps26
  go_wp2_with fail
  refine (newFiles_any _ 4 _ four _ (strs_four _ _ (by simp)) (by omega)).mono ?_
  rintro e w1 ⟨f, gs, rfl, hnf, hb1⟩
  obtain ⟨hF, hge⟩ := hnf.files four_nodup (by decide)
  have hgl : gs.length = 4 := by obtain ⟨v, h, _⟩ := hF; exact h.2.1.1
  have hBp := (((PBox.new w ⟨i, pl, pc, ps, px⟩ _ rfl).bel ((Bel.refl _).alloc _)).bel ((Bel.refl _).alloc _)).bel hb1
  have hBq := ((PBox.new (w.alloc _) ⟨j, ql, qc, qs, qx⟩ _ (World.size_alloc _ _)).bel ((Bel.refl _).alloc _)).bel hb1
  have hbw : Bel w w1 := ((((Bel.refl w).alloc _).alloc _).alloc _).trans hb1
  have hge2 : ∀ x ∈ f :: gs, w.heap.size + 2 < x := fun x hx => by have := hge x hx; simp at this; omega
  obtain ⟨a3, cc3, c3⟩ := hF.c3
  rw [hgl] at c3
  have hs1 : w.heap.size + 2 < w1.heap.size := by have := hb1.size; simp at this; omega
  clear hge hnf hb1
  have HF := Lib.hid hF; clear hF
  have HGE := Lib.hid hge2; clear hge2
  have HGL := Lib.hid hgl; clear hgl
  have HBP := Lib.hid hBp; clear hBp
  have HBQ := Lib.hid hBq; clear hBq
  have HBW := Lib.hid hbw; clear hbw
  go_wp2_with fail
  clear c3
  go_loopw [19] (fun s wr => ∃ (k : Nat) (S : List Nat), k ≤ 4 ∧ s = .int .i64 k ∧ Files wr f gs four (List.range k) S ∧ (∀ x ∈ f :: gs ++ S, w.heap.size + 2 < x) ∧ PBox wr w.heap.size ⟨i, pl, pc, ps, px⟩ ∧ PBox wr (w.heap.size + 1) ⟨j, ql, qc, qs, qx⟩ ∧ Bel w wr) (fun s _ => 4 - (intOf s).toNat)
  case atStart => exact ⟨0, [], by omega, rfl, HF.out, by simpa using HGE.out, HBP.out, HBQ.out, HBW.out⟩
  case round =>
    obtain ⟨k, S, hk, rfl, hFk, hgk, hpk, hqk, hbk⟩ := hrel
    by_cases hlt : k < 4
    · have HFK := Lib.hid hFk; clear hFk
      have HGK := Lib.hid hgk; clear hgk
      have HPK := Lib.hid hpk; clear hpk
      have HQK := Lib.hid hqk; clear hqk
      have HBK := Lib.hid hbk; clear hbk
      go_wp2_with fail
      refine (at_files f gs four (List.range k) S k 1 1 _ HFK.out (by rw [HGL.out]; omega) (by omega) (by omega) (by omega) (by omega)).mono ?_
      rintro e w2 ⟨S', rfl, hF2, hS2, hk2, _⟩
      rw [regAdd_range] at hF2
      have hsz := HBK.out.size
      have h1 := HPK.out
      have R : Files w2 f gs four (List.range (k + 1)) S' ∧ (∀ x ∈ f :: gs ++ S', w.heap.size + 2 < x) ∧ PBox w2 w.heap.size ⟨i, pl, pc, ps, px⟩ ∧ PBox w2 (w.heap.size + 1) ⟨j, ql, qc, qs, qx⟩ ∧ Bel w w2 := by
        have hlq : w.heap.size + 2 < wr.heap.size := by
          have := HFK.out.lt f (by simp)
          have := HGK.out f (by simp)
          omega
        refine ⟨hF2, fun x hx => ?_, Blk.kept HPK.out hk2 (fun hx => by have := HGK.out _ hx; omega), Blk.kept HQK.out hk2 (fun hx => by have := HGK.out _ hx; omega), HBK.out.kept hk2 (fun x hx => by have := HGK.out _ hx; omega)⟩
        rcases List.mem_append.1 hx with h | h
        · exact HGK.out x (List.mem_append.2 (.inl h))
        · rcases hS2 x h with h' | h'
          · exact HGK.out x (List.mem_append.2 (.inr h'))
          · omega
      have HR := Lib.hid R
      clear R hF2 hS2 hk2 hsz h1
      go_wp2
      go_roundw
      case rel => exact ⟨k + 1, S', by omega, by go_num, HR.out⟩
      case measure => simp [intOf]; omega
    · have hk4 : k = 4 := by omega
      subst hk4
      have HFK := Lib.hid hFk; clear hFk
      obtain ⟨c0, c1, c2, _, _⟩ := hpk.all
      obtain ⟨d0, d1, d2, _, _⟩ := hqk.all
      have HGK := Lib.hid hgk; clear hgk
      have HPK := Lib.hid (show Blk wr w.heap.size 23 [.int .i64 i, .int .i64 pl, .int .i64 pc, .int .i64 ps, .int .i64 px] from hpk); clear hpk
      have HQK := Lib.hid (show Blk wr (w.heap.size + 1) 23 [.int .i64 j, .int .i64 ql, .int .i64 qc, .int .i64 qs, .int .i64 qx] from hqk); clear hqk
      have HBK := Lib.hid hbk; clear hbk
      have hat : ∀ (n : Nat) (l c : Int) (W : World), Bel wr W → n < 4 → 0 ≤ l → l < 1048574 → 0 ≤ c → c < 256 → Calls Try.prog 35 #[ptr f, .int .i64 n, .int .i64 l, .int .i64 c] W fun e w' => e = .returned (.agg #[.int .i32 ((n : Int) + 1), .int .u32 (l * 4096 + c * 16)]) ∧ Bel W w' :=
        fun n l c W hb hn a1 a2 a3 a4 => (at_files f gs four (List.range 4) S n l c W (HFK.out.bel hb) (by rw [HGL.out]; omega) a1 a2 a3 a4).mono (by
          rintro e w' ⟨S', rfl, _, _, _, ho⟩
          exact ⟨by rw [idx_range hn], ho (by simp [hn])⟩)
      have hat1 := fun W hb => hat i pl pc W hb (by omega) (by omega) (by omega) (by omega) (by omega)
      have hat2 := fun W hb => hat j ql qc W hb (by omega) (by omega) (by omega) (by omega) (by omega)
      have HAT1 := Lib.hid hat1
      have HAT2 := Lib.hid hat2
      clear hat hat1 hat2
      have hwr : w.heap.size + 2 < wr.heap.size := by
        have h1 := HFK.out.lt f (by simp)
        have h2 := HGK.out f (by simp)
        omega
      have n1 : w.heap.size ≠ wr.heap.size := by omega
      have n2 : w.heap.size + 1 ≠ wr.heap.size := by omega
      have n3 : w.heap.size ≠ wr.heap.size + 1 := by omega
      go_upto_region 7 with (fail)
      go_cut [10, 11] (fun s10 s11 wc => TwoX w wc s10 s11 (i + 1) (pl * 4096 + pc * 16) (j + 1) (ql * 4096 + qc * 16))
      case first =>
        have HC0 : Hid (WC7 wr (i + 1) (pl * 4096 + pc * 16) (j + 1) (ql * 4096 + qc * 16) (fun _ => false) 0 0 wr.drew) := Lib.hid ⟨(Bel.refl wr).drew, (by simp), (by simp), (by simp), (by simp), (by simp)⟩
        refine act_name (fun a0 ha0 => ?_)
        have s8 : a0.eval (.tmp 8) = ptr f := by rw [ha0]; rfl
        have s2 : a0.eval (.tmp 2) = .pointer (some ⟨w.heap.size, 0, none⟩) := by rw [ha0]; rfl
        have s3 : a0.eval (.tmp 3) = .pointer (some ⟨w.heap.size + 1, 0, none⟩) := by rw [ha0]; rfl
        have hsz : a0.tmps.size = 54 := by rw [ha0]; rfl
        have HA0 := Lib.hid ha0; clear ha0
        refine region_obs (fun D a' W => ∃ b c, a' = frC a0 D (VS7 f w.heap.size i pl pc j ql qc b c) ∧ WC7 wr (i + 1) (pl * 4096 + pc * 16) (j + 1) (ql * 4096 + qc * 16) D b c W) (by kernel_rfl) (by kernel_rfl) ⟨0, 0, (frC_none _ _).symm, HC0.out⟩ ?_ ?_
        · refine ⟨?_, ?_, ?_, ?_, ?_, ?_, ?_, ?_, ?_, ?_, ?_, ?_, ?_, ?_, ?_, ?_, ?_, ?_, ?_, ?_, trivial⟩
          · rintro D _ W hD hdeps ⟨b, c, rfl, hW⟩
            have e8 := ev_get ((frC_out (a0 := a0) (D := D) (VS7_not8 f w.heap.size i pl pc j ql qc b c)).trans s8)
            refine ob_val rfl (v := ptr f) (by simp [execOp, go_sem, e8]) ⟨b, c, frC_put hD (by simp [VS7]) (VS7_nd _ _ _ _ _ _ _ _ _ _) (VS7_nd' _ _ _ _ _ _ _ _ _ _), hW.step (Bel.refl W) (by decide)⟩
          · rintro D _ W hD hdeps ⟨b, c, rfl, hW⟩
            have e2 := ev_get ((frC_out (a0 := a0) (D := D) (VS7_not2 f w.heap.size i pl pc j ql qc b c)).trans s2)
            refine ob_val rfl (v := .pointer (some ⟨w.heap.size, 0, none⟩)) (by simp [execOp, go_sem, e2]) ⟨b, c, frC_put hD (by simp [VS7]) (VS7_nd _ _ _ _ _ _ _ _ _ _) (VS7_nd' _ _ _ _ _ _ _ _ _ _), hW.step (Bel.refl W) (by decide)⟩
          · rintro D _ W hD hdeps ⟨b, c, rfl, hW⟩
            have hd1 : D 1 = true := hdeps ⟨1, .data⟩ (by simp) rfl
            have e27 := ev_get (frC_in (v := .pointer (some ⟨w.heap.size, 0, none⟩)) hd1 (show 27 < a0.tmps.size by rw [hsz]; decide) (vs := VS7 f w.heap.size i pl pc j ql qc b c) (by simp [VS7]) (VS7_nd _ _ _ _ _ _ _ _ _ _))
            have z := hW.bel.cell c0
            refine ob_val rfl (v := .int .i64 (i : Int)) (by simp [execOp, go_sem, e27, z]) ⟨b, c, frC_put hD (by simp [VS7]) (VS7_nd _ _ _ _ _ _ _ _ _ _) (VS7_nd' _ _ _ _ _ _ _ _ _ _), hW.step (Bel.refl W) (by decide)⟩
          · rintro D _ W hD hdeps ⟨b, c, rfl, hW⟩
            have e2 := ev_get ((frC_out (a0 := a0) (D := D) (VS7_not2 f w.heap.size i pl pc j ql qc b c)).trans s2)
            refine ob_val rfl (v := .pointer (some ⟨w.heap.size, 1, none⟩)) (by simp [execOp, go_sem, e2]) ⟨b, c, frC_put hD (by simp [VS7]) (VS7_nd _ _ _ _ _ _ _ _ _ _) (VS7_nd' _ _ _ _ _ _ _ _ _ _), hW.step (Bel.refl W) (by decide)⟩
          · rintro D _ W hD hdeps ⟨b, c, rfl, hW⟩
            have hd3 : D 3 = true := hdeps ⟨3, .data⟩ (by simp) rfl
            have e29 := ev_get (frC_in (v := .pointer (some ⟨w.heap.size, 1, none⟩)) hd3 (show 29 < a0.tmps.size by rw [hsz]; decide) (vs := VS7 f w.heap.size i pl pc j ql qc b c) (by simp [VS7]) (VS7_nd _ _ _ _ _ _ _ _ _ _))
            have z := hW.bel.cell c1
            refine ob_val rfl (v := .int .i64 pl) (by simp [execOp, go_sem, e29, z]) ⟨b, c, frC_put hD (by simp [VS7]) (VS7_nd _ _ _ _ _ _ _ _ _ _) (VS7_nd' _ _ _ _ _ _ _ _ _ _), hW.step (Bel.refl W) (by decide)⟩
          · rintro D _ W hD hdeps ⟨b, c, rfl, hW⟩
            have e2 := ev_get ((frC_out (a0 := a0) (D := D) (VS7_not2 f w.heap.size i pl pc j ql qc b c)).trans s2)
            refine ob_val rfl (v := .pointer (some ⟨w.heap.size, 2, none⟩)) (by simp [execOp, go_sem, e2]) ⟨b, c, frC_put hD (by simp [VS7]) (VS7_nd _ _ _ _ _ _ _ _ _ _) (VS7_nd' _ _ _ _ _ _ _ _ _ _), hW.step (Bel.refl W) (by decide)⟩
          · rintro D _ W hD hdeps ⟨b, c, rfl, hW⟩
            have hd5 : D 5 = true := hdeps ⟨5, .data⟩ (by simp) rfl
            have e31 := ev_get (frC_in (v := .pointer (some ⟨w.heap.size, 2, none⟩)) hd5 (show 31 < a0.tmps.size by rw [hsz]; decide) (vs := VS7 f w.heap.size i pl pc j ql qc b c) (by simp [VS7]) (VS7_nd _ _ _ _ _ _ _ _ _ _))
            have z := hW.bel.cell c2
            refine ob_val rfl (v := .int .i64 pc) (by simp [execOp, go_sem, e31, z]) ⟨b, c, frC_put hD (by simp [VS7]) (VS7_nd _ _ _ _ _ _ _ _ _ _) (VS7_nd' _ _ _ _ _ _ _ _ _ _), hW.step (Bel.refl W) (by decide)⟩
          · rintro D _ W hD hdeps ⟨b, c, rfl, hW⟩
            have hd0 : D 0 = true := hdeps ⟨0, .data⟩ (by simp) rfl
            have e26 := ev_get (frC_in (v := ptr f) hd0 (show 26 < a0.tmps.size by rw [hsz]; decide) (vs := VS7 f w.heap.size i pl pc j ql qc b c) (by simp [VS7]) (VS7_nd _ _ _ _ _ _ _ _ _ _))
            have hd2 : D 2 = true := hdeps ⟨2, .data⟩ (by simp) rfl
            have e28 := ev_get (frC_in (v := .int .i64 (i : Int)) hd2 (show 28 < a0.tmps.size by rw [hsz]; decide) (vs := VS7 f w.heap.size i pl pc j ql qc b c) (by simp [VS7]) (VS7_nd _ _ _ _ _ _ _ _ _ _))
            have hd4 : D 4 = true := hdeps ⟨4, .data⟩ (by simp) rfl
            have e30 := ev_get (frC_in (v := .int .i64 pl) hd4 (show 30 < a0.tmps.size by rw [hsz]; decide) (vs := VS7 f w.heap.size i pl pc j ql qc b c) (by simp [VS7]) (VS7_nd _ _ _ _ _ _ _ _ _ _))
            have hd6 : D 6 = true := hdeps ⟨6, .data⟩ (by simp) rfl
            have e32 := ev_get (frC_in (v := .int .i64 pc) hd6 (show 32 < a0.tmps.size by rw [hsz]; decide) (vs := VS7 f w.heap.size i pl pc j ql qc b c) (by simp [VS7]) (VS7_nd _ _ _ _ _ _ _ _ _ _))
            refine ob_enter rfl (v := .agg #[.int .i32 ((i : Int) + 1), .int .u32 (pl * 4096 + pc * 16)]) (f := 35) (args := #[ptr f, .int .i64 i, .int .i64 pl, .int .i64 pc]) (w' := W) (by simp [go_sem, e26, e28, e30, e32]) ((HAT1.out W hW.bel).mono ?_)
            rintro e w2 ⟨rfl, hb2⟩
            exact ⟨rfl, b, c, frC_put hD (by simp [VS7]) (VS7_nd _ _ _ _ _ _ _ _ _ _) (VS7_nd' _ _ _ _ _ _ _ _ _ _), hW.step hb2 (by decide)⟩
          · rintro D _ W hD hdeps ⟨b, c, rfl, hW⟩
            have e8 := ev_get ((frC_out (a0 := a0) (D := D) (VS7_not8 f w.heap.size i pl pc j ql qc b c)).trans s8)
            refine ob_val rfl (v := ptr f) (by simp [execOp, go_sem, e8]) ⟨b, c, frC_put hD (by simp [VS7]) (VS7_nd _ _ _ _ _ _ _ _ _ _) (VS7_nd' _ _ _ _ _ _ _ _ _ _), hW.step (Bel.refl W) (by decide)⟩
          · rintro D _ W hD hdeps ⟨b, c, rfl, hW⟩
            have e3 := ev_get ((frC_out (a0 := a0) (D := D) (VS7_not3 f w.heap.size i pl pc j ql qc b c)).trans s3)
            refine ob_val rfl (v := .pointer (some ⟨w.heap.size + 1, 0, none⟩)) (by simp [execOp, go_sem, e3]) ⟨b, c, frC_put hD (by simp [VS7]) (VS7_nd _ _ _ _ _ _ _ _ _ _) (VS7_nd' _ _ _ _ _ _ _ _ _ _), hW.step (Bel.refl W) (by decide)⟩
          · rintro D _ W hD hdeps ⟨b, c, rfl, hW⟩
            have hd9 : D 9 = true := hdeps ⟨9, .data⟩ (by simp) rfl
            have e35 := ev_get (frC_in (v := .pointer (some ⟨w.heap.size + 1, 0, none⟩)) hd9 (show 35 < a0.tmps.size by rw [hsz]; decide) (vs := VS7 f w.heap.size i pl pc j ql qc b c) (by simp [VS7]) (VS7_nd _ _ _ _ _ _ _ _ _ _))
            have z := hW.bel.cell d0
            refine ob_val rfl (v := .int .i64 (j : Int)) (by simp [execOp, go_sem, e35, z]) ⟨b, c, frC_put hD (by simp [VS7]) (VS7_nd _ _ _ _ _ _ _ _ _ _) (VS7_nd' _ _ _ _ _ _ _ _ _ _), hW.step (Bel.refl W) (by decide)⟩
          · rintro D _ W hD hdeps ⟨b, c, rfl, hW⟩
            have e3 := ev_get ((frC_out (a0 := a0) (D := D) (VS7_not3 f w.heap.size i pl pc j ql qc b c)).trans s3)
            refine ob_val rfl (v := .pointer (some ⟨w.heap.size + 1, 1, none⟩)) (by simp [execOp, go_sem, e3]) ⟨b, c, frC_put hD (by simp [VS7]) (VS7_nd _ _ _ _ _ _ _ _ _ _) (VS7_nd' _ _ _ _ _ _ _ _ _ _), hW.step (Bel.refl W) (by decide)⟩
          · rintro D _ W hD hdeps ⟨b, c, rfl, hW⟩
            have hd11 : D 11 = true := hdeps ⟨11, .data⟩ (by simp) rfl
            have e37 := ev_get (frC_in (v := .pointer (some ⟨w.heap.size + 1, 1, none⟩)) hd11 (show 37 < a0.tmps.size by rw [hsz]; decide) (vs := VS7 f w.heap.size i pl pc j ql qc b c) (by simp [VS7]) (VS7_nd _ _ _ _ _ _ _ _ _ _))
            have z := hW.bel.cell d1
            refine ob_val rfl (v := .int .i64 ql) (by simp [execOp, go_sem, e37, z]) ⟨b, c, frC_put hD (by simp [VS7]) (VS7_nd _ _ _ _ _ _ _ _ _ _) (VS7_nd' _ _ _ _ _ _ _ _ _ _), hW.step (Bel.refl W) (by decide)⟩
          · rintro D _ W hD hdeps ⟨b, c, rfl, hW⟩
            have e3 := ev_get ((frC_out (a0 := a0) (D := D) (VS7_not3 f w.heap.size i pl pc j ql qc b c)).trans s3)
            refine ob_val rfl (v := .pointer (some ⟨w.heap.size + 1, 2, none⟩)) (by simp [execOp, go_sem, e3]) ⟨b, c, frC_put hD (by simp [VS7]) (VS7_nd _ _ _ _ _ _ _ _ _ _) (VS7_nd' _ _ _ _ _ _ _ _ _ _), hW.step (Bel.refl W) (by decide)⟩
          · rintro D _ W hD hdeps ⟨b, c, rfl, hW⟩
            have hd13 : D 13 = true := hdeps ⟨13, .data⟩ (by simp) rfl
            have e39 := ev_get (frC_in (v := .pointer (some ⟨w.heap.size + 1, 2, none⟩)) hd13 (show 39 < a0.tmps.size by rw [hsz]; decide) (vs := VS7 f w.heap.size i pl pc j ql qc b c) (by simp [VS7]) (VS7_nd _ _ _ _ _ _ _ _ _ _))
            have z := hW.bel.cell d2
            refine ob_val rfl (v := .int .i64 qc) (by simp [execOp, go_sem, e39, z]) ⟨b, c, frC_put hD (by simp [VS7]) (VS7_nd _ _ _ _ _ _ _ _ _ _) (VS7_nd' _ _ _ _ _ _ _ _ _ _), hW.step (Bel.refl W) (by decide)⟩
          · rintro D _ W hD hdeps ⟨b, c, rfl, hW⟩
            have hd8 : D 8 = true := hdeps ⟨8, .data⟩ (by simp) rfl
            have e34 := ev_get (frC_in (v := ptr f) hd8 (show 34 < a0.tmps.size by rw [hsz]; decide) (vs := VS7 f w.heap.size i pl pc j ql qc b c) (by simp [VS7]) (VS7_nd _ _ _ _ _ _ _ _ _ _))
            have hd10 : D 10 = true := hdeps ⟨10, .data⟩ (by simp) rfl
            have e36 := ev_get (frC_in (v := .int .i64 (j : Int)) hd10 (show 36 < a0.tmps.size by rw [hsz]; decide) (vs := VS7 f w.heap.size i pl pc j ql qc b c) (by simp [VS7]) (VS7_nd _ _ _ _ _ _ _ _ _ _))
            have hd12 : D 12 = true := hdeps ⟨12, .data⟩ (by simp) rfl
            have e38 := ev_get (frC_in (v := .int .i64 ql) hd12 (show 38 < a0.tmps.size by rw [hsz]; decide) (vs := VS7 f w.heap.size i pl pc j ql qc b c) (by simp [VS7]) (VS7_nd _ _ _ _ _ _ _ _ _ _))
            have hd14 : D 14 = true := hdeps ⟨14, .data⟩ (by simp) rfl
            have e40 := ev_get (frC_in (v := .int .i64 qc) hd14 (show 40 < a0.tmps.size by rw [hsz]; decide) (vs := VS7 f w.heap.size i pl pc j ql qc b c) (by simp [VS7]) (VS7_nd _ _ _ _ _ _ _ _ _ _))
            refine ob_enter rfl (v := .agg #[.int .i32 ((j : Int) + 1), .int .u32 (ql * 4096 + qc * 16)]) (f := 35) (args := #[ptr f, .int .i64 j, .int .i64 ql, .int .i64 qc]) (w' := W) (by simp [go_sem, e34, e36, e38, e40]) ((HAT2.out W hW.bel).mono ?_)
            rintro e w2 ⟨rfl, hb2⟩
            exact ⟨rfl, b, c, frC_put hD (by simp [VS7]) (VS7_nd _ _ _ _ _ _ _ _ _ _) (VS7_nd' _ _ _ _ _ _ _ _ _ _), hW.step hb2 (by decide)⟩
          · rintro D _ W hD hdeps ⟨b, c, rfl, hW⟩
            refine ob_val rfl (v := .pointer (some ⟨W.heap.size, 0, none⟩)) (w' := W.alloc (.cells #[.int .i32 0, .int .u32 0] 77)) (by simp [execOp, go_sem]) ⟨W.heap.size, c, ?_, hW.al16 hD⟩
            rw [show frC _ D (VS7 f w.heap.size i pl pc j ql qc b c) = frC _ D (VS7 f w.heap.size i pl pc j ql qc W.heap.size c) from VS7_b hD]
            exact frC_put hD (by simp [VS7]) (VS7_nd _ _ _ _ _ _ _ _ _ _) (VS7_nd' _ _ _ _ _ _ _ _ _ _)
          · rintro D _ W hD hdeps ⟨b, c, rfl, hW⟩
            refine ob_val rfl (v := .pointer (some ⟨W.heap.size, 0, none⟩)) (w' := W.alloc (.cells #[.int .i32 0, .int .u32 0] 77)) (by simp [execOp, go_sem]) ⟨b, W.heap.size, ?_, hW.al17 hD⟩
            rw [show frC _ D (VS7 f w.heap.size i pl pc j ql qc b c) = frC _ D (VS7 f w.heap.size i pl pc j ql qc b W.heap.size) from VS7_c hD]
            exact frC_put hD (by simp [VS7]) (VS7_nd _ _ _ _ _ _ _ _ _ _) (VS7_nd' _ _ _ _ _ _ _ _ _ _)
          · rintro D _ W hD hdeps ⟨b, c, rfl, hW⟩
            have hd16 : D 16 = true := hdeps ⟨16, .data⟩ (by simp) rfl
            have e10 := ev_get (frC_in (v := .pointer (some ⟨b, 0, none⟩)) hd16 (show 10 < a0.tmps.size by rw [hsz]; decide) (vs := VS7 f w.heap.size i pl pc j ql qc b c) (by simp [VS7]) (VS7_nd _ _ _ _ _ _ _ _ _ _))
            have hd7 : D 7 = true := hdeps ⟨7, .data⟩ (by simp) rfl
            have e33 := ev_get (frC_in (v := .agg #[.int .i32 ((i : Int) + 1), .int .u32 (pl * 4096 + pc * 16)]) hd7 (show 33 < a0.tmps.size by rw [hsz]; decide) (vs := VS7 f w.heap.size i pl pc j ql qc b c) (by simp [VS7]) (VS7_nd _ _ _ _ _ _ _ _ _ _))
            obtain ⟨y0, y1, z0, z1⟩ := hW.cells16 hd16
            refine ob_skip rfl (w' := (W.setCell ⟨b, 0, none⟩ (.int .i32 ((i : Int) + 1))).setCell ⟨b, 1, none⟩ (.int .u32 (pl * 4096 + pc * 16))) (by obtain ⟨u0, y0⟩ := y0; obtain ⟨u1, y1⟩ := y1; simp [execOp, go_sem, e10, e33, y0, y1, z0, z1]) ⟨b, c, ?_, hW.st18 hd16⟩
            rw [frC_also_out (by rw [VS7_idx]; decide)]
            rfl
          · rintro D _ W hD hdeps ⟨b, c, rfl, hW⟩
            have hd17 : D 17 = true := hdeps ⟨17, .data⟩ (by simp) rfl
            have e11 := ev_get (frC_in (v := .pointer (some ⟨c, 0, none⟩)) hd17 (show 11 < a0.tmps.size by rw [hsz]; decide) (vs := VS7 f w.heap.size i pl pc j ql qc b c) (by simp [VS7]) (VS7_nd _ _ _ _ _ _ _ _ _ _))
            have hd15 : D 15 = true := hdeps ⟨15, .data⟩ (by simp) rfl
            have e41 := ev_get (frC_in (v := .agg #[.int .i32 ((j : Int) + 1), .int .u32 (ql * 4096 + qc * 16)]) hd15 (show 41 < a0.tmps.size by rw [hsz]; decide) (vs := VS7 f w.heap.size i pl pc j ql qc b c) (by simp [VS7]) (VS7_nd _ _ _ _ _ _ _ _ _ _))
            obtain ⟨y0, y1, z0, z1⟩ := hW.cells17 hd17
            refine ob_skip rfl (w' := (W.setCell ⟨c, 0, none⟩ (.int .i32 ((j : Int) + 1))).setCell ⟨c, 1, none⟩ (.int .u32 (ql * 4096 + qc * 16))) (by obtain ⟨u0, y0⟩ := y0; obtain ⟨u1, y1⟩ := y1; simp [execOp, go_sem, e11, e41, y0, y1, z0, z1]) ⟨b, c, ?_, hW.st19 hd17⟩
            rw [frC_also_out (by rw [VS7_idx]; decide)]
            rfl
        · rintro D _ W hall ⟨b, c, rfl, hW⟩
          have hx := hW.b16 (hall 16 (by decide))
          have hy := hW.b17 (hall 17 (by decide))
          rw [hall 18 (by decide)] at hx
          rw [hall 19 (by decide)] at hy
          rw [frC_all (fun e he => hall e.1 (by
            have h1 : e.1 ∈ (VS7 f w.heap.size i pl pc j ql qc b c).map (·.1) := List.mem_map.2 ⟨e, he, rfl⟩
            rw [VS7_idx] at h1
            simp at h1
            show e.1 < 20
            omega))]
          have HWX := Lib.hid (And.intro hx.2 (And.intro hy.2 (HBK.out.trans hW.bel)))
          rw [HA0.out]
          simp only [VS7, List.foldr_cons, List.foldr_nil, Act.put]
          clear hx hy hW hall
          go_wp2_with fail
          go_meet
          exact ⟨b, c, rfl, rfl, HWX.out.1.cell 0, HWX.out.1.cell 1, HWX.out.2.1.cell 0, HWX.out.2.1.cell 1, HWX.out.2.2⟩
      case rest =>
        obtain ⟨b, c, rfl, rfl, g0, g1, h0, h1, hbc⟩ := hcut
        have HBC := Lib.hid hbc; clear hbc
        have g0 := Later.cell g0
        have g1 := Later.cell g1
        have h0 := Later.cell h0
        have h1 := Later.cell h1
        go_wp2_with fail
        refine region_later (by kernel_rfl) (by kernel_rfl) ?_
        repeat (go_big_quiet_step ((first
          | (go_at_call 47; exact call_later _ (xBefore_any _ _ _ _ _))
          | (go_at_call 48; exact call_later _ (xAfter_any _ _ _ _ _))
          | (go_at_call 49; exact call_later _ (xSameFile_any _ _ _ _ _))
          | (go_at_call 50; exact call_later _ (xSameLine_any _ _ _ _ _ (by omega) (by omega) (by omega) (by omega))))))
        refine wpQuiet_nil ?_
        intro _ hw'
        obtain ⟨x, hx⟩ := hw'
        subst hx
        clear g0 g1 h0 h1
        go_wp2
        have e1 : decide ((i : Int) + 1 < (j : Int) + 1 ∨ (i : Int) + 1 = (j : Int) + 1 ∧ pl * 4096 + pc * 16 < ql * 4096 + qc * 16) = cmpB ⟨i, pl, pc, ps, px⟩ ⟨j, ql, qc, qs, qx⟩ := decide_eq_decide.2 (by show _ ↔ (i : Int) < j ∨ (i : Int) = j ∧ (pl < ql ∨ pl = ql ∧ pc < qc); omega)
        have e2 : decide ((j : Int) + 1 < (i : Int) + 1 ∨ (i : Int) + 1 = (j : Int) + 1 ∧ ql * 4096 + qc * 16 < pl * 4096 + pc * 16) = cmpB ⟨j, ql, qc, qs, qx⟩ ⟨i, pl, pc, ps, px⟩ := decide_eq_decide.2 (by show _ ↔ (j : Int) < i ∨ (j : Int) = i ∧ (ql < pl ∨ ql = pl ∧ qc < pc); omega)
        have e3 : decide ((i : Int) + 1 = (j : Int) + 1) = decide ((i : Int) = j) := decide_eq_decide.2 (by omega)
        have e4 : decide ((i : Int) + 1 = (j : Int) + 1 ∧ (pl * 4096 + pc * 16) / 4096 = (ql * 4096 + qc * 16) / 4096) = decide ((i : Int) = j ∧ pl = ql) := decide_eq_decide.2 (by omega)
        refine bodyPost_ret (results_tmp4 rfl _ _ _) rfl ⟨?_, HBC.out.trans x.bel⟩
        simp only [e1.symm, e2.symm, e3.symm, e4.symm]
        simp
end Go.Proofs.Ytbekmpmfkblgnaa
