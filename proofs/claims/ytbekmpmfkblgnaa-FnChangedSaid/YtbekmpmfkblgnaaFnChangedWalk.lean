/- The walk of FnChanged. -/
import Derived.Test.YtbekmpmfkblgnaaPosQ
import Derived.Deep.CutRange
namespace Go.Proofs.Ytbekmpmfkblgnaa
open Go.RowKit Go.BigFrame

/-- A place is stored into a box. -/
def putPl (W : World) (b : Nat) (p : PlaceD) : World := ((((W.setCell ⟨b, 0, none⟩ (.int .i64 p.file)).setCell ⟨b, 1, none⟩ (.int .i64 p.line)).setCell ⟨b, 2, none⟩ (.int .i64 p.col)).setCell ⟨b, 3, none⟩ (.int .i64 p.stmt)).setCell ⟨b, 4, none⟩ (.int .i64 p.logue)
theorem PBox.put {W : World} {b : Nat} {q : PlaceD} (h : PBox W b q) (p : PlaceD) : PBox (putPl W b p) b p :=
  ((((Blk.set h 0 (.int .i64 p.file)).set 1 (.int .i64 p.line)).set 2 (.int .i64 p.col)).set 3 (.int .i64 p.stmt)).set 4 (.int .i64 p.logue)
theorem putPl_kept (W : World) (b : Nat) (p : PlaceD) : Kept [b] W (putPl W b p) :=
  (((((Kept.refl [b] W).setCell (p := ⟨b, 0, none⟩) (.inl (by simp)) _).setCell (p := ⟨b, 1, none⟩) (.inl (by simp)) _).setCell (p := ⟨b, 2, none⟩) (.inl (by simp)) _).setCell (p := ⟨b, 3, none⟩) (.inl (by simp)) _).setCell (p := ⟨b, 4, none⟩) (.inl (by simp)) _

/-- What the law's loop keeps. -/
structure ChgAt (w W : World) (xs : List Value) (g b : Nat) (p : PlaceD) : Prop where
  row : ∀ j u, xs[j]? = some u → W.cell? ⟨g, j, none⟩ = some u
  box : PBox W b p
  bel : Bel w W
  ge : w.heap.size ≤ b
  ne : g ≠ b
theorem ChgAt.on {w W W' : World} {xs : List Value} {g b : Nat} {p : PlaceD} (h : ChgAt w W xs g b p) (hb : Bel W W') : ChgAt w W' xs g b p :=
  ⟨fun j u hj => hb.cell (h.row j u hj), h.box.bel hb, h.bel.trans hb, h.ge, h.ne⟩
theorem ChgAt.put {w W : World} {xs : List Value} {g b : Nat} {p : PlaceD} (h : ChgAt w W xs g b p) (q : PlaceD) : ChgAt w (putPl W b q) xs g b q :=
  ⟨fun j u hj => (putPl_kept W b q).cell (h.row j u hj) (by simp [h.ne]), h.box.put q, h.bel.kept (putPl_kept W b q) (by simp [h.ge]), h.ge, h.ne⟩

/-- In the round: the box of the place read, beside it. -/
def ChgIn (w W : World) (xs : List Value) (g b c : Nat) (p : PlaceD) (y : Int) : Prop := ChgAt w W xs g b p ∧ PBox W c ⟨0, y / 4096, y / 16 % 256, y % 4, y / 4 % 4⟩
theorem ChgIn.on {w W W' : World} {xs : List Value} {g b c : Nat} {p : PlaceD} {y : Int} (h : ChgIn w W xs g b c p y) (hb : Bel W W') : ChgIn w W' xs g b c p y := ⟨h.1.on hb, h.2.bel hb⟩

theorem ChgIn.put {w W : World} {xs : List Value} {g b c : Nat} {p : PlaceD} {y : Int} (h : ChgIn w W xs g b c p y) (hc : c ≠ b) (q : PlaceD) : ChgIn w (putPl W b q) xs g b c q y :=
  ⟨h.1.put q, Blk.kept h.2 (putPl_kept W b q) (by simpa using hc)⟩

/-- The next marks, by the kind. -/
theorem next_s (d : Due) (ch : Pl.Ent) : (dueNext d ch).s = ((d.s && ch.1 != 3) || (decide (0 ≤ ch.1) && decide (ch.1 ≤ 2))) := rfl
theorem next_g (d : Due) (ch : Pl.Ent) : (dueNext d ch).g = ((d.g && ch.1 != 3) || ch.1 == 4) := rfl

set_option maxRecDepth 100000 in
set_option maxHeartbeats 8000000 in
theorem fnChanged_in (l c : Int) (a : Option Addr) (n cap : Nat) (cs : List Pl.Ent) (w : World) (h : Ents w a n cs) (h0 : 1 ≤ l) (h1 : l ≤ 1000000) (h2 : 1 ≤ c) (h3 : c ≤ 250) (hcap : n ≤ 2147483647)
    (HPL : Hid (∀ W, Calls Try.prog 16 #[placeV ⟨0, l, c, 0, 0⟩, .int .i64 1] W fun e w' => e = .returned (.bool true) ∧ Bel W w')) :
    Calls Try.prog 12 #[.int .i64 l, .int .i64 c, .slice a n cap] w fun e w' => e = .returned (.bool true) ∧ Bel w w' := by
  have HH := Lib.hid h; clear h
  have HN := Lib.hid HH.out.1
  go_enter Try.func12, Try.ntmps12
  go_wp2_with fail
  refine (HPL.out _).mono ?_
  rintro e w1 ⟨rfl, hb1⟩
  go_wp2_with fail
  refine (changesB_any a n cap cs _ (HH.out.bel hb1) (by omega)).mono ?_
  rintro e w2 ⟨bb, rfl, hP, hb2⟩
  have hb02 := hb1.trans hb2
  cases bb
  · clear hP
    go_wp2
    go_ret
    exact ⟨rfl, hb02⟩
  obtain ⟨hn, hok⟩ := hP rfl
  clear hP hb1 hb2 HPL
  have HC := Lib.hid (fun W (hb : Bel w W) => changedAll_any l c a n cap cs W (HH.out.bel hb) hn hok h0 h1 h2 h3)
  have HT := Lib.hid (tells_all ⟨0, l, c, 0, 0⟩ cs hok h0 h2 h3 rfl rfl)
  simp only at HT
  have HX := Lib.hid (plTo_at (l * 4096 + c * 16) cs n)
  generalize l * 4096 + c * 16 = x at HT HX HC
  clear hok h0 h1 h2 h3
  go_wp2_with fail
  refine (HC.out _ hb02).mono ?_
  rintro e w3 ⟨v, rfl, ho, hb3⟩
  obtain ⟨g, gcap, rfl, hg0, hg1, hrow⟩ : ∃ g gcap, v = .slice (some ⟨g, 0, none⟩) (n + 1) gcap ∧ w2.heap.size ≤ g ∧ g < w3.heap.size ∧ ∀ j u, (plTo x cs n)[j]? = some u → w3.cell? ⟨g, j, none⟩ = some u := by
    obtain ⟨a', c', rfl, _, _, hf⟩ := own_form ho
    obtain ⟨g, rfl, hc⟩ := hf (by omega)
    exact ⟨g, c', rfl, (ho.lt g rfl).1, (ho.lt g rfl).2, hc⟩
  have hb03 := hb02.trans hb3
  have hs3 := hb03.size
  have HA3 : Hid (ChgAt w (w3.alloc (.cells #[.int .i64 0, .int .i64 l, .int .i64 c, .int .i64 0, .int .i64 0] 23)) (plTo x cs n) g w3.heap.size ⟨0, l, c, 0, 0⟩) :=
    Lib.hid ⟨fun j u hj => ((Bel.refl w3).alloc _).cell (hrow j u hj), PBox.new w3 ⟨0, l, c, 0, 0⟩ _ rfl, hb03.alloc _, hs3, by omega⟩
  clear ho hrow hb3 hb02 HC
  have m1 : (((n + 1 : Nat) : Int) == (n : Int) + 1) = true := by simp
  go_wp2_with fail
  generalize w3.heap.size = b8 at HA3 ⊢
  generalize w3.alloc (.cells #[.int .i64 0, .int .i64 l, .int .i64 c, .int .i64 0, .int .i64 0] 23) = w4 at HA3 ⊢
  clear hg0 hg1 hs3 hb03
  go_loopw [9, 10, 42] (fun s9 s10 i wr => ∃ k : Nat, k ≤ n + 1 ∧ i = .int .i64 k ∧ s9 = .bool (dueK ⟨0, l, c, 0, 0⟩ cs (k - 1)).s ∧ s10 = .bool (dueK ⟨0, l, c, 0, 0⟩ cs (k - 1)).g ∧ ChgAt w wr (plTo x cs n) g b8 (dueK ⟨0, l, c, 0, 0⟩ cs (k - 1)).p) (fun _ _ i _ => n + 1 - (intOf i).toNat)
  case atStart => exact ⟨0, Nat.zero_le _, rfl, by rw [dueK_zero], by rw [dueK_zero], by rw [dueK_zero]; exact HA3.out⟩
  case round =>
    obtain ⟨k, hk, rfl, rfl, rfl, hA⟩ := hrel
    have HA := Lib.hid hA; clear hA
    by_cases hlt : k < n + 1
    · have HR := Lib.hid (HX.out k (by omega))
      have hT := HT.out k (by rw [HN.out]; omega)
      generalize hy : chgs x cs k = y at HR hT
      clear hy
      have HTY := Lib.hid hT; clear hT
      have r0 := HA.out.row _ _ (HR.out 0 (by omega))
      have r1 := HA.out.row _ _ (HR.out 1 (by omega))
      have r2 := HA.out.row _ _ (HR.out 2 (by omega))
      have r3 := HA.out.row _ _ (HR.out 3 (by omega))
      have r4 := HA.out.row _ _ (HR.out 4 (by omega))
      simp only [Nat.add_zero] at r0
      have HI : Hid (ChgIn w (wr.alloc (.cells #[.int .i64 0, .int .i64 (y / 4096), .int .i64 (y / 16 % 256), .int .i64 (y % 4), .int .i64 (y / 4 % 4)] 23)) (plTo x cs n) g b8 wr.heap.size (dueK ⟨0, l, c, 0, 0⟩ cs (k - 1)).p y) :=
        Lib.hid ⟨HA.out.on ((Bel.refl wr).alloc _), PBox.new wr ⟨0, y / 4096, y / 16 % 256, y % 4, y / 4 % 4⟩ _ rfl⟩
      clear HR
      have nb : wr.heap.size ≠ b8 := fun e => by have := HA.out.box.lt; omega
      go_upto_if 48 with (fail)
      clear HX r0 r1 r2 r3 r4
      go_cut [9, 10, 13] from 43 to 83 (fun s9 s10 _ wc => s9 = .bool (dueK ⟨0, l, c, 0, 0⟩ cs k).s ∧ s10 = .bool (dueK ⟨0, l, c, 0, 0⟩ cs k).g ∧ ChgIn w wc (plTo x cs n) g b8 wr.heap.size (dueK ⟨0, l, c, 0, 0⟩ cs k).p y)
      case first =>
        by_cases k0 : k = 0
        · subst k0
          go_wp2
          go_meet
          exact ⟨rfl, rfl, HI.out⟩
        · obtain ⟨j, hkj⟩ : ∃ j, k = j + 1 := ⟨k - 1, by omega⟩
          have hj1 : k - 1 = j := by omega
          have HKJ := Lib.hid hkj
          rw [hj1] at HI ⊢
          have q48 : (0 : Int) < (k : Int) := by omega
          obtain ⟨b, o, rfl, hcell⟩ := HH.out.2 (by omega)
          obtain ⟨ch, hch⟩ : ∃ e, cs[j]? = some e := ⟨_, List.getElem?_eq_getElem (by rw [HN.out]; omega)⟩
          have HD := Lib.hid (dueK_succ ⟨0, l, c, 0, 0⟩ cs j ch hch)
          have hbw := HI.out.1.bel
          have hc0 := hbw.cell (hcell j ch hch).1
          have hc1 := hbw.cell (hcell j ch hch).2
          clear hcell hch HA
          clear HTY
          generalize wr.alloc (.cells #[.int .i64 0, .int .i64 (y / 4096), .int .i64 (y / 16 % 256), .int .i64 (y % 4), .int .i64 (y / 4 % 4)] 23) = W at HI hbw hc0 hc1 ⊢
          generalize dueK ⟨0, l, c, 0, 0⟩ cs j = D at HI HD ⊢
          obtain ⟨ck, cn⟩ := ch
          obtain ⟨⟨pf, pl, pc, ps, px⟩, s, gl⟩ := D
          simp only at HI hc0 hc1 HD ⊢
          obtain ⟨d0, d1, d2, d3, d4⟩ := HI.out.1.box.all
          have ha := (Bel.refl W).alloc (.cells #[.int .i64 ck, .int .i64 cn] 55)
          have e0 := ha.cell d0
          have e1 := ha.cell d1
          have e2 := ha.cell d2
          have e3 := ha.cell d3
          have e4 := ha.cell d4
          have HWB := Lib.hid (Blk.new W 55 [.int .i64 ck, .int .i64 cn])
          clear d0 d1 d2 d3 d4 ha
          have nW : ¬ b8 = W.heap.size := fun e => by have := HI.out.1.box.lt; omega
          have nW2 : W.heap.size ≠ b8 := fun e => nW e.symm
          have mj : (k : Int) - 1 = (j : Int) := by omega
          have hjn : j < n := by omega
          clear hkj hj1
          go_wp2_with fail
          refine (specChanged_any ⟨pf, pl, pc, ps, px⟩ ck cn _).mono ?_
          rintro e w6 ⟨rfl, hb6⟩
          generalize hq : chP ⟨pf, pl, pc, ps, px⟩ ck cn = q
          obtain ⟨qf, ql, qc, qs, qx⟩ := q
          have HQ := Lib.hid hq; clear hq
          have HI6 := Lib.hid (HI.out.on (((Bel.refl W).alloc _).trans hb6))
          have HW6 := Lib.hid (HWB.out.bel hb6)
          obtain ⟨d0, d1, d2, d3, d4⟩ := HI6.out.1.box.all
          have f0 := HI6.out.1.box.frozen 0
          have f1 := HI6.out.1.box.frozen 1
          have f2 := HI6.out.1.box.frozen 2
          have f3 := HI6.out.1.box.frozen 3
          have f4 := HI6.out.1.box.frozen 4
          clear e0 e1 e2 e3 e4 hb6 HI HWB hc0 hc1 hbw
          go_upto_region 15 with (fail)
          have HI7 := Lib.hid (ChgIn.put HI6.out (fun e => nb e) ⟨qf, ql, qc, qs, qx⟩)
          have HW7 := Lib.hid (HW6.out.kept (putPl_kept w6 b8 ⟨qf, ql, qc, qs, qx⟩) (by simpa using nW2))
          unfold putPl at HI7 HW7
          simp only at HI7 HW7
          generalize ((((w6.setCell ⟨b8, 0, none⟩ (.int .i64 qf)).setCell ⟨b8, 1, none⟩ (.int .i64 ql)).setCell ⟨b8, 2, none⟩ (.int .i64 qc)).setCell ⟨b8, 3, none⟩ (.int .i64 qs)).setCell ⟨b8, 4, none⟩ (.int .i64 qx) = w7 at HI7 HW7 ⊢
          clear HI6 HW6 d0 d1 d2 d3 d4 f0 f1 f2 f3 f4
          have k0 : w7.cell? ⟨W.heap.size, 0, none⟩ = some (.int .i64 ck) := HW7.out.cell 0
          generalize W.heap.size = b13 at *
          have HS1 : Hid (∀ s', s' = ((s && ck != 3) || (decide (0 ≤ ck) && decide (ck ≤ 2))) → Value.bool s' = .bool (dueK ⟨0, l, c, 0, 0⟩ cs k).s) := Lib.hid (fun s' e1 => by rw [HKJ.out, HD.out, e1]; rfl)
          have HS2 : Hid (∀ g', g' = ((gl && ck != 3) || ck == 4) → Value.bool g' = .bool (dueK ⟨0, l, c, 0, 0⟩ cs k).g) := Lib.hid (fun g' e1 => by rw [HKJ.out, HD.out, e1]; rfl)
          have HS3 : Hid (ChgIn w w7 (plTo x cs n) g b8 wr.heap.size (dueK ⟨0, l, c, 0, 0⟩ cs k).p y) := Lib.hid (by
            rw [HKJ.out, HD.out]
            show ChgIn w w7 (plTo x cs n) g b8 wr.heap.size (chP ⟨pf, pl, pc, ps, px⟩ ck cn) y
            rw [HQ.out]; exact HI7.out)
          clear HI7 HW7 HD HQ
          by_cases x3 : ck = 3
          · subst x3
            cases s <;> cases gl <;> (go_wp2; go_meet; exact ⟨HS1.out _ rfl, HS2.out _ rfl, HS3.out⟩)
          have y3 : (ck == 3) = false := by simpa using x3
          have z3 : (ck != 3) = true := by simpa using x3
          by_cases x4 : ck = 4
          · subst x4
            cases s <;> cases gl <;> (go_wp2; go_meet; exact ⟨HS1.out _ rfl, HS2.out _ rfl, HS3.out⟩)
          have y4 : (ck == 4) = false := by simpa using x4
          by_cases x0 : 0 ≤ ck
          · have y0 : decide (0 ≤ ck) = true := by simpa using x0
            cases s <;> cases gl <;> (go_wp2; go_meet; exact ⟨HS1.out _ (by simp [x3, y0]), HS2.out _ (by simp [x3, x4]), HS3.out⟩)
          · have y0 : decide (0 ≤ ck) = false := by simpa using x0
            cases s <;> cases gl <;> (go_wp2; go_meet; exact ⟨HS1.out _ (by simp [x3, y0]), HS2.out _ (by simp [x3, x4]), HS3.out⟩)
      case rest =>
        obtain ⟨rfl, rfl, hI⟩ := hcut
        obtain ⟨x0, x1, x2, x3, x4⟩ := hI.1.box.all
        obtain ⟨y0, y1, y2, y3, y4⟩ := hI.2.all
        have HI2 := Lib.hid hI; clear hI
        obtain ⟨tl, tc, ts, tg⟩ := HTY.out
        have HB2 := Lib.hid HI2.out.1; clear HI2
        generalize hd : dueK ⟨0, l, c, 0, 0⟩ cs k = D at *
        have HDD := Lib.hid hd; clear hd
        obtain ⟨⟨pf, pl, pc, ps, px⟩, s, gl⟩ := D
        simp only at x0 x1 x2 x3 x4 tl tc ts tg HB2 ⊢
        subst tl tc
        cases s <;> cases gl
        all_goals (try (have ts' := ts rfl; subst ts'))
        all_goals (try (have tg' := tg rfl; subst tg'))
        all_goals clear ts tg HTY
        all_goals (
          go_wp2
          go_roundw
          case rel => exact ⟨k + 1, by omega, by go_num, by show _ = Value.bool (dueK ⟨0, l, c, 0, 0⟩ cs k).s; rw [HDD.out], by show _ = Value.bool (dueK ⟨0, l, c, 0, 0⟩ cs k).g; rw [HDD.out], by show ChgAt w _ _ g b8 (dueK ⟨0, l, c, 0, 0⟩ cs k).p; rw [HDD.out]; exact HB2.out⟩
          case measure => simp [intOf]; omega)
    · obtain rfl : k = n + 1 := by omega
      have hbw := HA.out.bel
      go_wp2
      go_ret
      exact ⟨rfl, hbw⟩

set_option maxHeartbeats 1000000 in
theorem fnChanged_out (l c : Int) (a : Option Addr) (n cap : Nat) (w : World) (h : 2147483647 < n) :
    Calls Try.prog 12 #[.int .i64 l, .int .i64 c, .slice a n cap] w fun e w' => e = .returned (.bool true) ∧ Bel w w' := by
  have q : (2147483647 : Int) < (n : Int) := by omega
  go_enter Try.func12, Try.ntmps12
  go_wp2
  go_ret
  exact ⟨rfl, Bel.refl w⟩
set_option maxHeartbeats 1000000 in
theorem fnChanged_not (l c : Int) (a : Option Addr) (n cap : Nat) (w : World) (hcap : n ≤ 2147483647)
    (HPL : Hid (∀ W, Calls Try.prog 16 #[placeV ⟨0, l, c, 0, 0⟩, .int .i64 1] W fun e w' => e = .returned (.bool false) ∧ Bel W w')) :
    Calls Try.prog 12 #[.int .i64 l, .int .i64 c, .slice a n cap] w fun e w' => e = .returned (.bool true) ∧ Bel w w' := by
  go_enter Try.func12, Try.ntmps12
  go_wp2_with fail
  refine (HPL.out _).mono ?_
  rintro e w1 ⟨rfl, hb1⟩
  go_wp2
  go_ret
  exact ⟨rfl, hb1⟩
theorem law_FnChanged (w : World) (l : Int) (_l0 : -9223372036854775808 ≤ l) (_l1 : l ≤ 9223372036854775807) (c : Int) (_c0 : -9223372036854775808 ≤ c) (_c1 : c ≤ 9223372036854775807) (a : Option Addr) (n cap : Nat) (cs : List Pl.Ent) (h : Ents w a n cs) (_nc : n ≤ cap) (_cm : cap ≤ maxLen) :
    Calls Try.prog 12 #[.int .i64 l, .int .i64 c, .slice a n cap] w fun e w' => e = .returned (.bool true) ∧ Bel w w' := by
  by_cases hb : 2147483647 < n
  · exact fnChanged_out l c a n cap w hb
  have HP := Lib.hid (fun W => placed_any ⟨0, l, c, 0, 0⟩ 1 W)
  cases hp : placedB ⟨0, l, c, 0, 0⟩ 1
  · rw [hp] at HP
    exact fnChanged_not l c a n cap w (by omega) HP
  · rw [hp] at HP
    obtain ⟨_, _, p2, p3, p4, p5⟩ := placedB_true hp
    exact fnChanged_in l c a n cap cs w h p2 p3 p4 p5 (by omega) HP
end Go.Proofs.Ytbekmpmfkblgnaa
