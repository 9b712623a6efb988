/- The walk of the law FnSame. -/
import Derived.Test.YtbekmpmfkblgnaaPos6
import Derived.Deep.RegionWith
namespace Go.Proofs.Ytbekmpmfkblgnaa
open Go.RowKit Go.BigFrame

theorem fnSame_out (p q : PlaceD) (w : World) (h : placedB p 4 = false ∨ placedB q 4 = false) :
    Calls Try.prog 4 #[placeV p, placeV q] w fun e w' => e = .returned (.bool true) ∧ Bel w w' := by
  have hP := fun W => placed_any p 4 W
  have hQ := fun W => placed_any q 4 W
  obtain ⟨pf, pl, pc, ps, px⟩ := p
  obtain ⟨qf, ql, qc, qs, qx⟩ := q
  have HP := Lib.hid hP; clear hP
  have HQ := Lib.hid hQ; clear hQ
  by_cases hp : placedB ⟨pf, pl, pc, ps, px⟩ 4 = true
  · have hq : placedB ⟨qf, ql, qc, qs, qx⟩ 4 = false := by rcases h with h | h <;> simp_all
    clear h
    go_enter Try.func4, Try.ntmps4
    go_wp2_with fail
    refine (HP.out _).mono ?_
    rintro e w1 ⟨rfl, hb1⟩
    obtain ⟨d0, d1, d2, d3, d4⟩ := ((PBox.new (w.alloc _) ⟨qf, ql, qc, qs, qx⟩ _ (World.size_alloc _ _)).bel hb1).all
    have hbw : Bel w w1 := (((Bel.refl w).alloc _).alloc _).trans hb1
    clear hb1
    go_wp2_with fail
    refine (HQ.out _).mono ?_
    rintro e w2 ⟨rfl, hb2⟩
    go_wp2
    go_ret
    exact ⟨rfl, hbw.trans hb2⟩
  · have hp : placedB ⟨pf, pl, pc, ps, px⟩ 4 = false := by simpa using hp
    clear h
    go_enter Try.func4, Try.ntmps4
    go_wp2_with fail
    refine (HP.out _).mono ?_
    rintro e w1 ⟨rfl, hb1⟩
    have hbw : Bel w w1 := (((Bel.refl w).alloc _).alloc _).trans hb1
    clear hb1
    go_wp2
    go_ret
    exact ⟨rfl, hbw⟩

set_option maxRecDepth 100000 in
set_option maxHeartbeats 1000000 in
theorem fnSame_file (pf pl pc ps px qf ql qc qs qx : Int) (ha : pf ≠ qf) (w : World) (hp : placedB ⟨pf, pl, pc, ps, px⟩ 4 = true) (hq : placedB ⟨qf, ql, qc, qs, qx⟩ 4 = true) :
    Calls Try.prog 4 #[placeV ⟨pf, pl, pc, ps, px⟩, placeV ⟨qf, ql, qc, qs, qx⟩] w fun e w' => e = .returned (.bool true) ∧ Bel w w' := by
  have hP := fun W => placed_any ⟨pf, pl, pc, ps, px⟩ 4 W
  have hQ := fun W => placed_any ⟨qf, ql, qc, qs, qx⟩ 4 W
  rw [hp] at hP
  rw [hq] at hQ
  have hval : decide (pf = qf ∧ pl = ql ∧ pc = qc) = false := by simp [ha]
  have hae : (pf == qf) = false := by simpa using ha
  have hS : ∀ W, Calls Try.prog 19 #[placeV ⟨pf, pl, pc, ps, px⟩, placeV ⟨qf, ql, qc, qs, qx⟩] W fun e w' => e = .returned (.bool false) ∧ Bel W w' := fun W => (same_any ⟨pf, pl, pc, ps, px⟩ ⟨qf, ql, qc, qs, qx⟩ W hp hq).mono (fun e w' h => ⟨h.1.trans (ret_bool hval), h.2⟩)
  have HP := Lib.hid hP; clear hP
  have HQ := Lib.hid hQ; clear hQ
  have HS := Lib.hid hS; clear hS
  clear hp hq hval
  go_enter Try.func4, Try.ntmps4
  go_wp2_with fail
  refine (HP.out _).mono ?_
  rintro e w1 ⟨rfl, hb1⟩
  have bp := ((PBox.new w ⟨pf, pl, pc, ps, px⟩ _ rfl).bel ((Bel.refl _).alloc _)).bel hb1
  have bq := (PBox.new (w.alloc _) ⟨qf, ql, qc, qs, qx⟩ _ (World.size_alloc _ _)).bel hb1
  have hbw : Bel w w1 := (((Bel.refl w).alloc _).alloc _).trans hb1
  clear hb1
  obtain ⟨c0, c1, c2, c3, c4⟩ := bp.all
  obtain ⟨d0, d1, d2, d3, d4⟩ := bq.all
  go_wp2_with fail
  refine (HQ.out _).mono ?_
  rintro e w2 ⟨rfl, hb2⟩
  clear c0 c1 c2 c3 c4 d0 d1 d2 d3 d4
  obtain ⟨c0, c1, c2, c3, c4⟩ := (bp.bel hb2).all
  obtain ⟨d0, d1, d2, d3, d4⟩ := (bq.bel hb2).all
  have bp2 := Lib.hid (bp.bel hb2)
  have bq2 := Lib.hid (bq.bel hb2)
  have hbw2 := Lib.hid (hbw.trans hb2)
  clear bp bq hbw hb2
  go_wp2_with fail
  obtain ⟨c0, c1, c2, c3, c4⟩ := And.intro (Later.cell c0) (And.intro (Later.cell c1) (And.intro (Later.cell c2) (And.intro (Later.cell c3) (Later.cell c4))))
  obtain ⟨d0, d1, d2, d3, d4⟩ := And.intro (Later.cell d0) (And.intro (Later.cell d1) (And.intro (Later.cell d2) (And.intro (Later.cell d3) (Later.cell d4))))
  refine region_later (by kernel_rfl) (by kernel_rfl) ?_
  repeat (go_big_quiet_step ((go_at_call 19; exact call_later _ (HS.out _))))
  refine wpQuiet_nil ?_
  intro _ hw'
  obtain ⟨x, hx⟩ := hw'
  subst hx
  have hbw3 := Lib.hid (hbw2.out.trans x.bel)
  go_wp2
  go_ret
  exact ⟨rfl, hbw3.out⟩

set_option maxRecDepth 100000 in
set_option maxHeartbeats 1000000 in
theorem fnSame_line (pf pl pc ps px ql qc qs qx : Int) (ha : pl ≠ ql) (w : World) (hp : placedB ⟨pf, pl, pc, ps, px⟩ 4 = true) (hq : placedB ⟨pf, ql, qc, qs, qx⟩ 4 = true) :
    Calls Try.prog 4 #[placeV ⟨pf, pl, pc, ps, px⟩, placeV ⟨pf, ql, qc, qs, qx⟩] w fun e w' => e = .returned (.bool true) ∧ Bel w w' := by
  have hP := fun W => placed_any ⟨pf, pl, pc, ps, px⟩ 4 W
  have hQ := fun W => placed_any ⟨pf, ql, qc, qs, qx⟩ 4 W
  rw [hp] at hP
  rw [hq] at hQ
  have hval : decide (pf = pf ∧ pl = ql ∧ pc = qc) = false := by simp [ha]
  have hae : (pl == ql) = false := by simpa using ha
  have hS : ∀ W, Calls Try.prog 19 #[placeV ⟨pf, pl, pc, ps, px⟩, placeV ⟨pf, ql, qc, qs, qx⟩] W fun e w' => e = .returned (.bool false) ∧ Bel W w' := fun W => (same_any ⟨pf, pl, pc, ps, px⟩ ⟨pf, ql, qc, qs, qx⟩ W hp hq).mono (fun e w' h => ⟨h.1.trans (ret_bool hval), h.2⟩)
  have HP := Lib.hid hP; clear hP
  have HQ := Lib.hid hQ; clear hQ
  have HS := Lib.hid hS; clear hS
  clear hp hq hval
  go_enter Try.func4, Try.ntmps4
  go_wp2_with fail
  refine (HP.out _).mono ?_
  rintro e w1 ⟨rfl, hb1⟩
  have bp := ((PBox.new w ⟨pf, pl, pc, ps, px⟩ _ rfl).bel ((Bel.refl _).alloc _)).bel hb1
  have bq := (PBox.new (w.alloc _) ⟨pf, ql, qc, qs, qx⟩ _ (World.size_alloc _ _)).bel hb1
  have hbw : Bel w w1 := (((Bel.refl w).alloc _).alloc _).trans hb1
  clear hb1
  obtain ⟨c0, c1, c2, c3, c4⟩ := bp.all
  obtain ⟨d0, d1, d2, d3, d4⟩ := bq.all
  go_wp2_with fail
  refine (HQ.out _).mono ?_
  rintro e w2 ⟨rfl, hb2⟩
  clear c0 c1 c2 c3 c4 d0 d1 d2 d3 d4
  obtain ⟨c0, c1, c2, c3, c4⟩ := (bp.bel hb2).all
  obtain ⟨d0, d1, d2, d3, d4⟩ := (bq.bel hb2).all
  have bp2 := Lib.hid (bp.bel hb2)
  have bq2 := Lib.hid (bq.bel hb2)
  have hbw2 := Lib.hid (hbw.trans hb2)
  clear bp bq hbw hb2
  go_wp2_with fail
  obtain ⟨c0, c1, c2, c3, c4⟩ := And.intro (Later.cell c0) (And.intro (Later.cell c1) (And.intro (Later.cell c2) (And.intro (Later.cell c3) (Later.cell c4))))
  obtain ⟨d0, d1, d2, d3, d4⟩ := And.intro (Later.cell d0) (And.intro (Later.cell d1) (And.intro (Later.cell d2) (And.intro (Later.cell d3) (Later.cell d4))))
  refine region_later (by kernel_rfl) (by kernel_rfl) ?_
  repeat (go_big_quiet_step ((go_at_call 19; exact call_later _ (HS.out _))))
  refine wpQuiet_nil ?_
  intro _ hw'
  obtain ⟨x, hx⟩ := hw'
  subst hx
  have hbw3 := Lib.hid (hbw2.out.trans x.bel)
  go_wp2
  go_ret
  exact ⟨rfl, hbw3.out⟩

set_option maxRecDepth 100000 in
set_option maxHeartbeats 1000000 in
theorem fnSame_col (pf pl pc ps px qc qs qx : Int) (ha : pc ≠ qc) (w : World) (hp : placedB ⟨pf, pl, pc, ps, px⟩ 4 = true) (hq : placedB ⟨pf, pl, qc, qs, qx⟩ 4 = true) :
    Calls Try.prog 4 #[placeV ⟨pf, pl, pc, ps, px⟩, placeV ⟨pf, pl, qc, qs, qx⟩] w fun e w' => e = .returned (.bool true) ∧ Bel w w' := by
  have hP := fun W => placed_any ⟨pf, pl, pc, ps, px⟩ 4 W
  have hQ := fun W => placed_any ⟨pf, pl, qc, qs, qx⟩ 4 W
  rw [hp] at hP
  rw [hq] at hQ
  have hval : decide (pf = pf ∧ pl = pl ∧ pc = qc) = false := by simp [ha]
  have hae : (pc == qc) = false := by simpa using ha
  have hS : ∀ W, Calls Try.prog 19 #[placeV ⟨pf, pl, pc, ps, px⟩, placeV ⟨pf, pl, qc, qs, qx⟩] W fun e w' => e = .returned (.bool false) ∧ Bel W w' := fun W => (same_any ⟨pf, pl, pc, ps, px⟩ ⟨pf, pl, qc, qs, qx⟩ W hp hq).mono (fun e w' h => ⟨h.1.trans (ret_bool hval), h.2⟩)
  have HP := Lib.hid hP; clear hP
  have HQ := Lib.hid hQ; clear hQ
  have HS := Lib.hid hS; clear hS
  clear hp hq hval
  go_enter Try.func4, Try.ntmps4
  go_wp2_with fail
  refine (HP.out _).mono ?_
  rintro e w1 ⟨rfl, hb1⟩
  have bp := ((PBox.new w ⟨pf, pl, pc, ps, px⟩ _ rfl).bel ((Bel.refl _).alloc _)).bel hb1
  have bq := (PBox.new (w.alloc _) ⟨pf, pl, qc, qs, qx⟩ _ (World.size_alloc _ _)).bel hb1
  have hbw : Bel w w1 := (((Bel.refl w).alloc _).alloc _).trans hb1
  clear hb1
  obtain ⟨c0, c1, c2, c3, c4⟩ := bp.all
  obtain ⟨d0, d1, d2, d3, d4⟩ := bq.all
  go_wp2_with fail
  refine (HQ.out _).mono ?_
  rintro e w2 ⟨rfl, hb2⟩
  clear c0 c1 c2 c3 c4 d0 d1 d2 d3 d4
  obtain ⟨c0, c1, c2, c3, c4⟩ := (bp.bel hb2).all
  obtain ⟨d0, d1, d2, d3, d4⟩ := (bq.bel hb2).all
  have bp2 := Lib.hid (bp.bel hb2)
  have bq2 := Lib.hid (bq.bel hb2)
  have hbw2 := Lib.hid (hbw.trans hb2)
  clear bp bq hbw hb2
  go_wp2_with fail
  obtain ⟨c0, c1, c2, c3, c4⟩ := And.intro (Later.cell c0) (And.intro (Later.cell c1) (And.intro (Later.cell c2) (And.intro (Later.cell c3) (Later.cell c4))))
  obtain ⟨d0, d1, d2, d3, d4⟩ := And.intro (Later.cell d0) (And.intro (Later.cell d1) (And.intro (Later.cell d2) (And.intro (Later.cell d3) (Later.cell d4))))
  refine region_later (by kernel_rfl) (by kernel_rfl) ?_
  repeat (go_big_quiet_step ((go_at_call 19; exact call_later _ (HS.out _))))
  refine wpQuiet_nil ?_
  intro _ hw'
  obtain ⟨x, hx⟩ := hw'
  subst hx
  have hbw3 := Lib.hid (hbw2.out.trans x.bel)
  go_wp2
  go_ret
  exact ⟨rfl, hbw3.out⟩

set_option maxRecDepth 100000 in
set_option maxHeartbeats 1000000 in
theorem fnSame_all (pf pl pc ps px qs qx : Int) (w : World) (hp : placedB ⟨pf, pl, pc, ps, px⟩ 4 = true) (hq : placedB ⟨pf, pl, pc, qs, qx⟩ 4 = true) :
    Calls Try.prog 4 #[placeV ⟨pf, pl, pc, ps, px⟩, placeV ⟨pf, pl, pc, qs, qx⟩] w fun e w' => e = .returned (.bool true) ∧ Bel w w' := by
  have hP := fun W => placed_any ⟨pf, pl, pc, ps, px⟩ 4 W
  have hQ := fun W => placed_any ⟨pf, pl, pc, qs, qx⟩ 4 W
  rw [hp] at hP
  rw [hq] at hQ
  have hval : decide (pf = pf ∧ pl = pl ∧ pc = pc) = true := by simp
  have hS : ∀ W, Calls Try.prog 19 #[placeV ⟨pf, pl, pc, ps, px⟩, placeV ⟨pf, pl, pc, qs, qx⟩] W fun e w' => e = .returned (.bool true) ∧ Bel W w' := fun W => (same_any ⟨pf, pl, pc, ps, px⟩ ⟨pf, pl, pc, qs, qx⟩ W hp hq).mono (fun e w' h => ⟨h.1.trans (ret_bool hval), h.2⟩)
  have HP := Lib.hid hP; clear hP
  have HQ := Lib.hid hQ; clear hQ
  have HS := Lib.hid hS; clear hS
  clear hp hq hval
  go_enter Try.func4, Try.ntmps4
  go_wp2_with fail
  refine (HP.out _).mono ?_
  rintro e w1 ⟨rfl, hb1⟩
  have bp := ((PBox.new w ⟨pf, pl, pc, ps, px⟩ _ rfl).bel ((Bel.refl _).alloc _)).bel hb1
  have bq := (PBox.new (w.alloc _) ⟨pf, pl, pc, qs, qx⟩ _ (World.size_alloc _ _)).bel hb1
  have hbw : Bel w w1 := (((Bel.refl w).alloc _).alloc _).trans hb1
  clear hb1
  obtain ⟨c0, c1, c2, c3, c4⟩ := bp.all
  obtain ⟨d0, d1, d2, d3, d4⟩ := bq.all
  go_wp2_with fail
  refine (HQ.out _).mono ?_
  rintro e w2 ⟨rfl, hb2⟩
  clear c0 c1 c2 c3 c4 d0 d1 d2 d3 d4
  obtain ⟨c0, c1, c2, c3, c4⟩ := (bp.bel hb2).all
  obtain ⟨d0, d1, d2, d3, d4⟩ := (bq.bel hb2).all
  have bp2 := Lib.hid (bp.bel hb2)
  have bq2 := Lib.hid (bq.bel hb2)
  have hbw2 := Lib.hid (hbw.trans hb2)
  clear bp bq hbw hb2
  go_wp2_with fail
  obtain ⟨c0, c1, c2, c3, c4⟩ := And.intro (Later.cell c0) (And.intro (Later.cell c1) (And.intro (Later.cell c2) (And.intro (Later.cell c3) (Later.cell c4))))
  obtain ⟨d0, d1, d2, d3, d4⟩ := And.intro (Later.cell d0) (And.intro (Later.cell d1) (And.intro (Later.cell d2) (And.intro (Later.cell d3) (Later.cell d4))))
  refine region_later (by kernel_rfl) (by kernel_rfl) ?_
  repeat (go_big_quiet_step ((go_at_call 19; exact call_later _ (HS.out _))))
  refine wpQuiet_nil ?_
  intro _ hw'
  obtain ⟨x, hx⟩ := hw'
  subst hx
  have hbw3 := Lib.hid (hbw2.out.trans x.bel)
  go_wp2
  go_ret
  exact ⟨rfl, hbw3.out⟩

theorem law_FnSame (w : World) (p : PlaceD) (_hp : PlaceIn p) (q : PlaceD) (_hq : PlaceIn q) :
    Calls Try.prog 4 #[placeV p, placeV q] w fun e w' => e = .returned (.bool true) ∧ Bel w w' := by
  by_cases hp : placedB p 4 = true
  · by_cases hq : placedB q 4 = true
    · obtain ⟨pf, pl, pc, ps, px⟩ := p
      obtain ⟨qf, ql, qc, qs, qx⟩ := q
      by_cases ha : pf = qf
      · subst ha
        by_cases hb : pl = ql
        · subst hb
          by_cases hc : pc = qc
          · subst hc
            exact fnSame_all pf pl pc ps px qs qx w hp hq
          · exact fnSame_col pf pl pc ps px qc qs qx hc w hp hq
        · exact fnSame_line pf pl pc ps px ql qc qs qx hb w hp hq
      · exact fnSame_file pf pl pc ps px qf ql qc qs qx ha w hp hq
    · exact fnSame_out p q w (.inr (by simpa using hq))
  · exact fnSame_out p q w (.inl (by simpa using hp))
end Go.Proofs.Ytbekmpmfkblgnaa
