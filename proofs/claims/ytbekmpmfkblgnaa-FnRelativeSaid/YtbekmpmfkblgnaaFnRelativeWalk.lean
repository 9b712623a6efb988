/- The walk of FnRelative. -/
import Derived.Test.YtbekmpmfkblgnaaRel3
namespace Go.Proofs.Ytbekmpmfkblgnaa
open Go.RowKit Go.BigFrame

/-- Behind the third statement: the boxes of the directive's two places. -/
def RelTwo (w wc : World) (s7 s8 : Value) (d : DirD) : Prop :=
  ∃ b7 b8, s7 = ptr b7 ∧ s8 = ptr b8 ∧ PBox wc b7 ⟨0, d.line, d.col, 0, 0⟩ ∧ PBox wc b8 ⟨0, d.toLine, d.toCol, 0, 0⟩ ∧ Blk wc w.heap.size 34 (dirCells d) ∧ Bel w wc

def RelAll (w W : World) (b9 b7 b8 : Nat) (l c : Int) (d : DirD) : Prop :=
  PBox W b9 ⟨0, l, c, 0, 0⟩ ∧ PBox W b7 ⟨0, d.line, d.col, 0, 0⟩ ∧ PBox W b8 ⟨0, d.toLine, d.toCol, 0, 0⟩ ∧ Blk W w.heap.size 34 (dirCells d) ∧ Bel w W
theorem RelAll.bel {w W W' : World} {b9 b7 b8 : Nat} {l c : Int} {d : DirD} (h : RelAll w W b9 b7 b8 l c d) (hb : Bel W W') : RelAll w W' b9 b7 b8 l c d :=
  ⟨h.1.bel hb, h.2.1.bel hb, h.2.2.1.bel hb, h.2.2.2.1.bel hb, h.2.2.2.2.trans hb⟩

/-- A place is itself. -/
theorem eql_place (w : World) (a b c d e : Int) : (binOp .eql 23 (.agg #[.int .i64 a, .int .i64 b, .int .i64 c, .int .i64 d, .int .i64 e]) (.agg #[.int .i64 a, .int .i64 b, .int .i64 c, .int .i64 d, .int .i64 e])).run Try.prog w = .ok (.bool true) w := by
  simp [go_sem]
attribute [local go_sem ↓] eql_place

set_option maxRecDepth 100000 in
set_option maxHeartbeats 4000000 in
theorem fnRelative_fits (d : DirD) (l c : Int) (w : World) (h : d.name.size ≤ 2147483647) :
    Calls Try.prog 6 #[dirV d, .int .i64 l, .int .i64 c] w fun e w' => e = .returned (.bool true) ∧ Bel w w' := by
  have HF := Lib.hid (fun W => fits4_any d W h)
  obtain ⟨dl, dc, nm, tl, tc⟩ := d
  simp only at h
  go_enter Try.func6, Try.ntmps6
  go_wp2_with fail
  refine (HF.out _).mono ?_
  rintro e w1 ⟨rfl, hb1⟩
  have hD : Blk w1 w.heap.size 34 (dirCells ⟨dl, dc, nm, tl, tc⟩) := (Blk.new w _ (dirCells ⟨dl, dc, nm, tl, tc⟩)).bel hb1
  have hbw : Bel w w1 := ((Bel.refl w).alloc _).trans hb1
  clear hb1
  have c0 : w1.cell? ⟨w.heap.size, 0, none⟩ = some (.int .i64 dl) := hD.cell 0
  have c1 : w1.cell? ⟨w.heap.size, 1, none⟩ = some (.int .i64 dc) := hD.cell 1
  have c2 : w1.cell? ⟨w.heap.size, 2, none⟩ = some (.string nm) := hD.cell 2
  have c3 : w1.cell? ⟨w.heap.size, 3, none⟩ = some (.int .i64 tl) := hD.cell 3
  have c4 : w1.cell? ⟨w.heap.size, 4, none⟩ = some (.int .i64 tc) := hD.cell 4
  have n0 := hD.lt
  have n1 : w.heap.size ≠ w1.heap.size := by omega
  have n2 : w.heap.size ≠ w1.heap.size + 1 := by omega
  go_upto_region 3 with (fail)
  go_cut [7, 8] (fun s7 s8 wc => RelTwo w wc s7 s8 ⟨dl, dc, nm, tl, tc⟩)
  case first =>
    go_region
    all_goals (go_wp2_with fail; go_meet)
    · exact ⟨w1.heap.size, w1.heap.size + 1, rfl, rfl, (PBox.new w1 ⟨0, dl, dc, 0, 0⟩ _ rfl).bel ((Bel.refl _).alloc _).drew, (PBox.new (w1.alloc _) ⟨0, tl, tc, 0, 0⟩ _ (World.size_alloc _ _)).bel (Bel.refl _).drew, hD.bel (((Bel.refl w1).alloc _).alloc _).drew, ((hbw.alloc _).alloc _).drew⟩
    · exact ⟨w1.heap.size + 1, w1.heap.size, rfl, rfl, (PBox.new (w1.alloc _) ⟨0, dl, dc, 0, 0⟩ _ (World.size_alloc _ _)).bel (Bel.refl _).drew, (PBox.new w1 ⟨0, tl, tc, 0, 0⟩ _ rfl).bel ((Bel.refl _).alloc _).drew, hD.bel (((Bel.refl w1).alloc _).alloc _).drew, ((hbw.alloc _).alloc _).drew⟩
  case rest =>
    obtain ⟨b7, b8, rfl, rfl, hp7, hp8, hDc, hbc⟩ := hcut
    obtain ⟨x0, x1, x2, x3, x4⟩ := hp7.all
    obtain ⟨y0, y1, y2, y3, y4⟩ := hp8.all
    have HH := Lib.hid (And.intro hp7 (And.intro hp8 (And.intro hDc hbc)))
    have n7 := hp7.lt
    have n8 := hp8.lt
    clear hp7 hp8 hDc hbc hD hbw c0 c1 c2 c3 c4 n0 n1 n2
    go_wp2_with fail
    refine (placed_any ⟨0, dl, dc, 0, 0⟩ 1 _).mono ?_
    rintro e w3 ⟨rfl, hb3⟩
    have HN := Lib.hid (show RelAll w w3 wc.heap.size b7 b8 l c ⟨dl, dc, nm, tl, tc⟩ from
      ⟨(PBox.new wc ⟨0, l, c, 0, 0⟩ _ rfl).bel hb3, HH.out.1.bel (((Bel.refl wc).alloc _).trans hb3), HH.out.2.1.bel (((Bel.refl wc).alloc _).trans hb3), HH.out.2.2.1.bel (((Bel.refl wc).alloc _).trans hb3), (HH.out.2.2.2.alloc _).trans hb3⟩)
    clear HH hb3 x0 x1 x2 x3 x4 y0 y1 y2 y3 y4 n7 n8
    generalize wc.heap.size = b9 at HN ⊢
    have hbw3 := HN.out.2.2.2.2
    cases hA : placedB ⟨0, dl, dc, 0, 0⟩ 1 with
    | false =>
      go_wp2
      go_ret
      exact ⟨rfl, hbw3⟩
    | true =>
      obtain ⟨x0, x1, x2, x3, x4⟩ := HN.out.2.2.1.all
      go_wp2_with fail
      refine (placed_any ⟨0, tl, tc, 0, 0⟩ 1 _).mono ?_
      rintro e w4 ⟨rfl, hb4⟩
      have HN4 := Lib.hid (HN.out.bel hb4); clear HN hb4 hbw3 x0 x1 x2 x3 x4
      have hbw4 := HN4.out.2.2.2.2
      cases hB : placedB ⟨0, tl, tc, 0, 0⟩ 1 with
      | false =>
        go_wp2
        go_ret
        exact ⟨rfl, hbw4⟩
      | true =>
        obtain ⟨x0, x1, x2, x3, x4⟩ := HN4.out.1.all
        go_wp2_with fail
        refine (placed_any ⟨0, l, c, 0, 0⟩ 1 _).mono ?_
        rintro e w5 ⟨rfl, hb5⟩
        have HN5 := Lib.hid (HN4.out.bel hb5); clear HN4 hb5 hbw4 x0 x1 x2 x3 x4
        have hbw5 := HN5.out.2.2.2.2
        cases hC : placedB ⟨0, l, c, 0, 0⟩ 1 with
        | false =>
          go_wp2
          go_ret
          exact ⟨rfl, hbw5⟩
        | true =>
          obtain ⟨x0, x1, x2, x3, x4⟩ := HN5.out.1.all
          obtain ⟨y0, y1, y2, y3, y4⟩ := HN5.out.2.1.all
          go_wp2_with fail
          refine (specBefore_any ⟨0, l, c, 0, 0⟩ ⟨0, dl, dc, 0, 0⟩ _).mono ?_
          rintro e w6 ⟨rfl, hb6⟩
          have HN6 := Lib.hid (HN5.out.bel hb6); clear HN5 hb6 hbw5 x0 x1 x2 x3 x4 y0 y1 y2 y3 y4
          have hbw6 := HN6.out.2.2.2.2
          cases hE : befB ⟨0, l, c, 0, 0⟩ ⟨0, dl, dc, 0, 0⟩ with
          | true =>
            go_wp2
            go_ret
            exact ⟨rfl, hbw6⟩
          | false =>
            obtain ⟨a0, a1, a2, a3, a4, a5⟩ := placedB_true hA
            obtain ⟨b0, b1, b2, b3, b4, b5⟩ := placedB_true hB
            obtain ⟨f0, f1, f2, f3, f4, f5⟩ := placedB_true hC
            simp only at a2 a3 a4 a5 b2 b3 b4 b5 f2 f3 f4 f5
            have hE' : ¬ (l < dl ∨ l = dl ∧ c < dc) := of_decide_eq_false hE
            clear hA hB hC hE a0 a1 b0 b1 f0 f1
            have HRC := Lib.hid (fun W => relative_any ⟨dl, dc, nm, tl, tc⟩ l c W a2 a3 a4 a5 b2 b3 b4 b5 (by show dl ≤ l; omega) f3 f4 f5 (by show l = dl → dc ≤ c; omega))
            have HSC := Lib.hid (fun W => specRel_any ⟨dl, dc, nm, tl, tc⟩ l c W a2 a3 a4 a5 b2 b3 b4 b5 f3 f2 f4 f5)
            simp only at HRC HSC
            generalize relC (l * 4096 + c * 16) (dl * 4096 + dc * 16) tc = rc at HRC HSC
            generalize tl + (l - dl) = rl at HRC HSC
            clear hE' a2 a3 a4 a5 b2 b3 b4 b5 f2 f3 f4 f5
            obtain ⟨z0, z1, z2, z3, z4⟩ : w6.cell? ⟨w.heap.size, 0, none⟩ = some (.int .i64 dl) ∧ w6.cell? ⟨w.heap.size, 1, none⟩ = some (.int .i64 dc) ∧ w6.cell? ⟨w.heap.size, 2, none⟩ = some (.string nm) ∧ w6.cell? ⟨w.heap.size, 3, none⟩ = some (.int .i64 tl) ∧ w6.cell? ⟨w.heap.size, 4, none⟩ = some (.int .i64 tc) :=
              ⟨HN6.out.2.2.2.1.cell 0, HN6.out.2.2.2.1.cell 1, HN6.out.2.2.2.1.cell 2, HN6.out.2.2.2.1.cell 3, HN6.out.2.2.2.1.cell 4⟩
            by_cases hm : nm.toList = []
            · go_wp2
              go_ret
              exact ⟨rfl, hbw6⟩
            have hm2 : nm.toList.isEmpty = false := by cases hh : nm.toList with | nil => exact absurd hh hm | cons a r => rfl
            by_cases hs : 50 < (nm.size : Int)
            · go_wp2
              go_ret
              exact ⟨rfl, hbw6⟩
            go_wp2_with fail
            refine (HRC.out _).mono ?_
            rintro e w7 ⟨rfl, hb7⟩
            have HN7 := Lib.hid (HN6.out.bel hb7)
            clear hb7 hbw6 HN6 z0 z1 z2 z3 z4
            go_upto_region 8 with (fail)
            have HB8 := Lib.hid (show PBox ((w7.alloc (.cells #[.int .i64 0, .int .i64 rl, .int .i64 rc, .int .i64 0, .int .i64 0] 23)).alloc (.cells #[.int .i64 0, .int .i64 l, .int .i64 c, .int .i64 0, .int .i64 0] 23)) w7.heap.size ⟨0, rl, rc, 0, 0⟩ ∧ PBox ((w7.alloc (.cells #[.int .i64 0, .int .i64 rl, .int .i64 rc, .int .i64 0, .int .i64 0] 23)).alloc (.cells #[.int .i64 0, .int .i64 l, .int .i64 c, .int .i64 0, .int .i64 0] 23)) (w7.heap.size + 1) ⟨0, l, c, 0, 0⟩ ∧ RelAll w ((w7.alloc (.cells #[.int .i64 0, .int .i64 rl, .int .i64 rc, .int .i64 0, .int .i64 0] 23)).alloc (.cells #[.int .i64 0, .int .i64 l, .int .i64 c, .int .i64 0, .int .i64 0] 23)) b9 b7 b8 l c ⟨dl, dc, nm, tl, tc⟩ from
              ⟨(PBox.new w7 ⟨0, rl, rc, 0, 0⟩ _ rfl).bel ((Bel.refl _).alloc _), PBox.new (w7.alloc _) ⟨0, l, c, 0, 0⟩ _ (World.size_alloc _ _), HN7.out.bel (((Bel.refl _).alloc _).alloc _)⟩)
            generalize (w7.alloc (.cells #[.int .i64 0, .int .i64 rl, .int .i64 rc, .int .i64 0, .int .i64 0] 23)).alloc (.cells #[.int .i64 0, .int .i64 l, .int .i64 c, .int .i64 0, .int .i64 0] 23) = w8 at HB8 ⊢
            obtain ⟨x0, x1, x2, x3, x4⟩ := HB8.out.1.all
            obtain ⟨y0, y1, y2, y3, y4⟩ := HB8.out.2.1.all
            obtain ⟨v0, v1, v2, v3, v4⟩ := HB8.out.2.2.1.all
            have hD := HB8.out.2.2.2.2.2.1
            have x0 := Later.cell x0
            have x1 := Later.cell x1
            have x2 := Later.cell x2
            have x3 := Later.cell x3
            have x4 := Later.cell x4
            have y0 := Later.cell y0
            have y1 := Later.cell y1
            have y2 := Later.cell y2
            have y3 := Later.cell y3
            have y4 := Later.cell y4
            have v0 := Later.cell v0
            have v1 := Later.cell v1
            have v2 := Later.cell v2
            have v3 := Later.cell v3
            have v4 := Later.cell v4
            have z0 := Later.cell (hD.cell 0 : w8.cell? ⟨w.heap.size, 0, none⟩ = some (.int .i64 dl))
            have z1 := Later.cell (hD.cell 1 : w8.cell? ⟨w.heap.size, 1, none⟩ = some (.int .i64 dc))
            have z2 := Later.cell (hD.cell 2 : w8.cell? ⟨w.heap.size, 2, none⟩ = some (.string nm))
            have z3 := Later.cell (hD.cell 3 : w8.cell? ⟨w.heap.size, 3, none⟩ = some (.int .i64 tl))
            have z4 := Later.cell (hD.cell 4 : w8.cell? ⟨w.heap.size, 4, none⟩ = some (.int .i64 tc))
            clear hD hm hm2 hs
            refine region_later (by kernel_rfl) (by kernel_rfl) ?_
            repeat (go_big_quiet_step ((go_at_call 24; exact call_later _ (HSC.out _))))
            refine wpQuiet_nil ?_
            intro _ hw'
            obtain ⟨x, hx⟩ := hw'
            subst hx
            clear x0 x1 x2 x3 x4 y0 y1 y2 y3 y4 v0 v1 v2 v3 v4 z0 z1 z2 z3 z4
            go_wp2
            go_ret
            exact ⟨rfl, HB8.out.2.2.2.2.2.2.trans x.bel⟩

set_option maxHeartbeats 1000000 in
theorem fnRelative_not (d : DirD) (l c : Int) (w : World) (h : ¬ d.name.size ≤ 2147483647) :
    Calls Try.prog 6 #[dirV d, .int .i64 l, .int .i64 c] w fun e w' => e = .returned (.bool true) ∧ Bel w w' := by
  have HF := Lib.hid (fun W => fits4_not d W h)
  obtain ⟨dl, dc, nm, tl, tc⟩ := d
  clear h
  go_enter Try.func6, Try.ntmps6
  go_wp2_with fail
  refine (HF.out _).mono ?_
  rintro e w1 ⟨rfl, hb1⟩
  go_wp2
  go_ret
  exact ⟨rfl, ((Bel.refl w).alloc _).trans hb1⟩
theorem law_FnRelative (w : World) (d : DirD) (_hd : True) (l : Int) (_lo : -9223372036854775808 ≤ l) (_hi : l ≤ 9223372036854775807) (c : Int) (_lo' : -9223372036854775808 ≤ c) (_hi' : c ≤ 9223372036854775807) :
    Calls Try.prog 6 #[dirV d, .int .i64 l, .int .i64 c] w fun e w' => e = .returned (.bool true) ∧ Bel w w' := by
  by_cases h : d.name.size ≤ 2147483647
  · exact fnRelative_fits d l c w h
  · exact fnRelative_not d l c w h
end Go.Proofs.Ytbekmpmfkblgnaa
