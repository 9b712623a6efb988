/- The walk of FnNumbers. -/
import Derived.Test.YtbekmpmfkblgnaaDoorNumN
namespace Go.Proofs.YtbekmpmfkblgnaaDoor
open Go.RowKit Go.BigFrame Go.Lib

set_option maxRecDepth 100000 in
set_option maxHeartbeats 4000000 in
theorem law_FnNumbers (w : World) (l : Int) (_lo : -9223372036854775808 ≤ l) (_hi : l ≤ 9223372036854775807) (c : Int) (_lo2 : -9223372036854775808 ≤ c) (_hi2 : c ≤ 9223372036854775807) (htab : Lib.TabIs Tryd.prog w powName .u64 Lib.pow10Tab) :
    Calls Tryd.prog 3 #[.int .i64 l, .int .i64 c] w fun e w' => e = .returned (.bool true) ∧ Bel w w' := by
  have HT := Lib.hid htab; clear htab
  have HP := Lib.hid (placed_any ⟨0, l, c, 0, 0⟩ 1 w)
  cases hpl : placedB ⟨0, l, c, 0, 0⟩ 1 with
  | false =>
    rw [hpl] at HP
    go_enter Tryd.func3, Tryd.ntmps3
    go_wp2_with fail
    refine HP.out.mono ?_
    rintro e w1 ⟨rfl, hb1⟩
    have HB1 := Lib.hid hb1
    clear hb1 HP
    go_wp2
    go_ret
    exact ⟨rfl, HB1.out⟩
  | true =>
    rw [hpl] at HP
    obtain ⟨_, _, h1, h2, h3, h4⟩ := placedB_true hpl
    simp only at h1 h2 h3 h4
    clear hpl
    obtain ⟨x, rfl⟩ : ∃ x : Nat, l = (x : Int) := ⟨l.toNat, by omega⟩
    obtain ⟨y, rfl⟩ : ∃ y : Nat, c = (y : Int) := ⟨c.toNat, by omega⟩
    go_enter Tryd.func3, Tryd.ntmps3
    go_wp2_with fail
    refine HP.out.mono ?_
    rintro e w1 ⟨rfl, hb1⟩
    have HB1 := Lib.hid hb1
    have HN := Lib.hid (numbers_any x y (by omega) (by omega) (by omega) (by omega) w1 (tab_bel HT.out hb1))
    clear hb1 HP
    go_wp2_with fail
    refine HN.out.mono ?_
    rintro e w2 ⟨rfl, hb2⟩
    have HB2 := Lib.hid (HB1.out.trans hb2)
    have HD1 := Lib.hid (fun (W : World) => decimal_any x (by omega) (by omega) W)
    have HD2 := Lib.hid (fun (W : World) => decimal_any y (by omega) (by omega) W)
    clear hb2 HB1 HN
    have e1 : ((decDigits x) == (decDigits x)) = true := by simp
    have e2 : ((decDigits y) == (decDigits y)) = true := by simp
    go_wp2_with fail
    refine (HD1.out _).mono ?_
    rintro e w3 ⟨rfl, hb3⟩
    have HB3 := Lib.hid (HB2.out.trans hb3)
    clear hb3 HB2
    go_wp2_with fail
    refine (HD2.out _).mono ?_
    rintro e w4 ⟨rfl, hb4⟩
    have HB4 := Lib.hid (HB3.out.trans hb4)
    clear hb4 HB3
    go_wp2
    go_ret
    exact ⟨rfl, HB4.out⟩
end Go.Proofs.YtbekmpmfkblgnaaDoor
