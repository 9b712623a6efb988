/- The walk of FnFormat. -/
import Derived.Test.YtmlimedmeolegaaDoorFFmt
import Derived.Test.YtmlimedmeolegaaDoorDec
namespace Go.Proofs.YtmlimedmeolegaaDoor
open Go.RowKit Go.BigFrame Go.Lib

theorem str_ext {a b : ByteArray} (h : a.data.toList = b.data.toList) : a = b := by
  cases a; cases b; simpa using h
theorem isEmpty_str (a : ByteArray) : a.toList.isEmpty = decide (a.size = 0) := by
  rw [ByteArray.toList_eq]
  cases a with
  | mk d => simp [ByteArray.size]; rw [Bool.eq_iff_iff]; simp
theorem due_plain (nm : ByteArray) (x y : Nat) : nm ++ ⟨#[58]⟩ ++ ⟨(decDigits x).toArray⟩ = (⟨(fmtL nm x y false).toArray⟩ : ByteArray) := str_ext (by simp [fmtL])
theorem due_col (nm : ByteArray) (x y : Nat) : nm ++ ⟨#[58]⟩ ++ ⟨(decDigits x).toArray⟩ ++ (⟨#[58]⟩ ++ ⟨(decDigits y).toArray⟩) = (⟨(fmtL nm x y true).toArray⟩ : ByteArray) := str_ext (by simp [fmtL])

set_option maxRecDepth 100000 in
set_option maxHeartbeats 4000000 in
theorem law_FnFormat (w : World) (nm : ByteArray) (_hs : nm.size ≤ maxLen) (l : Int) (_lo : -9223372036854775808 ≤ l) (_hi : l ≤ 9223372036854775807) (c : Int) (_lo2 : -9223372036854775808 ≤ c) (_hi2 : c ≤ 9223372036854775807) (sh : Bool) (htab : Lib.TabIs Tryd.prog w powName .u64 Lib.pow10Tab) :
    Calls Tryd.prog 3 #[.string nm, .int .i64 l, .int .i64 c, .bool sh] w fun e w' => e = .returned (.bool true) ∧ Bel w w' := by
  have HT := Lib.hid htab; clear htab
  by_cases hz : 2147483647 < nm.size
  · go_enter Tryd.func3, Tryd.ntmps3
    go_wp2
    go_ret
    exact ⟨rfl, Bel.refl w⟩
  have HP := Lib.hid (placed_any ⟨0, l, c, 0, 0⟩ 1 w)
  cases hpl : placedB ⟨0, l, c, 0, 0⟩ 1 with
  | false =>
    rw [hpl] at HP
    go_enter Tryd.func3, Tryd.ntmps3
    go_wp2_with fail
    refine HP.out.mono ?_
    rintro e w1 ⟨rfl, hb1⟩
    have HB1 := Lib.hid hb1
    clear hb1 HP
    go_wp2
    go_ret
    exact ⟨rfl, HB1.out⟩
  | true =>
    rw [hpl] at HP
    obtain ⟨_, _, h1, h2, h3, h4⟩ := placedB_true hpl
    simp only at h1 h2 h3 h4
    clear hpl
    obtain ⟨x, rfl⟩ : ∃ x : Nat, l = (x : Int) := ⟨l.toNat, by omega⟩
    obtain ⟨y, rfl⟩ : ∃ y : Nat, c = (y : Int) := ⟨c.toNat, by omega⟩
    by_cases hn0 : nm.size = 0
    · have d1 : nm.toList.isEmpty = true := by rw [isEmpty_str]; simpa using hn0
      go_enter Tryd.func3, Tryd.ntmps3
      go_wp2_with fail
      refine HP.out.mono ?_
      rintro e w1 ⟨rfl, hb1⟩
      have HB1 := Lib.hid hb1
      clear hb1 HP
      go_wp2
      go_ret
      exact ⟨rfl, HB1.out⟩
    have d1 : nm.toList.isEmpty = false := by rw [isEmpty_str]; simpa using hn0
    by_cases hn5 : 50 < nm.size
    · go_enter Tryd.func3, Tryd.ntmps3
      go_wp2_with fail
      refine HP.out.mono ?_
      rintro e w1 ⟨rfl, hb1⟩
      have HB1 := Lib.hid hb1
      clear hb1 HP
      go_wp2
      go_ret
      exact ⟨rfl, HB1.out⟩
    have hdx := digits_len x (by omega) (by omega)
    have hdy := digits_len y (by omega) (by omega)
    cases sh
    · go_enter Tryd.func3, Tryd.ntmps3
      go_wp2_with fail
      refine HP.out.mono ?_
      rintro e w1 ⟨rfl, hb1⟩
      have HB1 := Lib.hid hb1
      clear hb1 HP
      go_wp2_with fail
      refine (decimal_any x (by omega) (by omega) w1).mono ?_
      rintro e w2 ⟨rfl, hb2⟩
      have HB2 := Lib.hid (HB1.out.trans hb2)
      clear hb2 HB1
      go_wp2_with fail
      refine (implFormat_any nm x y false w2 (by omega) (by omega) (by omega) (by omega) (by omega) (tab_bel HT.out HB2.out)).mono ?_
      rintro e w3 ⟨rfl, hb3⟩
      have HB3 := Lib.hid (HB2.out.trans hb3)
      clear hb3 HB2
      rw [due_plain nm x y]
      go_wp2
      go_ret
      exact ⟨rfl, HB3.out⟩
    · go_enter Tryd.func3, Tryd.ntmps3
      go_wp2_with fail
      refine HP.out.mono ?_
      rintro e w1 ⟨rfl, hb1⟩
      have HB1 := Lib.hid hb1
      clear hb1 HP
      go_wp2_with fail
      refine (decimal_any x (by omega) (by omega) w1).mono ?_
      rintro e w2 ⟨rfl, hb2⟩
      have HB2 := Lib.hid (HB1.out.trans hb2)
      clear hb2 HB1
      go_wp2_with fail
      refine (decimal_any y (by omega) (by omega) w2).mono ?_
      rintro e w3 ⟨rfl, hb3⟩
      have HB3 := Lib.hid (HB2.out.trans hb3)
      clear hb3 HB2
      go_wp2_with fail
      refine (implFormat_any nm x y true w3 (by omega) (by omega) (by omega) (by omega) (by omega) (tab_bel HT.out HB3.out)).mono ?_
      rintro e w4 ⟨rfl, hb4⟩
      have HB4 := Lib.hid (HB3.out.trans hb4)
      clear hb4 HB3
      rw [due_col nm x y]
      go_wp2
      go_ret
      exact ⟨rfl, HB4.out⟩
end Go.Proofs.YtmlimedmeolegaaDoor
