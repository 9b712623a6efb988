/- The walk of FnKnown. -/
import Derived.Test.YtbekmpmfkblgnaaKnown
namespace Go.Proofs.Ytbekmpmfkblgnaa
open Go.RowKit Go.BigFrame

set_option maxRecDepth 100000 in
set_option maxHeartbeats 1000000 in
theorem fnKnown_in (l c : Int) (w : World) (h0 : 0 ≤ l) (h1 : l ≤ 1000000) (h2 : 0 ≤ c) (h3 : c ≤ 250) :
    Calls Try.prog 5 #[.int .i64 l, .int .i64 c] w fun e w' => e = .returned (.bool true) ∧ Bel w w' := by
  have hK := fun m W h h' => knownIn_any m c W h h' h2 h3
  have hN := fun W => known_any l c W h0 h1 h2 h3
  have HK := Lib.hid hK; clear hK
  have HN := Lib.hid hN; clear hN
  have e0 : decide (l < 0) = false := by simpa using h0
  have e1 : decide (l > 1000000) = false := by simpa using h1
  have e2 : decide (c < 0) = false := by simpa using h2
  have e3 : decide (c > 250) = false := by simpa using h3
  go_enter Try.func5, Try.ntmps5
  go_wp2_with fail
  all_goals
    refine (HK.out _ _ (by omega) (by omega)).mono ?_
    rintro e w1 ⟨rfl, hb1⟩
    go_wp2_with fail
    refine (HN.out _).mono ?_
    rintro e w2 ⟨rfl, hb2⟩
    go_wp2
    go_ret
    refine ⟨?_, hb1.trans hb2⟩
    simp

theorem law_FnKnown (w : World) (l : Int) (_ : -9223372036854775808 ≤ l) (_ : l ≤ 9223372036854775807) (c : Int) (_ : -9223372036854775808 ≤ c) (_ : c ≤ 9223372036854775807) :
    Calls Try.prog 5 #[.int .i64 l, .int .i64 c] w fun e w' => e = .returned (.bool true) ∧ Bel w w' := by
  by_cases h0 : l < 0
  · go_enter Try.func5, Try.ntmps5
    go_wp2
    go_ret
    exact ⟨rfl, Bel.refl w⟩
  by_cases h1 : 1000000 < l
  · go_enter Try.func5, Try.ntmps5
    go_wp2
    go_ret
    exact ⟨rfl, Bel.refl w⟩
  by_cases h2 : c < 0
  · go_enter Try.func5, Try.ntmps5
    go_wp2
    go_ret
    exact ⟨rfl, Bel.refl w⟩
  by_cases h3 : 250 < c
  · go_enter Try.func5, Try.ntmps5
    go_wp2
    go_ret
    exact ⟨rfl, Bel.refl w⟩
  exact fnKnown_in l c w (by omega) (by omega) (by omega) (by omega)
end Go.Proofs.Ytbekmpmfkblgnaa
