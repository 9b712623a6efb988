/- The laws' bounds of a position. -/
import Derived.Test.YtbekmpmfkblgnaaDoorPos5
namespace Go.Proofs.YtbekmpmfkblgnaaDoor
open Go.RowKit

/-- A place: its file, line, column and marks. -/
structure PlaceD where
  file : Int
  line : Int
  col : Int
  stmt : Int
  logue : Int

abbrev placeV (p : PlaceD) : Value := .agg #[.int .i64 p.file, .int .i64 p.line, .int .i64 p.col, .int .i64 p.stmt, .int .i64 p.logue]

/-- Each part is a number of 64 bits. -/
def PlaceIn (p : PlaceD) : Prop := (-9223372036854775808 ≤ p.file ∧ p.file ≤ 9223372036854775807) ∧ (-9223372036854775808 ≤ p.line ∧ p.line ≤ 9223372036854775807) ∧ (-9223372036854775808 ≤ p.col ∧ p.col ≤ 9223372036854775807) ∧ (-9223372036854775808 ≤ p.stmt ∧ p.stmt ≤ 9223372036854775807) ∧ (-9223372036854775808 ≤ p.logue ∧ p.logue ≤ 9223372036854775807)

def placedB (p : PlaceD) (n : Int) : Bool := decide (0 ≤ p.file ∧ p.file < n ∧ 1 ≤ p.line ∧ p.line ≤ 1000000 ∧ 1 ≤ p.col ∧ p.col ≤ 250)

theorem placedB_true {p : PlaceD} {n : Int} (h : placedB p n = true) : 0 ≤ p.file ∧ p.file < n ∧ 1 ≤ p.line ∧ p.line ≤ 1000000 ∧ 1 ≤ p.col ∧ p.col ≤ 250 := by simpa [placedB] using h
theorem ret_bool {a b : Bool} (h : a = b) : Ending.returned (.bool a) = .returned (.bool b) := by rw [h]

set_option maxHeartbeats 1000000 in
theorem placed_any (p : PlaceD) (n : Int) (w : World) :
    Calls Tryd.prog 4 #[placeV p, .int .i64 n] w fun e w' => e = .returned (.bool (placedB p n)) ∧ Bel w w' := by
  obtain ⟨file, line, col, stmt, logue⟩ := p
  by_cases h1 : 0 ≤ file
  · by_cases h2 : file < n
    · by_cases h3 : 1 ≤ line
      · by_cases h4 : line ≤ 1000000
        · by_cases h5 : 1 ≤ col
          · by_cases h6 : col ≤ 250
            · have hb : placedB ⟨file, line, col, stmt, logue⟩ n = true := by simp [placedB, h1, h2, h3, h4, h5, h6]
              rw [hb]; clear hb
              go_enter Tryd.func4, Tryd.ntmps4
              go_wp2
              go_ret
              exact ⟨rfl, (Bel.refl _).alloc _⟩
            · have hb : placedB ⟨file, line, col, stmt, logue⟩ n = false := by simp [placedB, h6]
              rw [hb]; clear hb
              go_enter Tryd.func4, Tryd.ntmps4
              go_wp2
              go_ret
              exact ⟨rfl, (Bel.refl _).alloc _⟩
          · have hb : placedB ⟨file, line, col, stmt, logue⟩ n = false := by simp [placedB, h5]
            rw [hb]; clear hb
            go_enter Tryd.func4, Tryd.ntmps4
            go_wp2
            go_ret
            exact ⟨rfl, (Bel.refl _).alloc _⟩
        · have hb : placedB ⟨file, line, col, stmt, logue⟩ n = false := by simp [placedB, h4]
          rw [hb]; clear hb
          go_enter Tryd.func4, Tryd.ntmps4
          go_wp2
          go_ret
          exact ⟨rfl, (Bel.refl _).alloc _⟩
      · have hb : placedB ⟨file, line, col, stmt, logue⟩ n = false := by simp [placedB, h3]
        rw [hb]; clear hb
        go_enter Tryd.func4, Tryd.ntmps4
        go_wp2
        go_ret
        exact ⟨rfl, (Bel.refl _).alloc _⟩
    · have hb : placedB ⟨file, line, col, stmt, logue⟩ n = false := by simp [placedB, h2]
      rw [hb]; clear hb
      go_enter Tryd.func4, Tryd.ntmps4
      go_wp2
      go_ret
      exact ⟨rfl, (Bel.refl _).alloc _⟩
  · have hb : placedB ⟨file, line, col, stmt, logue⟩ n = false := by simp [placedB, h1]
    rw [hb]; clear hb
    go_enter Tryd.func4, Tryd.ntmps4
    go_wp2
    go_ret
    exact ⟨rfl, (Bel.refl _).alloc _⟩

end Go.Proofs.YtbekmpmfkblgnaaDoor
