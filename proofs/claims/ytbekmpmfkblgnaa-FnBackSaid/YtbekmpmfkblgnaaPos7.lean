/- Compact positions compared. -/
import Derived.Test.YtbekmpmfkblgnaaPos6
namespace Go.Proofs.Ytbekmpmfkblgnaa
open Go.RowKit Go.BigFrame

abbrev xposV (i l : Int) : Value := .agg #[.int .i32 i, .int .u32 l]

theorem xBefore_any (i l j m : Int) (w : World) :
    Calls Try.prog 47 #[xposV i l, xposV j m] w fun e w' => e = .returned (.bool (decide (i < j ∨ i = j ∧ l < m))) ∧ Bel w w' := by
  by_cases h1 : i < j
  · have hv : decide (i < j ∨ i = j ∧ l < m) = true := by simp [h1]
    rw [hv]; clear hv
    go_enter Try.func47, Try.ntmps47
    go_wp2
    go_quiet (fail)
    go_wp2
    go_ret
    exact ⟨ret_bool (by first | rfl | (simp; omega)), (((Bel.refl _).alloc _).alloc _).drewN _⟩
  · by_cases h2 : i = j
    · subst h2
      by_cases h3 : l < m
      · have hv : decide (i < i ∨ i = i ∧ l < m) = true := by simp [h3]
        rw [hv]; clear hv
        go_enter Try.func47, Try.ntmps47
        go_wp2
        go_quiet (fail)
        go_wp2
        go_ret
        exact ⟨ret_bool (by first | rfl | (simp; omega)), (((Bel.refl _).alloc _).alloc _).drewN _⟩
      · have hv : decide (i < i ∨ i = i ∧ l < m) = false := by simp [h3]
        rw [hv]; clear hv
        go_enter Try.func47, Try.ntmps47
        go_wp2
        go_quiet (fail)
        go_wp2
        go_ret
        exact ⟨ret_bool (by first | rfl | (simp; omega)), (((Bel.refl _).alloc _).alloc _).drewN _⟩
    · have hv : decide (i < j ∨ i = j ∧ l < m) = false := by simp [h1, h2]
      have h2b : (i == j) = false := by simpa using h2
      rw [hv]; clear hv
      go_enter Try.func47, Try.ntmps47
      go_wp2
      go_quiet (fail)
      go_wp2
      go_ret
      exact ⟨ret_bool (by first | rfl | (simp; omega)), (((Bel.refl _).alloc _).alloc _).drewN _⟩

theorem xAfter_any (i l j m : Int) (w : World) :
    Calls Try.prog 48 #[xposV i l, xposV j m] w fun e w' => e = .returned (.bool (decide (j < i ∨ i = j ∧ m < l))) ∧ Bel w w' := by
  by_cases h1 : j < i
  · have hv : decide (j < i ∨ i = j ∧ m < l) = true := by simp [h1]
    rw [hv]; clear hv
    go_enter Try.func48, Try.ntmps48
    go_wp2
    go_quiet (fail)
    go_wp2
    go_ret
    exact ⟨ret_bool (by first | rfl | (simp; omega)), (((Bel.refl _).alloc _).alloc _).drewN _⟩
  · by_cases h2 : i = j
    · subst h2
      by_cases h3 : m < l
      · have hv : decide (i < i ∨ i = i ∧ m < l) = true := by simp [h3]
        rw [hv]; clear hv
        go_enter Try.func48, Try.ntmps48
        go_wp2
        go_quiet (fail)
        go_wp2
        go_ret
        exact ⟨ret_bool (by first | rfl | (simp; omega)), (((Bel.refl _).alloc _).alloc _).drewN _⟩
      · have hv : decide (i < i ∨ i = i ∧ m < l) = false := by simp [h3]
        rw [hv]; clear hv
        go_enter Try.func48, Try.ntmps48
        go_wp2
        go_quiet (fail)
        go_wp2
        go_ret
        exact ⟨ret_bool (by first | rfl | (simp; omega)), (((Bel.refl _).alloc _).alloc _).drewN _⟩
    · have hv : decide (j < i ∨ i = j ∧ m < l) = false := by simp [h1, h2]
      have h2b : (i == j) = false := by simpa using h2
      rw [hv]; clear hv
      go_enter Try.func48, Try.ntmps48
      go_wp2
      go_quiet (fail)
      go_wp2
      go_ret
      exact ⟨ret_bool (by first | rfl | (simp; omega)), (((Bel.refl _).alloc _).alloc _).drewN _⟩

theorem xSameFile_any (i l j m : Int) (w : World) :
    Calls Try.prog 49 #[xposV i l, xposV j m] w fun e w' => e = .returned (.bool (decide (i = j))) ∧ Bel w w' := by
  go_enter Try.func49, Try.ntmps49
  go_wp2
  go_ret
  exact ⟨ret_bool (by rw [Bool.eq_iff_iff]; simp), ((Bel.refl _).alloc _).alloc _⟩

theorem sameLine_any (l m : Int) (w : World) (h0 : 0 ≤ l) (hl : l < 4294967296) (h1 : 0 ≤ m) (hm : m < 4294967296) :
    Calls Try.prog 61 #[.int .u32 l, .int .u32 m] w fun e w' => e = .returned (.bool (decide (l / 4096 = m / 4096))) ∧ w = w' := by
  have hb := bits_same l m h0 hl h1 hm
  have HB := Lib.hid hb; clear hb
  go_enter Try.func61, Try.ntmps61
  go_wp2
  go_ret
  exact ⟨ret_bool HB.out, rfl⟩

theorem xSameLine_any (i l j m : Int) (w : World) (h0 : 0 ≤ l) (hl : l < 4294967296) (h1 : 0 ≤ m) (hm : m < 4294967296) :
    Calls Try.prog 50 #[xposV i l, xposV j m] w fun e w' => e = .returned (.bool (decide (i = j ∧ l / 4096 = m / 4096))) ∧ Bel w w' := by
  by_cases h2 : i = j
  · subst h2
    go_enter Try.func50, Try.ntmps50
    go_wp2_with (go_at_call 61; refine (sameLine_any l m _ h0 hl h1 hm).mono ?_; rintro e w' ⟨rfl, rfl⟩)
    go_ret
    exact ⟨ret_bool (by simp), ((Bel.refl _).alloc _).alloc _⟩
  · have hv : decide (i = j ∧ l / 4096 = m / 4096) = false := by simp [h2]
    have h2b : (i == j) = false := by simpa using h2
    rw [hv]; clear hv
    go_enter Try.func50, Try.ntmps50
    go_wp2
    go_ret
    exact ⟨rfl, ((Bel.refl _).alloc _).alloc _⟩
end Go.Proofs.Ytbekmpmfkblgnaa
