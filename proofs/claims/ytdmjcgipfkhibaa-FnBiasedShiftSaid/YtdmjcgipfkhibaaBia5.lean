/- The walk of laws.between. -/
import Derived.Test.YtdmjcgipfkhibaaBia4
import Derived.Test.YtdmjcgipfkhibaaSpec7
namespace Go.Proofs.Ytdmjcgipfkhibaa
open Go.RowKit

/-- What between asks. -/
structure BetQ (f l : Int) (S : List Pl.StepD) : Prop where
  f0 : 0 ≤ f
  fl : f ≤ l
  l1 : l ≤ 1073741824
  n1 : l - f < 2000
  sl : S.length ≤ 500
  st : ∀ s ∈ S, StepB s

set_option maxHeartbeats 2000000 in
theorem between_any (f l : Int) (v : Value) (S : List Pl.StepD) (w : World) (h : StepS w v S) : Calls Try.prog 28 #[.int .i64 f, .int .i64 l, v] w (BoolPost w (BetQ f l S)) := by
  obtain ⟨a, c, rfl, hlc, hcm, hst⟩ := h
  have HS := Lib.hid hst; clear hst
  by_cases g0 : f < 0
  · go_enter Try.func28, Try.ntmps28
    go_wp2
    go_ret
    exact BoolPost.no (Bel.refl w)
  by_cases g1 : l < f
  · go_enter Try.func28, Try.ntmps28
    go_wp2
    go_ret
    exact BoolPost.no (Bel.refl w)
  by_cases g2 : 1073741824 < l
  · go_enter Try.func28, Try.ntmps28
    go_wp2
    go_ret
    exact BoolPost.no (Bel.refl w)
  by_cases g3 : 2000 ≤ l - f
  · go_enter Try.func28, Try.ntmps28
    go_wp2
    go_ret
    exact BoolPost.no (Bel.refl w)
  by_cases g4 : 500 < S.length
  · go_enter Try.func28, Try.ntmps28
    go_wp2
    go_ret
    exact BoolPost.no (Bel.refl w)
  go_enter Try.func28, Try.ntmps28
  go_wp2
  go_loopw [33] (fun i wr => ∃ j : Nat, j ≤ S.length ∧ i = .int .i64 j ∧ (∀ s ∈ S.take j, StepB s) ∧ Bel w wr) (fun i _ => S.length - (intOf i).toNat)
  case atStart => exact ⟨0, Nat.zero_le _, rfl, by simp, Bel.refl w⟩
  case round =>
    obtain ⟨j, hj, rfl, hall, hbel⟩ := hrel
    have HA := Lib.hid hall; clear hall
    by_cases hlt : j < S.length
    · obtain ⟨b, o, rfl, hcell⟩ := HS.out (by omega)
      obtain ⟨s, hs⟩ : ∃ s, S[j]? = some s := ⟨_, List.getElem?_eq_getElem hlt⟩
      obtain ⟨sk, c0, c1, c2, c3, hk⟩ := hcell j s hs
      have d0 := hbel.cell c0
      have d1 := hbel.cell c1
      have d2 := hbel.cell c2
      have d3 := hbel.cell c3
      have HN : Hid (StepB s → ∀ s' ∈ S.take (j + 1), StepB s') := Lib.hid (fun hb s' hs' => by
        rw [List.take_add_one, hs] at hs'
        rcases List.mem_append.1 hs' with hs' | hs'
        · exact HA.out s' hs'
        · simp at hs'; subst hs'; exact hb)
      obtain ⟨ka, kc, rfl, _, _, _⟩ := hk
      clear hcell c0 c1 c2 c3 hs
      by_cases k0 : s.key < 0
      · go_wp2
        go_ret
        exact BoolPost.no (hbel.alloc _)
      by_cases k1 : 1099511627776 < s.key
      · go_wp2
        go_ret
        exact BoolPost.no (hbel.alloc _)
      by_cases v0 : s.val < -2147483648
      · go_wp2
        go_ret
        exact BoolPost.no (hbel.alloc _)
      by_cases v1 : 2147483648 ≤ s.val
      · go_wp2
        go_ret
        exact BoolPost.no (hbel.alloc _)
      go_wp2
      go_roundw
      case rel => exact ⟨j + 1, by omega, by go_num, HN.out ⟨⟨by omega, by omega⟩, ⟨by omega, by omega⟩⟩, hbel.alloc _⟩
      case measure => simp [intOf]; omega
    · go_wp2
      go_ret
      have := HA.out
      rw [List.take_of_length_le (by omega)] at this
      exact BoolPost.yes ⟨by omega, by omega, by omega, by omega, by omega, this⟩ hbel
end Go.Proofs.Ytdmjcgipfkhibaa
