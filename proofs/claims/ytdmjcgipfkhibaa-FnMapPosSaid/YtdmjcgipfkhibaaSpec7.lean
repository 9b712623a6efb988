/- The walks of zzFits1, spec.Fits, laws.fits. -/
import Derived.Test.YtdmjcgipfkhibaaSet4
namespace Go.Proofs.Ytdmjcgipfkhibaa
open Go.RowKit

/-- Some Boolean is returned, and true only if P. -/
def BoolPost (w : World) (P : Prop) (e : Ending) (w' : World) : Prop := ∃ b, e = .returned (.bool b) ∧ (b = true → P) ∧ Bel w w'
theorem BoolPost.no {w w' : World} {P : Prop} (h : Bel w w') : BoolPost w P (.returned (.bool false)) w' := ⟨false, rfl, (fun h => by cases h), h⟩
theorem BoolPost.yes {w w' : World} {P : Prop} (hP : P) (h : Bel w w') : BoolPost w P (.returned (.bool true)) w' := ⟨true, rfl, fun _ => hP, h⟩

theorem zzFits2_any (s0 s1 s2 : Int) (sl : Value) (l : List Int) (w : World) (h : IntS w sl l) : Calls Try.prog 33 #[.agg #[.int .i64 s0, .int .i64 s1, .int .i64 s2, sl]] w (BoolPost w True) := by
  obtain ⟨a, c, rfl, _, _, _⟩ := h
  by_cases hl : 2147483647 < l.length
  · go_enter Try.func33, Try.ntmps33
    go_wp2
    go_ret
    exact BoolPost.no ((Bel.refl w).alloc _)
  · go_enter Try.func33, Try.ntmps33
    go_wp2
    go_ret
    exact BoolPost.yes trivial ((Bel.refl w).alloc _)

set_option maxHeartbeats 1000000 in
theorem zzFits1_any (v : Value) (S : List Pl.StepD) (w : World) (h : StepS w v S) : Calls Try.prog 13 #[v] w (BoolPost w (S.length ≤ 2147483647)) := by
  obtain ⟨a, c, rfl, hlc, hcm, hst⟩ := h
  have HS := Lib.hid hst; clear hst
  by_cases hl : 2147483647 < S.length
  · go_enter Try.func13, Try.ntmps13
    go_wp2
    go_ret
    exact BoolPost.no (Bel.refl w)
  go_enter Try.func13, Try.ntmps13
  go_wp2
  go_loopw [10] (fun i wr => ∃ j : Nat, j ≤ S.length ∧ i = .int .i64 j ∧ Bel w wr) (fun i _ => S.length - (intOf i).toNat)
  case atStart => exact ⟨0, Nat.zero_le _, rfl, Bel.refl w⟩
  case round =>
    obtain ⟨j, hj, rfl, hbel⟩ := hrel
    by_cases hlt : j < S.length
    · obtain ⟨b, o, rfl, hcell⟩ := HS.out (by omega)
      obtain ⟨s, hs⟩ : ∃ s, S[j]? = some s := ⟨_, List.getElem?_eq_getElem hlt⟩
      obtain ⟨sk, c0, c1, c2, c3, hk⟩ := hcell j s hs
      have d0 := hbel.cell c0
      have d1 := hbel.cell c1
      have d2 := hbel.cell c2
      have d3 := hbel.cell c3
      have HK := Lib.hid (hk.bel hbel)
      obtain ⟨ka, kc, rfl, _, _, _⟩ := hk
      clear hcell c0 c1 c2 c3 hs
      go_wp2_with fail
      refine (zzFits2_any _ _ _ _ _ _ (HK.out.bel ((Bel.refl wr).alloc _))).mono ?_
      rintro e w1 ⟨b1, rfl, _, hb1⟩
      have hb2 := (hbel.alloc _).trans hb1
      clear hb1
      cases b1
      · go_wp2
        go_ret
        exact BoolPost.no hb2
      · go_wp2
        go_roundw
        case rel => exact ⟨j + 1, by omega, by go_num, hb2⟩
        case measure => simp [intOf]; omega
    · go_wp2
      go_ret
      exact BoolPost.yes (by omega) hbel

/-- What Fits asks. -/
def FitP (n : Int) (S : List Pl.StepD) : Prop := ∀ s ∈ S, (0 ≤ s.key ∧ s.key < n) ∧ (-2147483648 ≤ s.val ∧ s.val < 2147483648) ∧ ∀ x ∈ s.list, 0 ≤ x ∧ x < n

set_option maxHeartbeats 2000000 in
theorem specFits_any (n : Int) (v : Value) (S : List Pl.StepD) (w : World) (h : StepS w v S) (hS : S.length ≤ 1000) (hL : ∀ s ∈ S, s.list.length ≤ 1000) : Calls Try.prog 34 #[.int .i64 n, v] w (BoolPost w (FitP n S)) := by
  obtain ⟨a, c, rfl, hlc, hcm, hst⟩ := h
  have HS := Lib.hid hst; clear hst
  have HL := Lib.hid hL; clear hL
  go_enter Try.func34, Try.ntmps34
  go_wp2
  go_loopw [11] (fun i wr => ∃ j : Nat, j ≤ S.length ∧ i = .int .i64 j ∧ FitP n (S.take j) ∧ Bel w wr) (fun i _ => S.length - (intOf i).toNat)
  case atStart => exact ⟨0, Nat.zero_le _, rfl, by intro s hs; simp at hs, Bel.refl w⟩
  case round =>
    obtain ⟨j, hj, rfl, hf, hbel⟩ := hrel
    have HF := Lib.hid hf; clear hf
    by_cases hlt : j < S.length
    · obtain ⟨b, o, rfl, hcell⟩ := HS.out (by omega)
      obtain ⟨s, hs⟩ : ∃ s, S[j]? = some s := ⟨_, List.getElem?_eq_getElem hlt⟩
      obtain ⟨sk, c0, c1, c2, c3, hk⟩ := hcell j s hs
      have d0 := hbel.cell c0
      have d1 := hbel.cell c1
      have d2 := hbel.cell c2
      have d3 := hbel.cell c3
      have HN : Hid (∀ P : Prop, (∀ x ∈ s.list, 0 ≤ x ∧ x < n) → (0 ≤ s.key ∧ s.key < n) → (-2147483648 ≤ s.val ∧ s.val < 2147483648) → (FitP n (S.take (j + 1)) → P) → P) := Lib.hid (fun P h1 h2 h3 hP => hP (fun s' hs' => by
        rw [List.take_add_one, hs] at hs'
        rcases List.mem_append.1 hs' with h | h
        · exact HF.out s' h
        · simp at h; subst h; exact ⟨h2, h3, h1⟩))
      have hll := HL.out s (List.mem_of_getElem? hs)
      obtain ⟨ka, kc, rfl, _, _, hki⟩ := hk
      have HKI := Lib.hid (hki.bel hbel)
      clear hcell c0 c1 c2 c3 hs hki
      by_cases h0 : s.key < 0
      · go_wp2
        go_ret
        exact BoolPost.no (hbel.alloc _)
      by_cases h1 : n ≤ s.key
      · go_wp2
        go_ret
        exact BoolPost.no (hbel.alloc _)
      by_cases h2 : s.val < -2147483648
      · go_wp2
        go_ret
        exact BoolPost.no (hbel.alloc _)
      by_cases h3 : 2147483648 ≤ s.val
      · go_wp2
        go_ret
        exact BoolPost.no (hbel.alloc _)
      go_wp2
      go_loop [37] (fun i => ∃ k : Nat, k ≤ s.list.length ∧ i = .int .i64 k ∧ ∀ x ∈ s.list.take k, 0 ≤ x ∧ x < n) (fun i => s.list.length - (intOf i).toNat)
      case atStart => exact ⟨0, Nat.zero_le _, rfl, by simp⟩
      case round =>
        obtain ⟨k, hk, rfl, hx⟩ := hrel
        have HX := Lib.hid hx; clear hx
        by_cases hlt2 : k < s.list.length
        · obtain ⟨b2, o2, rfl, hgd⟩ := HKI.out (by omega)
          obtain ⟨x, he⟩ : ∃ e, s.list[k]? = some e := ⟨_, List.getElem?_eq_getElem hlt2⟩
          have hcx := hgd k _ he
          have hbl : b2 < wr.heap.size := World.block_lt_of_cell? wr _ hcx
          have HE : Hid (s.list.take (k + 1) = s.list.take k ++ [x]) := Lib.hid (by rw [List.take_add_one, he]; rfl)
          clear hgd he
          by_cases hx0 : x < 0
          · go_wp2
            go_ret
            exact BoolPost.no (hbel.alloc _)
          by_cases hx1 : n ≤ x
          · go_wp2
            go_ret
            exact BoolPost.no (hbel.alloc _)
          go_wp2
          go_round
          case rel => exact ⟨k + 1, by omega, by go_num, by rw [HE.out]; intro y hy; rcases List.mem_append.1 hy with hy | hy; exact HX.out y hy; simp at hy; subst hy; omega⟩
          case measure => simp [intOf]; omega
        · have HX2 : Hid (∀ x ∈ s.list, 0 ≤ x ∧ x < n) := Lib.hid (by have := HX.out; rwa [List.take_of_length_le (by omega)] at this)
          go_wp2
          go_roundw
          case rel => exact ⟨j + 1, by omega, by go_num, HN.out _ HX2.out ⟨by omega, by omega⟩ ⟨by omega, by omega⟩ id, hbel.alloc _⟩
          case measure => simp [intOf]; omega
    · go_wp2
      go_ret
      have := HF.out
      rw [List.take_of_length_le (by omega)] at this
      exact BoolPost.yes this hbel

/-- What fits asks. -/
structure FitQ (n : Int) (S : List Pl.StepD) : Prop where
  n1 : 1 ≤ n
  n2 : n ≤ 2000
  sl : S.length ≤ 500
  ll : ∀ s ∈ S, s.list.length ≤ 500
  ft : FitP n S

set_option maxHeartbeats 2000000 in
theorem fits_any (n : Int) (v : Value) (S : List Pl.StepD) (w : World) (h : StepS w v S) : Calls Try.prog 14 #[.int .i64 n, v] w (BoolPost w (FitQ n S)) := by
  have HH := Lib.hid h
  obtain ⟨a, c, rfl, hlc, hcm, hst⟩ := h
  have HS := Lib.hid hst; clear hst
  by_cases h1 : n < 1
  · go_enter Try.func14, Try.ntmps14
    go_wp2
    go_ret
    exact BoolPost.no (Bel.refl w)
  by_cases h2 : 2000 < n
  · go_enter Try.func14, Try.ntmps14
    go_wp2
    go_ret
    exact BoolPost.no (Bel.refl w)
  by_cases h3 : 500 < S.length
  · go_enter Try.func14, Try.ntmps14
    go_wp2
    go_ret
    exact BoolPost.no (Bel.refl w)
  go_enter Try.func14, Try.ntmps14
  go_wp2
  go_loopw [20] (fun i wr => ∃ j : Nat, j ≤ S.length ∧ i = .int .i64 j ∧ (∀ s ∈ S.take j, s.list.length ≤ 500) ∧ Bel w wr) (fun i _ => S.length - (intOf i).toNat)
  case atStart => exact ⟨0, Nat.zero_le _, rfl, by simp, Bel.refl w⟩
  case round =>
    obtain ⟨j, hj, rfl, hf, hbel⟩ := hrel
    have HF := Lib.hid hf; clear hf
    by_cases hlt : j < S.length
    · obtain ⟨b, o, rfl, hcell⟩ := HS.out (by omega)
      obtain ⟨s, hs⟩ : ∃ s, S[j]? = some s := ⟨_, List.getElem?_eq_getElem hlt⟩
      obtain ⟨sk, c0, c1, c2, c3, hk⟩ := hcell j s hs
      have d0 := hbel.cell c0
      have d1 := hbel.cell c1
      have d2 := hbel.cell c2
      have d3 := hbel.cell c3
      obtain ⟨ka, kc, rfl, _, _, _⟩ := hk
      have HE : Hid (S.take (j + 1) = S.take j ++ [s]) := Lib.hid (by rw [List.take_add_one, hs]; rfl)
      clear hcell c0 c1 c2 c3 hs
      by_cases hll : 500 < s.list.length
      · go_wp2
        go_ret
        exact BoolPost.no (hbel.alloc _)
      · go_wp2
        go_roundw
        case rel => exact ⟨j + 1, by omega, by go_num, by rw [HE.out]; intro y hy; rcases List.mem_append.1 hy with hy | hy; exact HF.out y hy; simp at hy; subst hy; omega, hbel.alloc _⟩
        case measure => simp [intOf]; omega
    · have HL : Hid (∀ s ∈ S, s.list.length ≤ 500) := Lib.hid (by have := HF.out; rwa [List.take_of_length_le (by omega)] at this)
      go_wp2_with fail
      refine (specFits_any n _ S _ (HH.out.bel hbel) (by omega) (fun s hs => by have := HL.out s hs; omega)).mono ?_
      rintro e w1 ⟨b1, rfl, hP, hb1⟩
      have HP := Lib.hid hP; clear hP
      go_wp2
      go_ret
      exact ⟨b1, rfl, fun hb => ⟨by omega, by omega, by omega, HL.out, HP.out hb⟩, hbel.trans hb1⟩
end Go.Proofs.Ytdmjcgipfkhibaa
