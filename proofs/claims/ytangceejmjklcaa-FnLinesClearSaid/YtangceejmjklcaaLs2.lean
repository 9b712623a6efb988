/- laws.known: the bounds of ranges and steps. -/
import Derived.Test.YtangceejmjklcaaLs1
namespace Go.Proofs.Ytangceejmjklcaa
open Go.RowKit Go.BigFrame

/-- Some Boolean is returned, and true only if P. -/
def BoolPost (w : World) (P : Prop) (e : Ending) (w' : World) : Prop := ∃ b, e = .returned (.bool b) ∧ (b = true → P) ∧ Bel w w'
theorem BoolPost.no {w w' : World} {P : Prop} (h : Bel w w') : BoolPost w P (.returned (.bool false)) w' := ⟨false, rfl, (fun h => by cases h), h⟩
theorem BoolPost.yes {w w' : World} {P : Prop} (hP : P) (h : Bel w w') : BoolPost w P (.returned (.bool true)) w' := ⟨true, rfl, fun _ => hP, h⟩
/-- What known asks. -/
structure KnownQ (R : List Pl.Ent) (S : List Pl.LStep) : Prop where
  nr : R.length ≤ 20
  ns : S.length ≤ 500
  ro : RngOk R
  so : ∀ s ∈ S, StepK R.length s ∧ s.kind ≠ 8

set_option maxRecDepth 100000 in
set_option maxHeartbeats 4000000 in
theorem known_any (a1 : Option Addr) (n1 c1 : Nat) (R : List Pl.Ent) (a2 : Option Addr) (n2 c2 : Nat) (S : List Pl.LStep) (w : World) (hR : Ents w a1 n1 R) (hS : LSt w a2 n2 S) :
    Calls Try.prog 8 #[.slice a1 n1 c1, .slice a2 n2 c2] w (BoolPost w (KnownQ R S)) := by
  by_cases h1 : 20 < n1
  · go_enter Try.func8, Try.ntmps8
    go_wp2
    go_ret
    exact BoolPost.no (Bel.refl w)
  by_cases h2 : 500 < n2
  · go_enter Try.func8, Try.ntmps8
    go_wp2
    go_ret
    exact BoolPost.no (Bel.refl w)
  have HR := Lib.hid hR; clear hR
  have HS := Lib.hid hS; clear hS
  go_enter Try.func8, Try.ntmps8
  go_wp2
  go_loopw [19] (fun i wr => ∃ j : Nat, j ≤ n1 ∧ i = .int .i64 j ∧ RngOk (R.take j) ∧ Bel w wr) (fun i _ => n1 - (intOf i).toNat)
  case atStart => exact ⟨0, Nat.zero_le _, rfl, by intro s hs; simp at hs, Bel.refl w⟩
  case round =>
    obtain ⟨j, hj, rfl, hok, hbel⟩ := hrel
    have HOK := Lib.hid hok; clear hok
    by_cases hlt : j < n1
    · obtain ⟨b, o, rfl, hcell⟩ := HR.out.2 (by omega)
      obtain ⟨e, he⟩ : ∃ e, R[j]? = some e := ⟨_, List.getElem?_eq_getElem (by rw [HR.out.1]; exact hlt)⟩
      obtain ⟨c0, c1⟩ := hcell j e he
      have d0 := hbel.cell c0
      have d1 := hbel.cell c1
      have HE : Hid (R.take (j + 1) = R.take j ++ [e]) := Lib.hid (by rw [List.take_add_one, he]; rfl)
      clear hcell c0 c1 he
      obtain ⟨f, l⟩ := e
      simp only at d0 d1
      by_cases g1 : f < 1
      · go_wp2
        go_ret
        exact BoolPost.no (hbel.alloc _)
      by_cases g2 : l < f
      · go_wp2
        go_ret
        exact BoolPost.no (hbel.alloc _)
      by_cases g3 : 1000000 < l
      · go_wp2
        go_ret
        exact BoolPost.no (hbel.alloc _)
      have iw : IntKind.i64.wrap (l - f) = l - f := IntWalk.i64_in _ (by omega)
      by_cases g4 : 2000 ≤ l - f
      · go_wp2
        go_ret
        exact BoolPost.no (hbel.alloc _)
      go_wp2
      go_roundw
      case rel => exact ⟨j + 1, by omega, by go_num, by rw [HE.out]; intro y hy; rcases List.mem_append.1 hy with hy | hy; exact HOK.out y hy; simp at hy; subst hy; exact ⟨by omega, by omega, by omega, by omega⟩, hbel.alloc _⟩
      case measure => simp [intOf]; omega
    · have HRK : Hid (RngOk R) := Lib.hid (by have := HOK.out; rwa [List.take_of_length_le (by rw [HR.out.1]; omega)] at this)
      clear HOK
      go_wp2
      go_loopw [49] (fun i wr => ∃ j : Nat, j ≤ n2 ∧ i = .int .i64 j ∧ (∀ s ∈ S.take j, StepK n1 s ∧ s.kind ≠ 8) ∧ Bel w wr) (fun i _ => n2 - (intOf i).toNat)
      case atStart => exact ⟨0, Nat.zero_le _, rfl, by intro s hs; simp at hs, hbel⟩
      case round =>
        clear hbel
        obtain ⟨j, hj, rfl, hok, hbel⟩ := hrel
        have HOK := Lib.hid hok; clear hok
        by_cases hlt : j < n2
        · obtain ⟨b, o, rfl, hcell⟩ := HS.out.2 (by omega)
          obtain ⟨s, hs⟩ : ∃ e, S[j]? = some e := ⟨_, List.getElem?_eq_getElem (by rw [HS.out.1]; exact hlt)⟩
          obtain ⟨c0, c1, c2, c3, c4⟩ := hcell j s hs
          have d0 := hbel.cell c0
          have d1 := hbel.cell c1
          have d2 := hbel.cell c2
          have d3 := hbel.cell c3
          have d4 := hbel.cell c4
          have HE : Hid (S.take (j + 1) = S.take j ++ [s]) := Lib.hid (by rw [List.take_add_one, hs]; rfl)
          clear hcell c0 c1 c2 c3 c4 hs
          obtain ⟨kd, fl, ln, co, va⟩ := s
          simp only at d0 d1 d2 d3 d4
          by_cases g1 : fl < 0
          · go_wp2
            go_ret
            exact BoolPost.no (hbel.alloc _)
          by_cases g2 : (n1 : Int) ≤ fl
          · go_wp2
            go_ret
            exact BoolPost.no (hbel.alloc _)
          by_cases g3 : ln < 1
          · go_wp2
            go_ret
            exact BoolPost.no (hbel.alloc _)
          by_cases g4 : 1000000 < ln
          · go_wp2
            go_ret
            exact BoolPost.no (hbel.alloc _)
          by_cases g5 : co < 1
          · go_wp2
            go_ret
            exact BoolPost.no (hbel.alloc _)
          by_cases g6 : 250 < co
          · go_wp2
            go_ret
            exact BoolPost.no (hbel.alloc _)
          by_cases g7 : va < -2147483648
          · go_wp2
            go_ret
            exact BoolPost.no (hbel.alloc _)
          by_cases g8 : 2147483648 ≤ va
          · go_wp2
            go_ret
            exact BoolPost.no (hbel.alloc _)
          by_cases g9 : kd = 8
          · have e9 : (kd == 8) = true := by simp [g9]
            clear g9
            go_wp2
            go_ret
            exact BoolPost.no (hbel.alloc _)
          have e9 : (kd == 8) = false := by simp [g9]
          have HST : Hid (StepK n1 ⟨kd, fl, ln, co, va⟩ ∧ kd ≠ 8) := Lib.hid ⟨⟨by simp only; omega, by simp only; omega, by simp only; omega, by simp only; omega, by simp only; omega, by simp only; omega, by unfold Val32; simp only; omega⟩, g9⟩
          clear g9
          go_wp2
          go_roundw
          case rel => exact ⟨j + 1, by omega, by go_num, by rw [HE.out]; intro y hy; rcases List.mem_append.1 hy with hy | hy; exact HOK.out y hy; simp at hy; subst hy; exact HST.out, hbel.alloc _⟩
          case measure => simp [intOf]; omega
        · have HSK : Hid (∀ s ∈ S, StepK n1 s ∧ s.kind ≠ 8) := Lib.hid (by have := HOK.out; rwa [List.take_of_length_le (by rw [HS.out.1]; omega)] at this)
          clear HOK
          go_wp2
          go_ret
          exact BoolPost.yes ⟨by rw [HR.out.1]; omega, by rw [HS.out.1]; omega, HRK.out, by rw [HR.out.1]; exact HSK.out⟩ hbel
end Go.Proofs.Ytangceejmjklcaa
