/- What a slice of numbers, and a slice of steps, handed over, are. -/
import Derived.Test.YtlagnbiokhnhlaaOpen
import Derived.Test.YtlagnbiokhnhlaaSet4
import Derived.Lib.SmallJoins
namespace Go.Proofs.Ytlagnbiokhnhlaa
open Go.ChangeShapes Go.WideShapes Go.ChangeAt Go.RowKit Go.Deep Go.Joins

set_option maxRecDepth 100000
section
variable {H : Type} {enc : TypeId × Value → H} {W : World}

theorem ints_trod {n : Nat} {v : Value} (h : ∃ y, DataW.trod enc Try.prog W 0 (fun _ => true) true n 22 [v] = some y) : ∃ l : List Int, IntS W v l := by
  obtain ⟨y, h⟩ := h
  rcases open_ints Try.underlying22 Try.underlying2 (by kernel_rfl) h with ⟨hcs, _⟩ | ⟨a, len, cap, zs, hcs, _, hl, hm, hz, _, hcell, _⟩
  · simp at hcs
    subst hcs
    exact ⟨[], IntS.nil W⟩
  · simp at hcs
    subst hcs
    simp only [if_true] at hz
    refine ⟨zs.take len, a, cap, by rw [List.length_take, hz, Nat.min_eq_left hl], by rw [List.length_take]; omega, hm, fun h0 => ?_⟩
    rw [List.length_take] at h0
    obtain ⟨b, o, rfl, hc⟩ := ints_at hcell (by omega)
    refine ⟨b, o, rfl, fun i x hx => ?_⟩
    have hi := (List.getElem?_eq_some_iff.1 hx).1
    rw [List.length_take] at hi
    rw [hc i (by omega)]
    rw [List.getElem?_take, if_pos (by omega)] at hx
    rw [List.getD_eq_getElem?_getD, hx]; rfl

theorem arg_ints {b0 : Nat} {r : Reach} {v : Value} {d : DataW H} {ps : List MemPlace} (hval : Value.okWide Try.prog W r b0 22 v) (h : DataW.Trod enc Try.prog W 0 (fun _ => true) true 22 v d ps) : ∃ l : List Int, IntS W v l := by
  obtain ⟨a, len, cap, rfl, _⟩ := okWide_slice Try.underlying22 hval
  obtain ⟨fuel, hf⟩ := h
  exact ints_trod ⟨_, hf⟩
end
end Go.Proofs.Ytlagnbiokhnhlaa
