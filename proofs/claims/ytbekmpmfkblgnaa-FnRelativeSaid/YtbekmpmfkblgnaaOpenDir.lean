/- What a directive, handed over by value, is. -/
import Derived.Test.YtbekmpmfkblgnaaOpenPlace
import Derived.Test.YtbekmpmfkblgnaaRel2
namespace Go.Proofs.Ytbekmpmfkblgnaa
open Go.ChangeShapes Go.WideShapes Go.ChangeAt Go.RowKit Go.Deep Go.Joins

set_option maxRecDepth 100000
section
variable {H : Type} {enc : TypeId × Value → H} {W : World}

theorem cell_str {n : Nat} {t : TypeId} {v : Value} (ht : Try.prog.underlying t = some .string) (h : ∃ y, DataW.trod enc Try.prog W 0 (fun _ => true) true n t [v] = some y) : ∃ s : ByteArray, v = .string s := by
  obtain ⟨y, h⟩ := h
  obtain ⟨s, e, _, _⟩ := DataW.trod_string ht h
  exact ⟨s, by simpa using e⟩
set_option maxRecDepth 100000 in
theorem arg_dir {b0 : Nat} {r : Reach} {v : Value} {d : DataW H} {ps : List MemPlace} (hval : Value.okWide Try.prog W r b0 34 v) (h : DataW.Trod enc Try.prog W 0 (fun _ => true) true 34 v d ps) :
    ∃ p : DirD, v = dirV p ∧ True := by
  obtain ⟨v0, v1, v2, v3, v4, n, rfl, g0, g1, g2, g3, g4⟩ := arg_five Try.underlying34 (by kernel_rfl) (by kernel_rfl) hval h
  obtain ⟨a0, rfl, _⟩ := cell_i64 Try.underlying2 g0
  obtain ⟨a1, rfl, _⟩ := cell_i64 Try.underlying2 g1
  obtain ⟨a2, rfl⟩ := cell_str Try.underlying9 g2
  obtain ⟨a3, rfl, _⟩ := cell_i64 Try.underlying2 g3
  obtain ⟨a4, rfl, _⟩ := cell_i64 Try.underlying2 g4
  exact ⟨⟨a0, a1, a2, a3, a4⟩, rfl, trivial⟩
end
end Go.Proofs.Ytbekmpmfkblgnaa
