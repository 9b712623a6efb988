/- What a place, handed over by value, is. -/
import Derived.Test.YtbekmpmfkblgnaaOpen
import Derived.Test.YtbekmpmfkblgnaaPos6
import Derived.Lib.SmallJoins
namespace Go.Proofs.Ytbekmpmfkblgnaa
open Go.ChangeShapes Go.WideShapes Go.ChangeAt Go.RowKit Go.Deep Go.Joins

set_option maxRecDepth 100000
section
variable {H : Type} {enc : TypeId × Value → H} {W : World}

/-- A struct of five fields of one cell each, by value. -/
theorem arg_five {b0 : Nat} {r : Reach} {t : TypeId} {f0 f1 f2 f3 f4 : Field} {v : Value} {d : DataW H} {ps : List MemPlace} (hs : Try.prog.underlying t = some (.struct #[f0, f1, f2, f3, f4])) (h1 : oneCellFields Try.prog #[f0, f1, f2, f3, f4] = true)
    (h5 : Try.prog.cellsOf t = 5) (hval : Value.okWide Try.prog W r b0 t v) (h : DataW.Trod enc Try.prog W 0 (fun _ => true) true t v d ps) :
    ∃ (v0 v1 v2 v3 v4 : Value) (n : Nat), v = .agg #[v0, v1, v2, v3, v4] ∧ (∃ y, DataW.trod enc Try.prog W 0 (fun _ => true) true n f0.type [v0] = some y) ∧ (∃ y, DataW.trod enc Try.prog W 0 (fun _ => true) true n f1.type [v1] = some y) ∧
      (∃ y, DataW.trod enc Try.prog W 0 (fun _ => true) true n f2.type [v2] = some y) ∧ (∃ y, DataW.trod enc Try.prog W 0 (fun _ => true) true n f3.type [v3] = some y) ∧ ∃ y, DataW.trod enc Try.prog W 0 (fun _ => true) true n f4.type [v4] = some y := by
  obtain ⟨⟨cs⟩, rfl, hsz⟩ := okWide_struct hs hval
  match cs, hsz.trans h5 with
  | [c0, c1, c2, c3, c4], _ =>
    obtain ⟨fuel, hf⟩ := h
    obtain ⟨xs, n, _, _, _, hlen, hg⟩ := DataW.trod_struct hs hf
    match xs, hlen with
    | [y0, y1, y2, y3, y4], _ =>
      have one : ∀ (j : Nat) (f : Field), (#[f0, f1, f2, f3, f4] : Array Field)[j]? = some f → f.offset = j ∧ Try.prog.cellsOf f.type = 1 := hone_of h1
      obtain ⟨o0, k0⟩ := one 0 f0 rfl
      obtain ⟨o1, k1⟩ := one 1 f1 rfl
      obtain ⟨o2, k2⟩ := one 2 f2 rfl
      obtain ⟨o3, k3⟩ := one 3 f3 rfl
      obtain ⟨o4, k4⟩ := one 4 f4 rfl
      exact ⟨c0, c1, c2, c3, c4, n, rfl, ⟨y0, by simpa [Value.cells, o0, k0] using hg 0 f0 rfl⟩, ⟨y1, by simpa [Value.cells, o1, k1] using hg 1 f1 rfl⟩, ⟨y2, by simpa [Value.cells, o2, k2] using hg 2 f2 rfl⟩,
        ⟨y3, by simpa [Value.cells, o3, k3] using hg 3 f3 rfl⟩, ⟨y4, by simpa [Value.cells, o4, k4] using hg 4 f4 rfl⟩⟩

set_option maxRecDepth 100000 in
theorem cell_i64 {n : Nat} {t : TypeId} {v : Value} (ht : Try.prog.underlying t = some (.int .i64)) (h : ∃ y, DataW.trod enc Try.prog W 0 (fun _ => true) true n t [v] = some y) : ∃ a : Int, v = .int .i64 a ∧ -9223372036854775808 ≤ a ∧ a ≤ 9223372036854775807 := by
  obtain ⟨y, h⟩ := h
  obtain ⟨a, e, _, wa⟩ := DataW.trod_int ht h
  exact ⟨a, by simpa using e, bounds_i64 wa⟩

set_option maxRecDepth 100000 in
theorem arg_place {b0 : Nat} {r : Reach} {v : Value} {d : DataW H} {ps : List MemPlace} (hval : Value.okWide Try.prog W r b0 23 v) (h : DataW.Trod enc Try.prog W 0 (fun _ => true) true 23 v d ps) :
    ∃ p : PlaceD, v = placeV p ∧ PlaceIn p := by
  obtain ⟨v0, v1, v2, v3, v4, n, rfl, g0, g1, g2, g3, g4⟩ := arg_five Try.underlying23 (by kernel_rfl) (by kernel_rfl) hval h
  obtain ⟨a0, rfl, b0⟩ := cell_i64 Try.underlying2 g0
  obtain ⟨a1, rfl, b1⟩ := cell_i64 Try.underlying2 g1
  obtain ⟨a2, rfl, b2⟩ := cell_i64 Try.underlying2 g2
  obtain ⟨a3, rfl, b3⟩ := cell_i64 Try.underlying2 g3
  obtain ⟨a4, rfl, b4⟩ := cell_i64 Try.underlying2 g4
  exact ⟨⟨a0, a1, a2, a3, a4⟩, rfl, b0, b1, b2, b3, b4⟩
end
end Go.Proofs.Ytbekmpmfkblgnaa
