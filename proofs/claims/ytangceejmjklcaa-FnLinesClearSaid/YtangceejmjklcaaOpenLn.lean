/- What slices of ranges and steps, and a step, handed over, are. -/
import Derived.Test.YtangceejmjklcaaOpen
import Derived.Test.YtangceejmjklcaaLn12
import Derived.Test.YtangceejmjklcaaLn9
import Derived.Test.YtangceejmjklcaaLsQ
import Derived.Lib.SmallJoins
import Derived.SliceStrings
namespace Go.Proofs.Ytangceejmjklcaa
open Go.ChangeShapes Go.WideShapes Go.ChangeAt Go.RowKit Go.Deep Go.Joins

set_option maxRecDepth 100000
section
variable {H : Type} {enc : TypeId × Value → H} {W : World}

instance lstepNonempty : Inhabited Pl.LStep := ⟨⟨0, 0, 0, 0, 0⟩⟩
theorem cell_i64'' {n : Nat} {t : TypeId} {v : Value} {y : DataW H × List MemPlace} (ht : Try.prog.underlying t = some (.int .i64)) (h : DataW.trod enc Try.prog W 0 (fun _ => true) true n t [v] = some y) : ∃ a : Int, v = .int .i64 a := by
  obtain ⟨a, e, _, _⟩ := DataW.trod_int ht h
  exact ⟨a, by simpa using e⟩
theorem fields2 {t : TypeId} {f0 f1 : Field} {n : Nat} {v0 v1 : Value} {y : DataW H × List MemPlace} (hs : Try.prog.underlying t = some (.struct #[f0, f1])) (h1 : oneCellFields Try.prog #[f0, f1] = true)
    (h : DataW.trod enc Try.prog W 0 (fun _ => true) true n t [v0, v1] = some y) :
    ∃ k, (∃ y, DataW.trod enc Try.prog W 0 (fun _ => true) true k f0.type [v0] = some y) ∧ ∃ y, DataW.trod enc Try.prog W 0 (fun _ => true) true k f1.type [v1] = some y := by
  obtain ⟨xs, k, _, _, _, hxl, hg⟩ := DataW.trod_struct hs h
  match xs, hxl with
  | [y0, y1], _ =>
    have one : ∀ (j : Nat) (f : Field), (#[f0, f1] : Array Field)[j]? = some f → f.offset = j ∧ Try.prog.cellsOf f.type = 1 := hone_of h1
    obtain ⟨o0, k0⟩ := one 0 f0 rfl
    obtain ⟨o1, k1⟩ := one 1 f1 rfl
    exact ⟨k, ⟨y0, by simpa [o0, k0] using hg 0 f0 rfl⟩, ⟨y1, by simpa [o1, k1] using hg 1 f1 rfl⟩⟩
theorem fields5 {t : TypeId} {f0 f1 f2 f3 f4 : Field} {n : Nat} {v0 v1 v2 v3 v4 : Value} {y : DataW H × List MemPlace} (hs : Try.prog.underlying t = some (.struct #[f0, f1, f2, f3, f4])) (h1 : oneCellFields Try.prog #[f0, f1, f2, f3, f4] = true)
    (h : DataW.trod enc Try.prog W 0 (fun _ => true) true n t [v0, v1, v2, v3, v4] = some y) :
    ∃ k, (∃ y, DataW.trod enc Try.prog W 0 (fun _ => true) true k f0.type [v0] = some y) ∧ (∃ y, DataW.trod enc Try.prog W 0 (fun _ => true) true k f1.type [v1] = some y) ∧ (∃ y, DataW.trod enc Try.prog W 0 (fun _ => true) true k f2.type [v2] = some y) ∧
      (∃ y, DataW.trod enc Try.prog W 0 (fun _ => true) true k f3.type [v3] = some y) ∧ ∃ y, DataW.trod enc Try.prog W 0 (fun _ => true) true k f4.type [v4] = some y := by
  obtain ⟨xs, k, _, _, _, hxl, hg⟩ := DataW.trod_struct hs h
  match xs, hxl with
  | [y0, y1, y2, y3, y4], _ =>
    have one : ∀ (j : Nat) (f : Field), (#[f0, f1, f2, f3, f4] : Array Field)[j]? = some f → f.offset = j ∧ Try.prog.cellsOf f.type = 1 := hone_of h1
    obtain ⟨o0, k0⟩ := one 0 f0 rfl
    obtain ⟨o1, k1⟩ := one 1 f1 rfl
    obtain ⟨o2, k2⟩ := one 2 f2 rfl
    obtain ⟨o3, k3⟩ := one 3 f3 rfl
    obtain ⟨o4, k4⟩ := one 4 f4 rfl
    exact ⟨k, ⟨y0, by simpa [o0, k0] using hg 0 f0 rfl⟩, ⟨y1, by simpa [o1, k1] using hg 1 f1 rfl⟩, ⟨y2, by simpa [o2, k2] using hg 2 f2 rfl⟩, ⟨y3, by simpa [o3, k3] using hg 3 f3 rfl⟩, ⟨y4, by simpa [o4, k4] using hg 4 f4 rfl⟩⟩

/-- A slice of structs of two numbers. -/
theorem arg_ranges {b0 : Nat} {r : Reach} {v : Value} {d : DataW H} {ps : List MemPlace} (hval : Value.okWide Try.prog W r b0 22 v) (h : DataW.Trod enc Try.prog W 0 (fun _ => true) true 22 v d ps) :
    ∃ (a : Option Addr) (n c : Nat) (cs : List Pl.Ent), v = .slice a n c ∧ Ents W a n cs ∧ n ≤ c ∧ c ≤ maxLen := by
  obtain ⟨a, len, cap, rfl, _⟩ := okWide_slice Try.underlying22 hval
  obtain ⟨fuel, hf⟩ := h
  have hc2 : Try.prog.cellsOf 40 = 2 := by kernel_rfl
  rcases open_slice Try.underlying22 hf with ⟨hcs, _⟩ | ⟨a', len', cap', m, n, D, Pl', hcs, _, hl, hm, hmm, _, hx⟩
  · simp [Value.cells] at hcs
    obtain ⟨rfl, rfl, rfl⟩ := hcs
    exact ⟨none, 0, 0, [], rfl, ⟨rfl, fun h => absurd h (by omega)⟩, Nat.le_refl _, Nat.zero_le _⟩
  · simp [Value.cells] at hcs
    obtain ⟨rfl, rfl, rfl⟩ := hcs
    simp only [if_true] at hmm
    rw [hc2] at hx
    have each : ∀ i, i < m → ∃ q : Pl.Ent, W.cell? (a'.add (i * 2)) = some (.int .i64 q.1) ∧ W.cell? (a'.add (i * 2 + 1)) = some (.int .i64 q.2) := by
      intro i hi
      obtain ⟨cs', h1, h2⟩ := hx i hi
      obtain ⟨_, hlen, hcell⟩ := World.cells?_some h1
      match cs', hlen with
      | [v0, v1], _ =>
        obtain ⟨k, ⟨y0, g0⟩, ⟨y1, g1⟩⟩ := fields2 Try.underlying40 (by kernel_rfl) h2
        obtain ⟨a0, rfl⟩ := cell_i64'' Try.underlying2 g0
        obtain ⟨a1, rfl⟩ := cell_i64'' Try.underlying2 g1
        have e0 := hcell 0 (by omega)
        have e1 := hcell 1 (by omega)
        rw [add_add] at e0 e1
        exact ⟨(a0, a1), by simpa using e0, by simpa using e1⟩
    obtain ⟨q, hq⟩ := choose_lt each
    refine ⟨some a', len, cap, (List.range len).map q, rfl, ⟨by simp, fun h0 => ?_⟩, hl, hm⟩
    obtain ⟨b, off, spot⟩ := a'
    have hspot : spot = none := by simpa [Addr.add] using World.cell?_spot (hq 0 (by omega)).1
    subst hspot
    refine ⟨b, off, rfl, fun i s hs => ?_⟩
    rw [List.getElem?_map] at hs
    obtain ⟨i', hi', rfl⟩ := Option.map_eq_some_iff.1 hs
    have hil : i < len := by have := (List.getElem?_eq_some_iff.1 hi').1; simpa using this
    have : i' = i := by rw [List.getElem?_range hil] at hi'; cases hi'; rfl
    subst this
    obtain ⟨c0, c1⟩ := hq i' (by omega)
    rw [Go.WideShapes.add_plain] at c0 c1
    exact ⟨c0, c1⟩

/-- A slice of steps. -/
theorem arg_lsteps {b0 : Nat} {r : Reach} {v : Value} {d : DataW H} {ps : List MemPlace} (hval : Value.okWide Try.prog W r b0 23 v) (h : DataW.Trod enc Try.prog W 0 (fun _ => true) true 23 v d ps) :
    ∃ (a : Option Addr) (n c : Nat) (cs : List Pl.LStep), v = .slice a n c ∧ LSt W a n cs ∧ n ≤ c ∧ c ≤ maxLen := by
  obtain ⟨a, len, cap, rfl, _⟩ := okWide_slice Try.underlying23 hval
  obtain ⟨fuel, hf⟩ := h
  have hc5 : Try.prog.cellsOf 29 = 5 := by kernel_rfl
  rcases open_slice Try.underlying23 hf with ⟨hcs, _⟩ | ⟨a', len', cap', m, n, D, Pl', hcs, _, hl, hm, hmm, _, hx⟩
  · simp [Value.cells] at hcs
    obtain ⟨rfl, rfl, rfl⟩ := hcs
    exact ⟨none, 0, 0, [], rfl, ⟨rfl, fun h => absurd h (by omega)⟩, Nat.le_refl _, Nat.zero_le _⟩
  · simp [Value.cells] at hcs
    obtain ⟨rfl, rfl, rfl⟩ := hcs
    simp only [if_true] at hmm
    rw [hc5] at hx
    have each : ∀ i, i < m → ∃ q : Pl.LStep, W.cell? (a'.add (i * 5)) = some (.int .i64 q.kind) ∧ W.cell? (a'.add (i * 5 + 1)) = some (.int .i64 q.file) ∧ W.cell? (a'.add (i * 5 + 2)) = some (.int .i64 q.line) ∧ W.cell? (a'.add (i * 5 + 3)) = some (.int .i64 q.col) ∧ W.cell? (a'.add (i * 5 + 4)) = some (.int .i64 q.val) := by
      intro i hi
      obtain ⟨cs', h1, h2⟩ := hx i hi
      obtain ⟨_, hlen, hcell⟩ := World.cells?_some h1
      match cs', hlen with
      | [v0, v1, v2, v3, v4], _ =>
        obtain ⟨k, ⟨y0, g0⟩, ⟨y1, g1⟩, ⟨y2, g2⟩, ⟨y3, g3⟩, ⟨y4, g4⟩⟩ := fields5 Try.underlying29 (by kernel_rfl) h2
        obtain ⟨a0, rfl⟩ := cell_i64'' Try.underlying2 g0
        obtain ⟨a1, rfl⟩ := cell_i64'' Try.underlying2 g1
        obtain ⟨a2, rfl⟩ := cell_i64'' Try.underlying2 g2
        obtain ⟨a3, rfl⟩ := cell_i64'' Try.underlying2 g3
        obtain ⟨a4, rfl⟩ := cell_i64'' Try.underlying2 g4
        have e0 := hcell 0 (by omega)
        have e1 := hcell 1 (by omega)
        have e2 := hcell 2 (by omega)
        have e3 := hcell 3 (by omega)
        have e4 := hcell 4 (by omega)
        rw [add_add] at e0 e1 e2 e3 e4
        exact ⟨⟨a0, a1, a2, a3, a4⟩, by simpa using e0, by simpa using e1, by simpa using e2, by simpa using e3, by simpa using e4⟩
    obtain ⟨q, hq⟩ := choose_lt each
    refine ⟨some a', len, cap, (List.range len).map q, rfl, ⟨by simp, fun h0 => ?_⟩, hl, hm⟩
    obtain ⟨b, off, spot⟩ := a'
    have hspot : spot = none := by simpa [Addr.add] using World.cell?_spot (hq 0 (by omega)).1
    subst hspot
    refine ⟨b, off, rfl, fun i s hs => ?_⟩
    rw [List.getElem?_map] at hs
    obtain ⟨i', hi', rfl⟩ := Option.map_eq_some_iff.1 hs
    have hil : i < len := by have := (List.getElem?_eq_some_iff.1 hi').1; simpa using this
    have : i' = i := by rw [List.getElem?_range hil] at hi'; cases hi'; rfl
    subst this
    obtain ⟨c0, c1, c2, c3, c4⟩ := hq i' (by omega)
    rw [Go.WideShapes.add_plain] at c0 c1 c2 c3 c4
    exact ⟨c0, c1, c2, c3, c4⟩

/-- A struct of five fields of one cell each, by value. -/
theorem arg_five {b0 : Nat} {r : Reach} {t : TypeId} {f0 f1 f2 f3 f4 : Field} {v : Value} {d : DataW H} {ps : List MemPlace} (hs : Try.prog.underlying t = some (.struct #[f0, f1, f2, f3, f4])) (h1 : oneCellFields Try.prog #[f0, f1, f2, f3, f4] = true)
    (h5 : Try.prog.cellsOf t = 5) (hval : Value.okWide Try.prog W r b0 t v) (h : DataW.Trod enc Try.prog W 0 (fun _ => true) true t v d ps) :
    ∃ (v0 v1 v2 v3 v4 : Value) (n : Nat), v = .agg #[v0, v1, v2, v3, v4] ∧ (∃ y, DataW.trod enc Try.prog W 0 (fun _ => true) true n f0.type [v0] = some y) ∧ (∃ y, DataW.trod enc Try.prog W 0 (fun _ => true) true n f1.type [v1] = some y) ∧
      (∃ y, DataW.trod enc Try.prog W 0 (fun _ => true) true n f2.type [v2] = some y) ∧ (∃ y, DataW.trod enc Try.prog W 0 (fun _ => true) true n f3.type [v3] = some y) ∧ ∃ y, DataW.trod enc Try.prog W 0 (fun _ => true) true n f4.type [v4] = some y := by
  obtain ⟨⟨cs⟩, rfl, hsz⟩ := okWide_struct hs hval
  match cs, hsz.trans h5 with
  | [c0, c1, c2, c3, c4], _ =>
    obtain ⟨fuel, hf⟩ := h
    obtain ⟨xs, n, _, _, _, hlen, hg⟩ := DataW.trod_struct hs hf
    match xs, hlen with
    | [y0, y1, y2, y3, y4], _ =>
      have one : ∀ (j : Nat) (f : Field), (#[f0, f1, f2, f3, f4] : Array Field)[j]? = some f → f.offset = j ∧ Try.prog.cellsOf f.type = 1 := hone_of h1
      obtain ⟨o0, k0⟩ := one 0 f0 rfl
      obtain ⟨o1, k1⟩ := one 1 f1 rfl
      obtain ⟨o2, k2⟩ := one 2 f2 rfl
      obtain ⟨o3, k3⟩ := one 3 f3 rfl
      obtain ⟨o4, k4⟩ := one 4 f4 rfl
      exact ⟨c0, c1, c2, c3, c4, n, rfl, ⟨y0, by simpa [Value.cells, o0, k0] using hg 0 f0 rfl⟩, ⟨y1, by simpa [Value.cells, o1, k1] using hg 1 f1 rfl⟩, ⟨y2, by simpa [Value.cells, o2, k2] using hg 2 f2 rfl⟩,
        ⟨y3, by simpa [Value.cells, o3, k3] using hg 3 f3 rfl⟩, ⟨y4, by simpa [Value.cells, o4, k4] using hg 4 f4 rfl⟩⟩

set_option maxRecDepth 100000 in
theorem cell_i64 {n : Nat} {t : TypeId} {v : Value} (ht : Try.prog.underlying t = some (.int .i64)) (h : ∃ y, DataW.trod enc Try.prog W 0 (fun _ => true) true n t [v] = some y) : ∃ a : Int, v = .int .i64 a ∧ -9223372036854775808 ≤ a ∧ a ≤ 9223372036854775807 := by
  obtain ⟨y, h⟩ := h
  obtain ⟨a, e, _, wa⟩ := DataW.trod_int ht h
  exact ⟨a, by simpa using e, bounds_i64 wa⟩


theorem arg_lstep {b0 : Nat} {r : Reach} {v : Value} {d : DataW H} {ps : List MemPlace} (hval : Value.okWide Try.prog W r b0 29 v) (h : DataW.Trod enc Try.prog W 0 (fun _ => true) true 29 v d ps) :
    ∃ p : Pl.LStep, v = stepV p ∧ LStepIn p := by
  obtain ⟨v0, v1, v2, v3, v4, n, rfl, g0, g1, g2, g3, g4⟩ := arg_five Try.underlying29 (by kernel_rfl) (by kernel_rfl) hval h
  obtain ⟨a0, rfl, b0⟩ := cell_i64 Try.underlying2 g0
  obtain ⟨a1, rfl, b1⟩ := cell_i64 Try.underlying2 g1
  obtain ⟨a2, rfl, b2⟩ := cell_i64 Try.underlying2 g2
  obtain ⟨a3, rfl, b3⟩ := cell_i64 Try.underlying2 g3
  obtain ⟨a4, rfl, b4⟩ := cell_i64 Try.underlying2 g4
  exact ⟨⟨a0, a1, a2, a3, a4⟩, rfl, b0, b1, b2, b3, b4⟩
end
end Go.Proofs.Ytangceejmjklcaa
