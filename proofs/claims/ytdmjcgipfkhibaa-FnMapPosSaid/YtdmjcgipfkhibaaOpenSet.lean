/- What a slice of numbers, and a slice of steps, handed over, are. -/
import Derived.Test.YtdmjcgipfkhibaaOpen
import Derived.Test.YtdmjcgipfkhibaaSet4
import Derived.Lib.SmallJoins
namespace Go.Proofs.Ytdmjcgipfkhibaa
open Go.ChangeShapes Go.WideShapes Go.ChangeAt Go.RowKit Go.Deep Go.Joins

set_option maxRecDepth 100000
section
variable {H : Type} {enc : TypeId × Value → H} {W : World}

theorem ints_trod {n : Nat} {v : Value} (h : ∃ y, DataW.trod enc Try.prog W 0 (fun _ => true) true n 33 [v] = some y) : ∃ l : List Int, IntS W v l := by
  obtain ⟨y, h⟩ := h
  rcases open_ints Try.underlying33 Try.underlying2 (by kernel_rfl) h with ⟨hcs, _⟩ | ⟨a, len, cap, zs, hcs, _, hl, hm, hz, _, hcell, _⟩
  · simp at hcs
    subst hcs
    exact ⟨[], IntS.nil W⟩
  · simp at hcs
    subst hcs
    simp only [if_true] at hz
    refine ⟨zs.take len, a, cap, by rw [List.length_take, hz, Nat.min_eq_left hl], by rw [List.length_take]; omega, hm, fun h0 => ?_⟩
    rw [List.length_take] at h0
    obtain ⟨b, o, rfl, hc⟩ := ints_at hcell (by omega)
    refine ⟨b, o, rfl, fun i x hx => ?_⟩
    have hi := (List.getElem?_eq_some_iff.1 hx).1
    rw [List.length_take] at hi
    rw [hc i (by omega)]
    rw [List.getElem?_take, if_pos (by omega)] at hx
    rw [List.getD_eq_getElem?_getD, hx]; rfl

theorem arg_ints {b0 : Nat} {r : Reach} {v : Value} {d : DataW H} {ps : List MemPlace} (hval : Value.okWide Try.prog W r b0 33 v) (h : DataW.Trod enc Try.prog W 0 (fun _ => true) true 33 v d ps) : ∃ l : List Int, IntS W v l := by
  obtain ⟨a, len, cap, rfl, _⟩ := okWide_slice Try.underlying33 hval
  obtain ⟨fuel, hf⟩ := h
  exact ints_trod ⟨_, hf⟩

instance stepNonempty : Inhabited (Pl.StepD × Value) := ⟨(⟨0, 0, 0, []⟩, .slice none 0 0)⟩

theorem cell_i64' {n : Nat} {t : TypeId} {v : Value} {y : DataW H × List MemPlace} (ht : Try.prog.underlying t = some (.int .i64)) (h : DataW.trod enc Try.prog W 0 (fun _ => true) true n t [v] = some y) : ∃ a : Int, v = .int .i64 a := by
  obtain ⟨a, e, _, _⟩ := DataW.trod_int ht h
  exact ⟨a, by simpa using e⟩

theorem fields4 {t : TypeId} {f0 f1 f2 f3 : Field} {n : Nat} {v0 v1 v2 v3 : Value} {y : DataW H × List MemPlace} (hs : Try.prog.underlying t = some (.struct #[f0, f1, f2, f3])) (h1 : oneCellFields Try.prog #[f0, f1, f2, f3] = true)
    (h : DataW.trod enc Try.prog W 0 (fun _ => true) true n t [v0, v1, v2, v3] = some y) :
    ∃ k, (∃ y, DataW.trod enc Try.prog W 0 (fun _ => true) true k f0.type [v0] = some y) ∧ (∃ y, DataW.trod enc Try.prog W 0 (fun _ => true) true k f1.type [v1] = some y) ∧ (∃ y, DataW.trod enc Try.prog W 0 (fun _ => true) true k f2.type [v2] = some y) ∧ ∃ y, DataW.trod enc Try.prog W 0 (fun _ => true) true k f3.type [v3] = some y := by
  obtain ⟨xs, k, _, _, _, hxl, hg⟩ := DataW.trod_struct hs h
  match xs, hxl with
  | [y0, y1, y2, y3], _ =>
    have one : ∀ (j : Nat) (f : Field), (#[f0, f1, f2, f3] : Array Field)[j]? = some f → f.offset = j ∧ Try.prog.cellsOf f.type = 1 := hone_of h1
    obtain ⟨o0, k0⟩ := one 0 f0 rfl
    obtain ⟨o1, k1⟩ := one 1 f1 rfl
    obtain ⟨o2, k2⟩ := one 2 f2 rfl
    obtain ⟨o3, k3⟩ := one 3 f3 rfl
    exact ⟨k, ⟨y0, by simpa [o0, k0] using hg 0 f0 rfl⟩, ⟨y1, by simpa [o1, k1] using hg 1 f1 rfl⟩, ⟨y2, by simpa [o2, k2] using hg 2 f2 rfl⟩, ⟨y3, by simpa [o3, k3] using hg 3 f3 rfl⟩⟩

/-- A slice of structs of three numbers and a slice of numbers. -/
theorem arg_steps {b0 : Nat} {r : Reach} {v : Value} {d : DataW H} {ps : List MemPlace} (hval : Value.okWide Try.prog W r b0 22 v) (h : DataW.Trod enc Try.prog W 0 (fun _ => true) true 22 v d ps) : ∃ S : List Pl.StepD, StepS W v S := by
  obtain ⟨a, len, cap, rfl, _⟩ := okWide_slice Try.underlying22 hval
  obtain ⟨fuel, hf⟩ := h
  have hc4 : Try.prog.cellsOf 39 = 4 := by kernel_rfl
  rcases open_slice Try.underlying22 hf with ⟨hcs, _⟩ | ⟨a', len', cap', m, n, D, Pl', hcs, _, hl, hm, hmm, _, hx⟩
  · simp [Value.cells] at hcs
    obtain ⟨rfl, rfl, rfl⟩ := hcs
    exact ⟨[], none, 0, rfl, Nat.le_refl _, by omega, fun h => absurd h (by simp)⟩
  · simp [Value.cells] at hcs
    obtain ⟨rfl, rfl, rfl⟩ := hcs
    simp only [if_true] at hmm
    rw [hc4] at hx
    have each : ∀ i, i < m → ∃ q : Pl.StepD × Value, W.cell? (a'.add (i * 4)) = some (.int .i64 q.1.kind) ∧ W.cell? (a'.add (i * 4 + 1)) = some (.int .i64 q.1.key) ∧ W.cell? (a'.add (i * 4 + 2)) = some (.int .i64 q.1.val) ∧ W.cell? (a'.add (i * 4 + 3)) = some q.2 ∧ IntS W q.2 q.1.list := by
      intro i hi
      obtain ⟨cs', h1, h2⟩ := hx i hi
      obtain ⟨_, hlen, hcell⟩ := World.cells?_some h1
      match cs', hlen with
      | [v0, v1, v2, v3], _ =>
        obtain ⟨k, ⟨y0, g0⟩, ⟨y1, g1⟩, ⟨y2, g2⟩, g3⟩ := fields4 Try.underlying39 (by kernel_rfl) h2
        obtain ⟨a0, rfl⟩ := cell_i64' Try.underlying2 g0
        obtain ⟨a1, rfl⟩ := cell_i64' Try.underlying2 g1
        obtain ⟨a2, rfl⟩ := cell_i64' Try.underlying2 g2
        obtain ⟨l, hl⟩ := ints_trod g3
        have e0 := hcell 0 (by omega)
        have e1 := hcell 1 (by omega)
        have e2 := hcell 2 (by omega)
        have e3 := hcell 3 (by omega)
        rw [add_add] at e0 e1 e2 e3
        exact ⟨(⟨a0, a1, a2, l⟩, v3), by simpa using e0, by simpa using e1, by simpa using e2, by simpa using e3, hl⟩
    obtain ⟨q, hq⟩ := choose_lt each
    refine ⟨(List.range len).map (fun i => (q i).1), some a', cap, by simp, by simpa using hl, hm, fun h0 => ?_⟩
    simp only [List.length_map, List.length_range] at h0
    obtain ⟨b, off, spot⟩ := a'
    have hspot : spot = none := by simpa [Addr.add] using World.cell?_spot (hq 0 (by omega)).1
    subst hspot
    refine ⟨b, off, rfl, fun i s hs => ?_⟩
    rw [List.getElem?_map] at hs
    obtain ⟨i', hi', rfl⟩ := Option.map_eq_some_iff.1 hs
    have hil : i < len := by have := (List.getElem?_eq_some_iff.1 hi').1; simpa using this
    have : i' = i := by rw [List.getElem?_range hil] at hi'; cases hi'; rfl
    subst this
    obtain ⟨c0, c1, c2, c3, c4⟩ := hq i' (by omega)
    rw [Go.WideShapes.add_plain] at c0 c1 c2 c3
    exact ⟨(q i').2, c0, c1, c2, c3, c4⟩
end
end Go.Proofs.Ytdmjcgipfkhibaa
