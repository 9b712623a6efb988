/- What slices of changes, places and texts, handed over, are. -/
import Derived.Test.YtbekmpmfkblgnaaOpenPlace
import Derived.SliceStrings
namespace Go.Proofs.Ytbekmpmfkblgnaa
open Go.ChangeShapes Go.WideShapes Go.ChangeAt Go.RowKit Go.Deep Go.Joins

set_option maxRecDepth 100000
section
variable {H : Type} {enc : TypeId × Value → H} {W : World}

instance placeNonempty : Inhabited PlaceD := ⟨⟨0, 0, 0, 0, 0⟩⟩
theorem cell_i64'' {n : Nat} {t : TypeId} {v : Value} {y : DataW H × List MemPlace} (ht : Try.prog.underlying t = some (.int .i64)) (h : DataW.trod enc Try.prog W 0 (fun _ => true) true n t [v] = some y) : ∃ a : Int, v = .int .i64 a := by
  obtain ⟨a, e, _, _⟩ := DataW.trod_int ht h
  exact ⟨a, by simpa using e⟩
theorem fields2 {t : TypeId} {f0 f1 : Field} {n : Nat} {v0 v1 : Value} {y : DataW H × List MemPlace} (hs : Try.prog.underlying t = some (.struct #[f0, f1])) (h1 : oneCellFields Try.prog #[f0, f1] = true)
    (h : DataW.trod enc Try.prog W 0 (fun _ => true) true n t [v0, v1] = some y) :
    ∃ k, (∃ y, DataW.trod enc Try.prog W 0 (fun _ => true) true k f0.type [v0] = some y) ∧ ∃ y, DataW.trod enc Try.prog W 0 (fun _ => true) true k f1.type [v1] = some y := by
  obtain ⟨xs, k, _, _, _, hxl, hg⟩ := DataW.trod_struct hs h
  match xs, hxl with
  | [y0, y1], _ =>
    have one : ∀ (j : Nat) (f : Field), (#[f0, f1] : Array Field)[j]? = some f → f.offset = j ∧ Try.prog.cellsOf f.type = 1 := hone_of h1
    obtain ⟨o0, k0⟩ := one 0 f0 rfl
    obtain ⟨o1, k1⟩ := one 1 f1 rfl
    exact ⟨k, ⟨y0, by simpa [o0, k0] using hg 0 f0 rfl⟩, ⟨y1, by simpa [o1, k1] using hg 1 f1 rfl⟩⟩
theorem fields5 {t : TypeId} {f0 f1 f2 f3 f4 : Field} {n : Nat} {v0 v1 v2 v3 v4 : Value} {y : DataW H × List MemPlace} (hs : Try.prog.underlying t = some (.struct #[f0, f1, f2, f3, f4])) (h1 : oneCellFields Try.prog #[f0, f1, f2, f3, f4] = true)
    (h : DataW.trod enc Try.prog W 0 (fun _ => true) true n t [v0, v1, v2, v3, v4] = some y) :
    ∃ k, (∃ y, DataW.trod enc Try.prog W 0 (fun _ => true) true k f0.type [v0] = some y) ∧ (∃ y, DataW.trod enc Try.prog W 0 (fun _ => true) true k f1.type [v1] = some y) ∧ (∃ y, DataW.trod enc Try.prog W 0 (fun _ => true) true k f2.type [v2] = some y) ∧
      (∃ y, DataW.trod enc Try.prog W 0 (fun _ => true) true k f3.type [v3] = some y) ∧ ∃ y, DataW.trod enc Try.prog W 0 (fun _ => true) true k f4.type [v4] = some y := by
  obtain ⟨xs, k, _, _, _, hxl, hg⟩ := DataW.trod_struct hs h
  match xs, hxl with
  | [y0, y1, y2, y3, y4], _ =>
    have one : ∀ (j : Nat) (f : Field), (#[f0, f1, f2, f3, f4] : Array Field)[j]? = some f → f.offset = j ∧ Try.prog.cellsOf f.type = 1 := hone_of h1
    obtain ⟨o0, k0⟩ := one 0 f0 rfl
    obtain ⟨o1, k1⟩ := one 1 f1 rfl
    obtain ⟨o2, k2⟩ := one 2 f2 rfl
    obtain ⟨o3, k3⟩ := one 3 f3 rfl
    obtain ⟨o4, k4⟩ := one 4 f4 rfl
    exact ⟨k, ⟨y0, by simpa [o0, k0] using hg 0 f0 rfl⟩, ⟨y1, by simpa [o1, k1] using hg 1 f1 rfl⟩, ⟨y2, by simpa [o2, k2] using hg 2 f2 rfl⟩, ⟨y3, by simpa [o3, k3] using hg 3 f3 rfl⟩, ⟨y4, by simpa [o4, k4] using hg 4 f4 rfl⟩⟩

/-- A slice of structs of two numbers. -/
theorem arg_withs {b0 : Nat} {r : Reach} {v : Value} {d : DataW H} {ps : List MemPlace} (hval : Value.okWide Try.prog W r b0 51 v) (h : DataW.Trod enc Try.prog W 0 (fun _ => true) true 51 v d ps) :
    ∃ (a : Option Addr) (n c : Nat) (cs : List Pl.Ent), v = .slice a n c ∧ Ents W a n cs ∧ n ≤ c ∧ c ≤ maxLen := by
  obtain ⟨a, len, cap, rfl, _⟩ := okWide_slice Try.underlying51 hval
  obtain ⟨fuel, hf⟩ := h
  have hc2 : Try.prog.cellsOf 55 = 2 := by kernel_rfl
  rcases open_slice Try.underlying51 hf with ⟨hcs, _⟩ | ⟨a', len', cap', m, n, D, Pl', hcs, _, hl, hm, hmm, _, hx⟩
  · simp [Value.cells] at hcs
    obtain ⟨rfl, rfl, rfl⟩ := hcs
    exact ⟨none, 0, 0, [], rfl, ⟨rfl, fun h => absurd h (by omega)⟩, Nat.le_refl _, Nat.zero_le _⟩
  · simp [Value.cells] at hcs
    obtain ⟨rfl, rfl, rfl⟩ := hcs
    simp only [if_true] at hmm
    rw [hc2] at hx
    have each : ∀ i, i < m → ∃ q : Pl.Ent, W.cell? (a'.add (i * 2)) = some (.int .i64 q.1) ∧ W.cell? (a'.add (i * 2 + 1)) = some (.int .i64 q.2) := by
      intro i hi
      obtain ⟨cs', h1, h2⟩ := hx i hi
      obtain ⟨_, hlen, hcell⟩ := World.cells?_some h1
      match cs', hlen with
      | [v0, v1], _ =>
        obtain ⟨k, ⟨y0, g0⟩, ⟨y1, g1⟩⟩ := fields2 Try.underlying55 (by kernel_rfl) h2
        obtain ⟨a0, rfl⟩ := cell_i64'' Try.underlying2 g0
        obtain ⟨a1, rfl⟩ := cell_i64'' Try.underlying2 g1
        have e0 := hcell 0 (by omega)
        have e1 := hcell 1 (by omega)
        rw [add_add] at e0 e1
        exact ⟨(a0, a1), by simpa using e0, by simpa using e1⟩
    obtain ⟨q, hq⟩ := choose_lt each
    refine ⟨some a', len, cap, (List.range len).map q, rfl, ⟨by simp, fun h0 => ?_⟩, hl, hm⟩
    obtain ⟨b, off, spot⟩ := a'
    have hspot : spot = none := by simpa [Addr.add] using World.cell?_spot (hq 0 (by omega)).1
    subst hspot
    refine ⟨b, off, rfl, fun i s hs => ?_⟩
    rw [List.getElem?_map] at hs
    obtain ⟨i', hi', rfl⟩ := Option.map_eq_some_iff.1 hs
    have hil : i < len := by have := (List.getElem?_eq_some_iff.1 hi').1; simpa using this
    have : i' = i := by rw [List.getElem?_range hil] at hi'; cases hi'; rfl
    subst this
    obtain ⟨c0, c1⟩ := hq i' (by omega)
    rw [Go.WideShapes.add_plain] at c0 c1
    exact ⟨c0, c1⟩

/-- A slice of places. -/
theorem arg_places {b0 : Nat} {r : Reach} {v : Value} {d : DataW H} {ps : List MemPlace} (hval : Value.okWide Try.prog W r b0 40 v) (h : DataW.Trod enc Try.prog W 0 (fun _ => true) true 40 v d ps) :
    ∃ (a : Option Addr) (n c : Nat) (cs : List PlaceD), v = .slice a n c ∧ Places W a n cs ∧ n ≤ c ∧ c ≤ maxLen := by
  obtain ⟨a, len, cap, rfl, _⟩ := okWide_slice Try.underlying40 hval
  obtain ⟨fuel, hf⟩ := h
  have hc5 : Try.prog.cellsOf 23 = 5 := by kernel_rfl
  rcases open_slice Try.underlying40 hf with ⟨hcs, _⟩ | ⟨a', len', cap', m, n, D, Pl', hcs, _, hl, hm, hmm, _, hx⟩
  · simp [Value.cells] at hcs
    obtain ⟨rfl, rfl, rfl⟩ := hcs
    exact ⟨none, 0, 0, [], rfl, ⟨rfl, fun h => absurd h (by omega)⟩, Nat.le_refl _, Nat.zero_le _⟩
  · simp [Value.cells] at hcs
    obtain ⟨rfl, rfl, rfl⟩ := hcs
    simp only [if_true] at hmm
    rw [hc5] at hx
    have each : ∀ i, i < m → ∃ q : PlaceD, W.cell? (a'.add (i * 5)) = some (.int .i64 q.file) ∧ W.cell? (a'.add (i * 5 + 1)) = some (.int .i64 q.line) ∧ W.cell? (a'.add (i * 5 + 2)) = some (.int .i64 q.col) ∧ W.cell? (a'.add (i * 5 + 3)) = some (.int .i64 q.stmt) ∧ W.cell? (a'.add (i * 5 + 4)) = some (.int .i64 q.logue) := by
      intro i hi
      obtain ⟨cs', h1, h2⟩ := hx i hi
      obtain ⟨_, hlen, hcell⟩ := World.cells?_some h1
      match cs', hlen with
      | [v0, v1, v2, v3, v4], _ =>
        obtain ⟨k, ⟨y0, g0⟩, ⟨y1, g1⟩, ⟨y2, g2⟩, ⟨y3, g3⟩, ⟨y4, g4⟩⟩ := fields5 Try.underlying23 (by kernel_rfl) h2
        obtain ⟨a0, rfl⟩ := cell_i64'' Try.underlying2 g0
        obtain ⟨a1, rfl⟩ := cell_i64'' Try.underlying2 g1
        obtain ⟨a2, rfl⟩ := cell_i64'' Try.underlying2 g2
        obtain ⟨a3, rfl⟩ := cell_i64'' Try.underlying2 g3
        obtain ⟨a4, rfl⟩ := cell_i64'' Try.underlying2 g4
        have e0 := hcell 0 (by omega)
        have e1 := hcell 1 (by omega)
        have e2 := hcell 2 (by omega)
        have e3 := hcell 3 (by omega)
        have e4 := hcell 4 (by omega)
        rw [add_add] at e0 e1 e2 e3 e4
        exact ⟨⟨a0, a1, a2, a3, a4⟩, by simpa using e0, by simpa using e1, by simpa using e2, by simpa using e3, by simpa using e4⟩
    obtain ⟨q, hq⟩ := choose_lt each
    refine ⟨some a', len, cap, (List.range len).map q, rfl, ⟨by simp, fun h0 => ?_⟩, hl, hm⟩
    obtain ⟨b, off, spot⟩ := a'
    have hspot : spot = none := by simpa [Addr.add] using World.cell?_spot (hq 0 (by omega)).1
    subst hspot
    refine ⟨b, off, rfl, fun i s hs => ?_⟩
    rw [List.getElem?_map] at hs
    obtain ⟨i', hi', rfl⟩ := Option.map_eq_some_iff.1 hs
    have hil : i < len := by have := (List.getElem?_eq_some_iff.1 hi').1; simpa using this
    have : i' = i := by rw [List.getElem?_range hil] at hi'; cases hi'; rfl
    subst this
    obtain ⟨c0, c1, c2, c3, c4⟩ := hq i' (by omega)
    rw [Go.WideShapes.add_plain] at c0 c1 c2 c3 c4
    exact ⟨c0, c1, c2, c3, c4⟩

/-- A slice of texts. -/
theorem arg_strs {b0 : Nat} {r : Reach} {t e : TypeId} {v : Value} {d : DataW H} {ps : List MemPlace} (ht : Try.prog.underlying t = some (.slice e)) (he : Try.prog.underlying e = some .string) (hc : Try.prog.cellsOf e = 1) (hval : Value.okWide Try.prog W r b0 t v) (h : DataW.Trod enc Try.prog W 0 (fun _ => true) true t v d ps) :
    ∃ (a : Option Addr) (n c : Nat) (ss : List ByteArray), v = .slice a n c ∧ Strs W a n ss ∧ n ≤ c ∧ c ≤ maxLen ∧ ∀ s ∈ ss, s.size ≤ maxLen := by
  obtain ⟨a, len, cap, rfl, _⟩ := okWide_slice ht hval
  obtain ⟨fuel, hf⟩ := h
  rcases open_strings ht he hc hf with ⟨hcs, _⟩ | ⟨a', len', cap', ss, hcs, _, hl, hm, hz, _, hcell, hws⟩
  · simp [Value.cells] at hcs
    obtain ⟨rfl, rfl, rfl⟩ := hcs
    exact ⟨none, 0, 0, [], rfl, ⟨rfl, fun h => absurd h (by omega)⟩, Nat.le_refl _, Nat.zero_le _, by simp⟩
  · simp [Value.cells] at hcs
    obtain ⟨rfl, rfl, rfl⟩ := hcs
    simp only [if_true] at hz
    refine ⟨some a', len, cap, ss.take len, rfl, ⟨by rw [List.length_take]; omega, fun h0 => ?_⟩, hl, hm, fun s hs => hws s (List.mem_of_mem_take hs)⟩
    obtain ⟨b, off, spot⟩ := a'
    have hspot : spot = none := by simpa [Addr.add] using World.cell?_spot (hcell 0 (by omega))
    subst hspot
    refine ⟨b, off, rfl, fun i s hs => ?_⟩
    have hi := (List.getElem?_eq_some_iff.1 hs).1
    rw [List.length_take] at hi
    rw [List.getElem?_take, if_pos (by omega)] at hs
    have := hcell i (by omega)
    rw [Go.WideShapes.add_plain] at this
    rw [this, List.getD_eq_getElem?_getD, hs]; rfl
end
end Go.Proofs.Ytbekmpmfkblgnaa
