/- The walks of impl.setStep and impl.Set. -/
import Derived.Test.YtdmjcgipfkhibaaSet2
namespace Go.Proofs.Ytdmjcgipfkhibaa
open Go.RowKit

namespace Pl
def ans0 : Ans := ⟨false, 0, [], []⟩
/-- What a step makes of a set, and what it answers. -/
def setD (d : List Ent) (s : StepD) : List Ent :=
  if s.kind = 0 then addE d s.key else if s.kind = 1 then remE d s.key else if s.kind = 5 then []
  else if s.kind = 6 then d.take (d.length - 1) else if s.kind = 8 then addAllE d s.list else d
def setA (n : Int) (d : List Ent) (s : StepD) : Ans :=
  if s.kind = 2 then ⟨inB d s.key, 0, [], []⟩ else if s.kind = 4 then ⟨false, d.length, [], []⟩
  else if s.kind = 6 then (match d[d.length - 1]? with | some y => ⟨true, y.1, [], []⟩ | none => ans0)
  else if s.kind = 7 then ⟨false, 0, d.map (·.1), []⟩ else if s.kind = 9 then ⟨false, n, [], []⟩ else ans0
def setRun (n : Int) : List Ent → List StepD → List Ans
  | _, [] => []
  | d, s :: r => setA n d s :: setRun n (setD d s) r
def setAt : List Ent → List StepD → List Ent
  | d, [] => d
  | d, s :: r => setAt (setD d s) r
end Pl

/-- The value v is an answer whose slices are the call's own. -/
def AnsO (w : World) (base : Nat) (k x : Value) (A : Pl.Ans) : Prop := w.ownsRow base 2 1 k A.keys.length (A.keys.map (Value.int .i64)) ∧ w.ownsRow base 2 1 x A.vals.length (A.vals.map (Value.int .i64))
abbrev ansV (A : Pl.Ans) (k x : Value) : Value := .agg #[.bool A.ok, .int .i64 A.val, k, x]

def StepPost (w : World) (base n g gs : Nat) (vd : Value) (d' : List Pl.Ent) (A : Pl.Ans) (e : Ending) (w' : World) : Prop :=
  ∃ k x, e = .returned (ansV A k x) ∧ AnsO w' base k x A ∧ SetTo w w' base n g gs vd d'

/-- Ahead of the arms: the step's box and the result's block. -/
theorem stepPost_mk {w w' : World} {base n g gs : Nat} {vd : Value} {d' : List Pl.Ent} {A : Pl.Ans} {k x : Value} (ha : AnsO w' base k x A) (hs : SetTo w w' base n g gs vd d') : StepPost w base n g gs vd d' A (.returned (ansV A k x)) w' := ⟨k, x, rfl, ha, hs⟩
theorem ansO_nil (w : World) (base : Nat) (b : Bool) (v : Int) : AnsO w base (.slice none 0 0) (.slice none 0 0) ⟨b, v, [], []⟩ := ⟨World.ownsRow_nil _ _ _ _, World.ownsRow_nil _ _ _ _⟩

theorem bel_eq {a b : World} (h : a = b) : Bel a b := h ▸ Bel.refl a
theorem foot_new {w : World} {base n g gs : Nat} {vd : Value} {d : List Pl.Ent} {sp : List Int} (h : SetW w base n g gs vd d sp) {b : Nat} (hb : w.heap.size ≤ b) : b ∉ foot g gs vd := fun hm => by have := (h.foot_ge b hm).2; omega

/-- Behind a method's call: the result's block stands, and so does the set. -/
theorem res_of {w w1 : World} {base n g gs : Nat} {vd : Value} {d d' : List Pl.Ent} {sp : List Int} {cs ds : List Value} {t u : TypeId} (h : SetW w base n g gs vd d sp)
    (hto : SetTo ((w.alloc (.cells cs.toArray t)).alloc (.cells ds.toArray u)) w1 base n g gs vd d') : Blk w1 (w.heap.size + 1) u ds ∧ SetTo w w1 base n g gs vd d' := by
  refine ⟨?_, SetTo.of_bel (((Bel.refl w).alloc _).alloc _) hto⟩
  obtain ⟨vd', sp', _, hk', _⟩ := hto
  have := (Blk.new (w.alloc (.cells cs.toArray t)) u ds).kept hk' (foot_new h (by simp))
  rwa [World.size_alloc] at this
theorem res_bel {w w1 : World} {base n g gs : Nat} {vd : Value} {d : List Pl.Ent} {sp : List Int} {cs ds : List Value} {t u : TypeId} (h : SetW w base n g gs vd d sp)
    (hb : Bel ((w.alloc (.cells cs.toArray t)).alloc (.cells ds.toArray u)) w1) : Blk w1 (w.heap.size + 1) u ds ∧ SetTo w w1 base n g gs vd d := by
  obtain ⟨_, a, b⟩ := blk2 hb
  exact ⟨a, SetTo.of_bel b (SetTo.refl (h.bel b))⟩
/-- The result is stored. -/
theorem SetTo.res {w w1 : World} {base n g gs b : Nat} {vd : Value} {d : List Pl.Ent} {c0 c1 c2 c3 : Value} (hto : SetTo w w1 base n g gs vd d) (hB : Blk w1 b 43 [c0, c1, c2, c3]) (hb : w.heap.size ≤ b) (v0 v1 v2 v3 : Value) :
    SetTo w ((((w1.setCell ⟨b, 0, none⟩ v0).setCell ⟨b, 1, none⟩ v1).setCell ⟨b, 2, none⟩ v2).setCell ⟨b, 3, none⟩ v3) base n g gs vd d ∧ Blk ((((w1.setCell ⟨b, 0, none⟩ v0).setCell ⟨b, 1, none⟩ v1).setCell ⟨b, 2, none⟩ v2).setCell ⟨b, 3, none⟩ v3) b 43 [v0, v1, v2, v3] := by
  obtain ⟨vd', sp', h1, h2, h3⟩ := hto
  have hg : g ≠ b := h1.hg.ne hB (by decide)
  have hs : gs ≠ b := h1.hs.ne hB (by decide)
  have hd := own_ne h1.hd hB (by decide)
  refine ⟨⟨vd', sp', ⟨?_, ?_, ?_, h1.hi, h1.hz, h1.hb⟩, ?_, h3⟩, (((hB.set 0 v0).set 1 v1).set 2 v2).set 3 v3⟩
  · exact (((h1.hg.far (p := ⟨b, 0, none⟩) hg _).far (p := ⟨b, 1, none⟩) hg _).far (p := ⟨b, 2, none⟩) hg _).far (p := ⟨b, 3, none⟩) hg _
  · exact (((h1.hs.far (p := ⟨b, 0, none⟩) hs _).far (p := ⟨b, 1, none⟩) hs _).far (p := ⟨b, 2, none⟩) hs _).far (p := ⟨b, 3, none⟩) hs _
  · exact ownsRow_setCell_other (ownsRow_setCell_other (ownsRow_setCell_other (ownsRow_setCell_other h1.hd (a := ⟨b, 0, none⟩) hd _) (a := ⟨b, 1, none⟩) hd _) (a := ⟨b, 2, none⟩) hd _) (a := ⟨b, 3, none⟩) hd _
  · exact (((h2.setCell (p := ⟨b, 0, none⟩) (.inr hb) _).setCell (p := ⟨b, 1, none⟩) (.inr hb) _).setCell (p := ⟨b, 2, none⟩) (.inr hb) _).setCell (p := ⟨b, 3, none⟩) (.inr hb) _
theorem ansO_res {w1 : World} {base b : Nat} {k x : Value} {A : Pl.Ans} {c0 c1 c2 c3 : Value} (h : AnsO w1 base k x A) (hB : Blk w1 b 43 [c0, c1, c2, c3]) (v0 v1 v2 v3 : Value) : AnsO ((((w1.setCell ⟨b, 0, none⟩ v0).setCell ⟨b, 1, none⟩ v1).setCell ⟨b, 2, none⟩ v2).setCell ⟨b, 3, none⟩ v3) base k x A := by
  have hk := own_ne h.1 hB (by decide)
  have hx := own_ne h.2 hB (by decide)
  exact ⟨ownsRow_setCell_other (ownsRow_setCell_other (ownsRow_setCell_other (ownsRow_setCell_other h.1 (a := ⟨b, 0, none⟩) hk _) (a := ⟨b, 1, none⟩) hk _) (a := ⟨b, 2, none⟩) hk _) (a := ⟨b, 3, none⟩) hk _,
    ownsRow_setCell_other (ownsRow_setCell_other (ownsRow_setCell_other (ownsRow_setCell_other h.2 (a := ⟨b, 0, none⟩) hx _) (a := ⟨b, 1, none⟩) hx _) (a := ⟨b, 2, none⟩) hx _) (a := ⟨b, 3, none⟩) hx _⟩
theorem four_cells {w : World} {b : Nat} {t : TypeId} {c0 c1 c2 c3 : Value} (h : Blk w b t [c0, c1, c2, c3]) : (w.cell? ⟨b, 0, none⟩ = some c0 ∧ w.cell? ⟨b, 1, none⟩ = some c1 ∧ w.cell? ⟨b, 2, none⟩ = some c2 ∧ w.cell? ⟨b, 3, none⟩ = some c3) ∧ w.frozen? ⟨b, 0, none⟩ = false ∧ w.frozen? ⟨b, 1, none⟩ = false ∧ w.frozen? ⟨b, 2, none⟩ = false ∧ w.frozen? ⟨b, 3, none⟩ = false :=
  ⟨⟨h.cell 0, h.cell 1, h.cell 2, h.cell 3⟩, h.frozen 0, h.frozen 1, h.frozen 2, h.frozen 3⟩

set_option maxHeartbeats 400000 in
theorem setStep_add {w : World} {base n g gs : Nat} {vd : Value} {d : List Pl.Ent} {sp : List Int} (h : SetW w base n g gs vd d sp) (hn : n ≤ 1000000) (k : Nat) (hk : k < n) (val : Int) (sl : Value) :
    Calls Try.prog 44 #[ptrTo g, .agg #[.int .i64 0, .int .i64 k, .int .i64 val, sl]] w (StepPost w base n g gs vd (addE d k) Pl.ans0) := by
  have H := Lib.hid h; clear h
  go_enter Try.func44, Try.ntmps44
  go_wp2_with fail
  refine (Add_any (H.out.bel (((Bel.refl w).alloc _).alloc _)) hn (by have := H.out.hb.1; have := H.out.hg.lt; simp; omega) k hk).mono ?_
  rintro e w1 ⟨⟨v, rfl⟩, hto⟩
  obtain ⟨hB, hto⟩ := res_of H.out hto
  obtain ⟨⟨b0, b1, b2, b3⟩, z0, z1, z2, z3⟩ := four_cells hB
  have HB := Lib.hid (And.intro hB hto); clear hB hto
  go_wp2
  have HF := HB.out.2.res HB.out.1 (Nat.le_succ _) (.bool false) (.int .i64 0) (.slice none 0 0) (.slice none 0 0)
  obtain ⟨⟨q0, q1, q2, q3⟩, _⟩ := four_cells HF.2
  exact bodyPost_ret (v := ansV Pl.ans0 (.slice none 0 0) (.slice none 0 0)) (by simp [results, Try.results44, go_sem, q0, q1, q2, q3, Pl.ans0]) rfl (stepPost_mk (ansO_res (ansO_nil _ _ _ _) HB.out.1 _ _ _ _) HF.1)
set_option maxHeartbeats 400000 in
theorem setStep_rem {w : World} {base n g gs : Nat} {vd : Value} {d : List Pl.Ent} {sp : List Int} (h : SetW w base n g gs vd d sp) (hn : n ≤ 1000000) (k : Nat) (hk : k < n) (val : Int) (sl : Value) :
    Calls Try.prog 44 #[ptrTo g, .agg #[.int .i64 1, .int .i64 k, .int .i64 val, sl]] w (StepPost w base n g gs vd (remE d k) Pl.ans0) := by
  have H := Lib.hid h; clear h
  go_enter Try.func44, Try.ntmps44
  go_wp2_with fail
  refine (Remove_any (H.out.bel (((Bel.refl w).alloc _).alloc _)) hn k hk).mono ?_
  rintro e w1 ⟨⟨v, rfl⟩, hto⟩
  obtain ⟨hB, hto⟩ := res_of H.out hto
  obtain ⟨⟨b0, b1, b2, b3⟩, z0, z1, z2, z3⟩ := four_cells hB
  have HB := Lib.hid (And.intro hB hto); clear hB hto
  go_wp2
  have HF := HB.out.2.res HB.out.1 (Nat.le_succ _) (.bool false) (.int .i64 0) (.slice none 0 0) (.slice none 0 0)
  obtain ⟨⟨q0, q1, q2, q3⟩, _⟩ := four_cells HF.2
  exact bodyPost_ret (v := ansV Pl.ans0 (.slice none 0 0) (.slice none 0 0)) (by simp [results, Try.results44, go_sem, q0, q1, q2, q3, Pl.ans0]) rfl (stepPost_mk (ansO_res (ansO_nil _ _ _ _) HB.out.1 _ _ _ _) HF.1)
set_option maxHeartbeats 400000 in
theorem setStep_has {w : World} {base n g gs : Nat} {vd : Value} {d : List Pl.Ent} {sp : List Int} (h : SetW w base n g gs vd d sp) (hn : n ≤ 1000000) (k : Nat) (hk : k < n) (val : Int) (sl : Value) :
    Calls Try.prog 44 #[ptrTo g, .agg #[.int .i64 2, .int .i64 k, .int .i64 val, sl]] w (StepPost w base n g gs vd d ⟨inB d k, 0, [], []⟩) := by
  have H := Lib.hid h; clear h
  go_enter Try.func44, Try.ntmps44
  go_wp2_with fail
  refine (contains_any (H.out.bel (((Bel.refl w).alloc _).alloc _)) hn k hk).mono ?_
  rintro e w1 ⟨rfl, hw⟩
  obtain ⟨hB, hto⟩ := res_bel H.out (bel_eq hw)
  clear hw
  obtain ⟨⟨b0, b1, b2, b3⟩, z0, z1, z2, z3⟩ := four_cells hB
  have HB := Lib.hid (And.intro hB hto); clear hB hto
  go_wp2
  have HF := HB.out.2.res HB.out.1 (Nat.le_succ _) (.bool (inB d k)) (.int .i64 0) (.slice none 0 0) (.slice none 0 0)
  obtain ⟨⟨q0, q1, q2, q3⟩, _⟩ := four_cells HF.2
  exact bodyPost_ret (v := ansV ⟨inB d k, 0, [], []⟩ (.slice none 0 0) (.slice none 0 0)) (by simp [results, Try.results44, go_sem, q0, q1, q2, q3]) rfl (stepPost_mk (ansO_res (ansO_nil _ _ _ _) HB.out.1 _ _ _ _) HF.1)
set_option maxHeartbeats 400000 in
theorem setStep_size {w : World} {base n g gs : Nat} {vd : Value} {d : List Pl.Ent} {sp : List Int} (h : SetW w base n g gs vd d sp) (_hn : n ≤ 1000000) (key val : Int) (sl : Value) :
    Calls Try.prog 44 #[ptrTo g, .agg #[.int .i64 4, .int .i64 key, .int .i64 val, sl]] w (StepPost w base n g gs vd d ⟨false, d.length, [], []⟩) := by
  have H := Lib.hid h; clear h
  go_enter Try.func44, Try.ntmps44
  go_wp2_with fail
  refine (size_any (H.out.bel (((Bel.refl w).alloc _).alloc _))).mono ?_
  rintro e w1 ⟨rfl, hw⟩
  obtain ⟨hB, hto⟩ := res_bel H.out (bel_eq hw)
  clear hw
  obtain ⟨⟨b0, b1, b2, b3⟩, z0, z1, z2, z3⟩ := four_cells hB
  have HB := Lib.hid (And.intro hB hto); clear hB hto
  go_wp2
  have HF := HB.out.2.res HB.out.1 (Nat.le_succ _) (.bool false) (.int .i64 d.length) (.slice none 0 0) (.slice none 0 0)
  obtain ⟨⟨q0, q1, q2, q3⟩, _⟩ := four_cells HF.2
  exact bodyPost_ret (v := ansV ⟨false, d.length, [], []⟩ (.slice none 0 0) (.slice none 0 0)) (by simp [results, Try.results44, go_sem, q0, q1, q2, q3]) rfl (stepPost_mk (ansO_res (ansO_nil _ _ _ _) HB.out.1 _ _ _ _) HF.1)
set_option maxHeartbeats 400000 in
theorem setStep_cap {w : World} {base n g gs : Nat} {vd : Value} {d : List Pl.Ent} {sp : List Int} (h : SetW w base n g gs vd d sp) (_hn : n ≤ 1000000) (key val : Int) (sl : Value) :
    Calls Try.prog 44 #[ptrTo g, .agg #[.int .i64 9, .int .i64 key, .int .i64 val, sl]] w (StepPost w base n g gs vd d ⟨false, n, [], []⟩) := by
  have H := Lib.hid h; clear h
  go_enter Try.func44, Try.ntmps44
  go_wp2_with fail
  refine (cap_any (H.out.bel (((Bel.refl w).alloc _).alloc _))).mono ?_
  rintro e w1 ⟨rfl, hw⟩
  obtain ⟨hB, hto⟩ := res_bel H.out (bel_eq hw)
  clear hw
  obtain ⟨⟨b0, b1, b2, b3⟩, z0, z1, z2, z3⟩ := four_cells hB
  have HB := Lib.hid (And.intro hB hto); clear hB hto
  go_wp2
  have HF := HB.out.2.res HB.out.1 (Nat.le_succ _) (.bool false) (.int .i64 n) (.slice none 0 0) (.slice none 0 0)
  obtain ⟨⟨q0, q1, q2, q3⟩, _⟩ := four_cells HF.2
  exact bodyPost_ret (v := ansV ⟨false, n, [], []⟩ (.slice none 0 0) (.slice none 0 0)) (by simp [results, Try.results44, go_sem, q0, q1, q2, q3]) rfl (stepPost_mk (ansO_res (ansO_nil _ _ _ _) HB.out.1 _ _ _ _) HF.1)
set_option maxHeartbeats 400000 in
theorem setStep_clear {w : World} {base n g gs : Nat} {vd : Value} {d : List Pl.Ent} {sp : List Int} (h : SetW w base n g gs vd d sp) (_hn : n ≤ 1000000) (key val : Int) (sl : Value) :
    Calls Try.prog 44 #[ptrTo g, .agg #[.int .i64 5, .int .i64 key, .int .i64 val, sl]] w (StepPost w base n g gs vd [] Pl.ans0) := by
  have H := Lib.hid h; clear h
  go_enter Try.func44, Try.ntmps44
  go_wp2_with fail
  refine (clear_any (H.out.bel (((Bel.refl w).alloc _).alloc _))).mono ?_
  rintro e w1 ⟨⟨v, rfl⟩, hto⟩
  obtain ⟨hB, hto⟩ := res_of H.out hto
  obtain ⟨⟨b0, b1, b2, b3⟩, z0, z1, z2, z3⟩ := four_cells hB
  have HB := Lib.hid (And.intro hB hto); clear hB hto
  go_wp2
  have HF := HB.out.2.res HB.out.1 (Nat.le_succ _) (.bool false) (.int .i64 0) (.slice none 0 0) (.slice none 0 0)
  obtain ⟨⟨q0, q1, q2, q3⟩, _⟩ := four_cells HF.2
  exact bodyPost_ret (v := ansV Pl.ans0 (.slice none 0 0) (.slice none 0 0)) (by simp [results, Try.results44, go_sem, q0, q1, q2, q3, Pl.ans0]) rfl (stepPost_mk (ansO_res (ansO_nil _ _ _ _) HB.out.1 _ _ _ _) HF.1)
set_option maxHeartbeats 400000 in
theorem setStep_pop {w : World} {base n g gs : Nat} {vd : Value} {d : List Pl.Ent} {sp : List Int} (h : SetW w base n g gs vd d sp) (hn : n ≤ 1000000) {y : Pl.Ent} (hy : d[d.length - 1]? = some y) (key val : Int) (sl : Value) :
    Calls Try.prog 44 #[ptrTo g, .agg #[.int .i64 6, .int .i64 key, .int .i64 val, sl]] w (StepPost w base n g gs vd (d.take (d.length - 1)) ⟨true, y.1, [], []⟩) := by
  have H := Lib.hid h; clear h
  have hd0 : 0 < d.length := by have := (List.getElem?_eq_some_iff.1 hy).1; omega
  have hd1 : ((d.length : Int) == 0) = false := beq_eq_false_iff_ne.2 (by omega)
  have hyr := H.out.hi.ix _ y hy
  have hy0 := hyr.1
  have hy1 : y.1 < 1000000 := by have := hyr.2.1; omega
  clear hyr
  have HY := Lib.hid hy; clear hy
  go_enter Try.func44, Try.ntmps44
  go_wp2_with fail
  refine (size_any (H.out.bel (((Bel.refl w).alloc _).alloc _))).mono ?_
  rintro e w0 ⟨rfl, rfl⟩
  go_wp2_with fail
  refine (Pop_any (H.out.bel (((Bel.refl w).alloc _).alloc _)) hn HY.out).mono ?_
  rintro e w1 ⟨rfl, hto⟩
  obtain ⟨hB, hto⟩ := res_of H.out hto
  obtain ⟨⟨b0, b1, b2, b3⟩, z0, z1, z2, z3⟩ := four_cells hB
  have HB := Lib.hid (And.intro hB hto); clear hB hto
  go_wp2
  have HF := HB.out.2.res HB.out.1 (Nat.le_succ _) (.bool true) (.int .i64 y.1) (.slice none 0 0) (.slice none 0 0)
  obtain ⟨⟨q0, q1, q2, q3⟩, _⟩ := four_cells HF.2
  exact bodyPost_ret (v := ansV ⟨true, y.1, [], []⟩ (.slice none 0 0) (.slice none 0 0)) (by simp [results, Try.results44, go_sem, q0, q1, q2, q3]) rfl (stepPost_mk (ansO_res (ansO_nil _ _ _ _) HB.out.1 _ _ _ _) HF.1)
set_option maxHeartbeats 400000 in
theorem setStep_none {w : World} {base n g gs : Nat} {vd : Value} {d : List Pl.Ent} {sp : List Int} (h : SetW w base n g gs vd d sp) (_hn : n ≤ 1000000) (hd0 : d = []) (key val : Int) (sl : Value) :
    Calls Try.prog 44 #[ptrTo g, .agg #[.int .i64 6, .int .i64 key, .int .i64 val, sl]] w (StepPost w base n g gs vd [] Pl.ans0) := by
  have H := Lib.hid h; clear h
  subst hd0
  go_enter Try.func44, Try.ntmps44
  go_wp2_with fail
  refine (size_any (H.out.bel (((Bel.refl w).alloc _).alloc _))).mono ?_
  rintro e w1 ⟨rfl, hw⟩
  obtain ⟨hB, hto⟩ := res_bel H.out (bel_eq hw)
  clear hw
  have hz : ((([] : List Pl.Ent).length : Int) == 0) = true := rfl
  obtain ⟨⟨b0, b1, b2, b3⟩, z0, z1, z2, z3⟩ := four_cells hB
  have HB := Lib.hid (And.intro hB hto); clear hB hto
  go_wp2
  have HF := HB.out.2.res HB.out.1 (Nat.le_succ _) (.bool false) (.int .i64 0) (.slice none 0 0) (.slice none 0 0)
  obtain ⟨⟨q0, q1, q2, q3⟩, _⟩ := four_cells HF.2
  exact bodyPost_ret (v := ansV Pl.ans0 (.slice none 0 0) (.slice none 0 0)) (by simp [results, Try.results44, go_sem, q0, q1, q2, q3, Pl.ans0]) rfl (stepPost_mk (ansO_res (ansO_nil _ _ _ _) HB.out.1 _ _ _ _) HF.1)
set_option maxHeartbeats 400000 in
theorem setStep_all {w : World} {base n g gs : Nat} {vd : Value} {d : List Pl.Ent} {sp : List Int} (h : SetW w base n g gs vd d sp) (hn : n ≤ 1000000) (key val : Int) (sl : Value) :
    Calls Try.prog 44 #[ptrTo g, .agg #[.int .i64 7, .int .i64 key, .int .i64 val, sl]] w (StepPost w base n g gs vd d ⟨false, 0, d.map (·.1), []⟩) := by
  have H := Lib.hid h; clear h
  have hle := H.out.hi.le
  have HR : Hid (∀ e ∈ d, 0 ≤ e.1 ∧ e.1 ≤ 1000000) := Lib.hid (fun e he => by
    obtain ⟨i, hi, rfl⟩ := List.getElem_of_mem he
    have := H.out.hi.ix i _ (List.getElem?_eq_getElem hi)
    omega)
  go_enter Try.func44, Try.ntmps44
  go_wp2_with fail
  refine (contents_any (H.out.bel (((Bel.refl w).alloc _).alloc _))).mono ?_
  rintro e w0 ⟨rfl, rfl⟩
  go_wp2_with fail
  refine (numbers_any (base := base) (H.out.bel (((Bel.refl w).alloc _).alloc _)).hd (by omega) HR.out (by have := H.out.hb.1; have := H.out.hg.lt; simp; omega)).mono ?_
  rintro e w1 ⟨u, rfl, hu, hb1⟩
  obtain ⟨hB, hto⟩ := res_bel H.out hb1
  clear hb1
  have HU := Lib.hid hu
  have hal : (d.map (·.1)).length = d.length := by simp
  have HAO : Hid (AnsO w1 base u (.slice none 0 0) ⟨false, 0, d.map (·.1), []⟩) := Lib.hid ⟨by rw [hal]; exact hu, World.ownsRow_nil _ _ _ _⟩
  clear hal
  obtain ⟨ua, uc, rfl, _, _, _⟩ := own_form hu
  clear hu
  obtain ⟨⟨b0, b1, b2, b3⟩, z0, z1, z2, z3⟩ := four_cells hB
  have HB := Lib.hid (And.intro hB hto); clear hB hto
  go_wp2
  have HF := HB.out.2.res HB.out.1 (Nat.le_succ _) (.bool false) (.int .i64 0) (.slice ua d.length uc) (.slice none 0 0)
  obtain ⟨⟨q0, q1, q2, q3⟩, _⟩ := four_cells HF.2
  exact bodyPost_ret (v := ansV ⟨false, 0, d.map (·.1), []⟩ (.slice ua d.length uc) (.slice none 0 0)) (by simp [results, Try.results44, go_sem, q0, q1, q2, q3]) rfl (stepPost_mk (ansO_res (HAO.out) HB.out.1 _ _ _ _) HF.1)
set_option maxHeartbeats 400000 in
theorem setStep_addAll {w : World} {base n g gs : Nat} {vd : Value} {d : List Pl.Ent} {sp : List Int} (h : SetW w base n g gs vd d sp) (hn : n ≤ 1000000) (key val : Int) (sl : Value) (l : List Int) (hsl : IntS w sl l) (hll : l.length ≤ 1000000) (hr : ∀ x ∈ l, 0 ≤ x ∧ x < n) :
    Calls Try.prog 44 #[ptrTo g, .agg #[.int .i64 8, .int .i64 key, .int .i64 val, sl]] w (StepPost w base n g gs vd (addAllE d l) Pl.ans0) := by
  have H := Lib.hid h; clear h
  have HS := Lib.hid hsl; clear hsl
  have HR := Lib.hid hr; clear hr
  go_enter Try.func44, Try.ntmps44
  go_wp2_with fail
  refine (ids_small (HS.out.bel (((Bel.refl w).alloc _).alloc _)) hll (fun x hx => by have := HR.out x hx; omega)).mono ?_
  rintro e w0 ⟨u, rfl, hu, hb0⟩
  have HU := Lib.hid hu; clear hu
  have HB0 := Lib.hid hb0; clear hb0
  go_wp2_with fail
  refine (AddAll_any (H.out.bel (blk2 HB0.out).2.2) hn HU.out (fun b hb hv => by
    have h1 := (HU.out.lt b hb).1
    have h2 := (H.out.hd.lt b hv).2
    simp at h1
    omega) hll HR.out).mono ?_
  rintro e w1 ⟨⟨v, rfl⟩, hto⟩
  obtain ⟨hB, hto⟩ := res_of H.out (SetTo.of_bel HB0.out hto)
  obtain ⟨⟨b0, b1, b2, b3⟩, z0, z1, z2, z3⟩ := four_cells hB
  have HB := Lib.hid (And.intro hB hto); clear hB hto
  go_wp2
  have HF := HB.out.2.res HB.out.1 (Nat.le_succ _) (.bool false) (.int .i64 0) (.slice none 0 0) (.slice none 0 0)
  obtain ⟨⟨q0, q1, q2, q3⟩, _⟩ := four_cells HF.2
  exact bodyPost_ret (v := ansV Pl.ans0 (.slice none 0 0) (.slice none 0 0)) (by simp [results, Try.results44, go_sem, q0, q1, q2, q3, Pl.ans0]) rfl (stepPost_mk (ansO_res (ansO_nil _ _ _ _) HB.out.1 _ _ _ _) HF.1)
set_option maxHeartbeats 400000 in
theorem setStep_other {w : World} {base n g gs : Nat} {vd : Value} {d : List Pl.Ent} {sp : List Int} (h : SetW w base n g gs vd d sp) (kind key val : Int) (sl : Value) (hk : ∀ x ∈ [(0 : Int), 1, 2, 4, 5, 6, 7, 8, 9], kind ≠ x) :
    Calls Try.prog 44 #[ptrTo g, .agg #[.int .i64 kind, .int .i64 key, .int .i64 val, sl]] w (StepPost w base n g gs vd d Pl.ans0) := by
  have q0 : (kind == 0) = false := beq_eq_false_iff_ne.2 (hk 0 (by simp))
  have q1 : (kind == 1) = false := beq_eq_false_iff_ne.2 (hk 1 (by simp))
  have q2 : (kind == 2) = false := beq_eq_false_iff_ne.2 (hk 2 (by simp))
  have q4 : (kind == 4) = false := beq_eq_false_iff_ne.2 (hk 4 (by simp))
  have q5 : (kind == 5) = false := beq_eq_false_iff_ne.2 (hk 5 (by simp))
  have q6 : (kind == 6) = false := beq_eq_false_iff_ne.2 (hk 6 (by simp))
  have q7 : (kind == 7) = false := beq_eq_false_iff_ne.2 (hk 7 (by simp))
  have q8 : (kind == 8) = false := beq_eq_false_iff_ne.2 (hk 8 (by simp))
  have q9 : (kind == 9) = false := beq_eq_false_iff_ne.2 (hk 9 (by simp))
  clear hk
  have hF : SetTo w ((w.alloc (.cells #[.int .i64 kind, .int .i64 key, .int .i64 val, sl] 39)).alloc (.cells #[.bool false, .int .i64 0, .slice none 0 0, .slice none 0 0] 43)) base n g gs vd d := (res_bel h (Bel.refl _)).2
  have HF := Lib.hid hF; clear hF h
  go_enter Try.func44, Try.ntmps44
  go_wp2
  exact bodyPost_ret (v := ansV Pl.ans0 (.slice none 0 0) (.slice none 0 0)) (by simp [results, Try.results44, go_sem, Pl.ans0]) rfl (stepPost_mk (ansO_nil _ _ _ _) HF.out)
end Go.Proofs.Ytdmjcgipfkhibaa
