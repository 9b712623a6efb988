/- The walk of impl.biasedStep. -/
import Derived.Test.YtdmjcgipfkhibaaBia2
namespace Go.Proofs.Ytdmjcgipfkhibaa
open Go.RowKit

def BStepPost (w : World) (base n g gs gb : Nat) (f : Int) (vd : Value) (d' : List Pl.Ent) (A : Pl.Ans) (e : Ending) (w' : World) : Prop :=
  ∃ k x, e = .returned (ansV A k x) ∧ AnsO w' base k x A ∧ BiaTo w w' base n g gs gb f vd d'
theorem bStepPost_mk {w w' : World} {base n g gs gb : Nat} {f : Int} {vd : Value} {d' : List Pl.Ent} {A : Pl.Ans} {k x : Value} (ha : AnsO w' base k x A) (hs : BiaTo w w' base n g gs gb f vd d') : BStepPost w base n g gs gb f vd d' A (.returned (ansV A k x)) w' := ⟨k, x, rfl, ha, hs⟩
theorem BiaTo.map {w w' : World} {base n g gs gb : Nat} {f : Int} {vd : Value} {d' : List Pl.Ent} (h : BiaTo w w' base n g gs gb f vd d') : MapTo w w' base n g gs vd d' := by
  obtain ⟨vd', sp', h1, h2, h3⟩ := h
  exact ⟨vd', sp', h1.hm, h2, h3⟩
theorem bres_of {w w1 : World} {base n g gs gb : Nat} {f : Int} {vd : Value} {d d' : List Pl.Ent} {sp : List Int} {cs ds : List Value} {t u : TypeId} (h : BiaW w base n g gs gb f vd d sp)
    (hto : BiaTo ((w.alloc (.cells cs.toArray t)).alloc (.cells ds.toArray u)) w1 base n g gs gb f vd d') : Blk w1 (w.heap.size + 1) u ds ∧ BiaTo w w1 base n g gs gb f vd d' :=
  ⟨(mres_of h.hm hto.map).1, BiaTo.of_bel (((Bel.refl w).alloc _).alloc _) hto⟩
theorem bres_bel {w w1 : World} {base n g gs gb : Nat} {f : Int} {vd : Value} {d : List Pl.Ent} {sp : List Int} {cs ds : List Value} {t u : TypeId} (h : BiaW w base n g gs gb f vd d sp)
    (hb : Bel ((w.alloc (.cells cs.toArray t)).alloc (.cells ds.toArray u)) w1) : Blk w1 (w.heap.size + 1) u ds ∧ BiaTo w w1 base n g gs gb f vd d := by
  obtain ⟨_, a, b⟩ := blk2 hb
  exact ⟨a, BiaTo.same h b⟩
/-- The result is stored. -/
theorem BiaTo.res {w w1 : World} {base n g gs gb b : Nat} {f : Int} {vd : Value} {d : List Pl.Ent} {c0 c1 c2 c3 : Value} (hto : BiaTo w w1 base n g gs gb f vd d) (hB : Blk w1 b 43 [c0, c1, c2, c3]) (hb : w.heap.size ≤ b) (v0 v1 v2 v3 : Value) :
    BiaTo w ((((w1.setCell ⟨b, 0, none⟩ v0).setCell ⟨b, 1, none⟩ v1).setCell ⟨b, 2, none⟩ v2).setCell ⟨b, 3, none⟩ v3) base n g gs gb f vd d ∧ Blk ((((w1.setCell ⟨b, 0, none⟩ v0).setCell ⟨b, 1, none⟩ v1).setCell ⟨b, 2, none⟩ v2).setCell ⟨b, 3, none⟩ v3) b 43 [v0, v1, v2, v3] := by
  obtain ⟨vd', sp', h1, h2, h3⟩ := hto
  have hgb : gb ≠ b := h1.hb.ne hB (by decide)
  have hg : g ≠ b := h1.hm.hg.ne hB (by decide)
  have hs : gs ≠ b := h1.hm.hs.ne hB (by decide)
  have hd := own_ne h1.hm.hd hB (by decide)
  refine ⟨⟨vd', sp', ⟨?_, ⟨?_, ?_, ?_, h1.hm.hi, h1.hm.hz, h1.hm.hb⟩, h1.hg⟩, ?_, h3⟩, (((hB.set 0 v0).set 1 v1).set 2 v2).set 3 v3⟩
  · exact (((h1.hb.far (p := ⟨b, 0, none⟩) hgb _).far (p := ⟨b, 1, none⟩) hgb _).far (p := ⟨b, 2, none⟩) hgb _).far (p := ⟨b, 3, none⟩) hgb _
  · exact (((h1.hm.hg.far (p := ⟨b, 0, none⟩) hg _).far (p := ⟨b, 1, none⟩) hg _).far (p := ⟨b, 2, none⟩) hg _).far (p := ⟨b, 3, none⟩) hg _
  · exact (((h1.hm.hs.far (p := ⟨b, 0, none⟩) hs _).far (p := ⟨b, 1, none⟩) hs _).far (p := ⟨b, 2, none⟩) hs _).far (p := ⟨b, 3, none⟩) hs _
  · exact ownsRow_setCell_other (ownsRow_setCell_other (ownsRow_setCell_other (ownsRow_setCell_other h1.hm.hd (a := ⟨b, 0, none⟩) hd _) (a := ⟨b, 1, none⟩) hd _) (a := ⟨b, 2, none⟩) hd _) (a := ⟨b, 3, none⟩) hd _
  · exact (((h2.setCell (p := ⟨b, 0, none⟩) (.inr hb) _).setCell (p := ⟨b, 1, none⟩) (.inr hb) _).setCell (p := ⟨b, 2, none⟩) (.inr hb) _).setCell (p := ⟨b, 3, none⟩) (.inr hb) _
set_option maxHeartbeats 1000000 in
theorem biaStep_add {w : World} {base n g gs gb : Nat} {f : Int} {vd : Value} {d : List Pl.Ent} {sp : List Int} (h : BiaW w base n g gs gb f vd d sp) (hn : n ≤ 1000000) (f0 : 0 ≤ f) (f1 : f ≤ 1073741824) (x : Int) (hx : KeyIn x) (val : Int) (hv : Val32 val) (sl : Value) :
    Calls Try.prog 42 #[mptr gb, .agg #[.int .i64 0, .int .i64 x, .int .i64 val, sl]] w (BStepPost w base n g gs gb f vd (bputE n f d x val) Pl.ans0) := by
  have H := Lib.hid h; clear h
  have x0 := hx.x0
  have x1 := hx.x1
  have hv0 := hv.1
  have hv1 := hv.2
  go_enter Try.func42, Try.ntmps42
  go_wp2_with fail
  refine (bSet_any (H.out.bel (((Bel.refl w).alloc _).alloc _)) hn f0 f1 hx val hv).mono ?_
  rintro e w1 ⟨⟨v, rfl⟩, hto⟩
  obtain ⟨hB, hto⟩ := bres_of H.out hto
  obtain ⟨⟨b0, b1, b2, b3⟩, z0, z1, z2, z3⟩ := four_cells hB
  have HB := Lib.hid (And.intro hB hto); clear hB hto
  go_wp2
  have HF := HB.out.2.res HB.out.1 (Nat.le_succ _) (.bool false) (.int .i64 0) (.slice none 0 0) (.slice none 0 0)
  obtain ⟨⟨q0, q1, q2, q3⟩, _⟩ := four_cells HF.2
  exact bodyPost_ret (v := ansV Pl.ans0 (.slice none 0 0) (.slice none 0 0)) (by simp [results, Try.results42, go_sem, q0, q1, q2, q3, Pl.ans0]) rfl (bStepPost_mk (ansO_res (ansO_nil _ _ _ _) HB.out.1 _ _ _ _) HF.1)
set_option maxHeartbeats 1000000 in
theorem biaStep_rem {w : World} {base n g gs gb : Nat} {f : Int} {vd : Value} {d : List Pl.Ent} {sp : List Int} (h : BiaW w base n g gs gb f vd d sp) (hn : n ≤ 1000000) (f0 : 0 ≤ f) (f1 : f ≤ 1073741824) (x : Int) (hx : KeyIn x) (val : Int) (sl : Value) :
    Calls Try.prog 42 #[mptr gb, .agg #[.int .i64 1, .int .i64 x, .int .i64 val, sl]] w (BStepPost w base n g gs gb f vd (outE d (x - f)) Pl.ans0) := by
  have H := Lib.hid h; clear h
  have x0 := hx.x0
  have x1 := hx.x1
  go_enter Try.func42, Try.ntmps42
  go_wp2_with fail
  refine (bRemove_any (H.out.bel (((Bel.refl w).alloc _).alloc _)) hn f0 f1 hx).mono ?_
  rintro e w1 ⟨⟨v, rfl⟩, hto⟩
  obtain ⟨hB, hto⟩ := bres_of H.out hto
  obtain ⟨⟨b0, b1, b2, b3⟩, z0, z1, z2, z3⟩ := four_cells hB
  have HB := Lib.hid (And.intro hB hto); clear hB hto
  go_wp2
  have HF := HB.out.2.res HB.out.1 (Nat.le_succ _) (.bool false) (.int .i64 0) (.slice none 0 0) (.slice none 0 0)
  obtain ⟨⟨q0, q1, q2, q3⟩, _⟩ := four_cells HF.2
  exact bodyPost_ret (v := ansV Pl.ans0 (.slice none 0 0) (.slice none 0 0)) (by simp [results, Try.results42, go_sem, q0, q1, q2, q3, Pl.ans0]) rfl (bStepPost_mk (ansO_res (ansO_nil _ _ _ _) HB.out.1 _ _ _ _) HF.1)
set_option maxHeartbeats 1000000 in
theorem biaStep_has {w : World} {base n g gs gb : Nat} {f : Int} {vd : Value} {d : List Pl.Ent} {sp : List Int} (h : BiaW w base n g gs gb f vd d sp) (hn : n ≤ 1000000) (f0 : 0 ≤ f) (f1 : f ≤ 1073741824) (x : Int) (hx : KeyIn x) (val : Int) (sl : Value) :
    Calls Try.prog 42 #[mptr gb, .agg #[.int .i64 2, .int .i64 x, .int .i64 val, sl]] w (BStepPost w base n g gs gb f vd d ⟨hasB (shE f d) x, 0, [], []⟩) := by
  have H := Lib.hid h; clear h
  have x0 := hx.x0
  have x1 := hx.x1
  go_enter Try.func42, Try.ntmps42
  go_wp2_with fail
  refine (bContains_any (H.out.bel (((Bel.refl w).alloc _).alloc _)) hn f0 f1 hx).mono ?_
  rintro e w1 ⟨rfl, hb⟩
  obtain ⟨hB, hto⟩ := bres_bel H.out hb
  obtain ⟨⟨b0, b1, b2, b3⟩, z0, z1, z2, z3⟩ := four_cells hB
  have HB := Lib.hid (And.intro hB hto); clear hB hto
  go_wp2
  have HF := HB.out.2.res HB.out.1 (Nat.le_succ _) (.bool (hasB (shE f d) x)) (.int .i64 0) (.slice none 0 0) (.slice none 0 0)
  obtain ⟨⟨q0, q1, q2, q3⟩, _⟩ := four_cells HF.2
  exact bodyPost_ret (v := ansV ⟨hasB (shE f d) x, 0, [], []⟩ (.slice none 0 0) (.slice none 0 0)) (by simp [results, Try.results42, go_sem, q0, q1, q2, q3]) rfl (bStepPost_mk (ansO_res (ansO_nil _ _ _ _) HB.out.1 _ _ _ _) HF.1)
set_option maxHeartbeats 1000000 in
theorem biaStep_get {w : World} {base n g gs gb : Nat} {f : Int} {vd : Value} {d : List Pl.Ent} {sp : List Int} (h : BiaW w base n g gs gb f vd d sp) (hn : n ≤ 1000000) (f0 : 0 ≤ f) (f1 : f ≤ 1073741824) (x : Int) (hx : KeyIn x) (val : Int) (sl : Value) :
    Calls Try.prog 42 #[mptr gb, .agg #[.int .i64 3, .int .i64 x, .int .i64 val, sl]] w (BStepPost w base n g gs gb f vd d ⟨hasB (shE f d) x, getV (shE f d) x, [], []⟩) := by
  have H := Lib.hid h; clear h
  have x0 := hx.x0
  have x1 := hx.x1
  obtain ⟨hv0, hv1⟩ : Val32 (getV (shE f d) x) := by rw [getV_sh]; exact getV_32 H.out.hm.hz _
  go_enter Try.func42, Try.ntmps42
  go_wp2_with fail
  refine (bGet_any (H.out.bel (((Bel.refl w).alloc _).alloc _)) hn f0 f1 hx).mono ?_
  rintro e w1 ⟨rfl, hb⟩
  obtain ⟨hB, hto⟩ := bres_bel H.out hb
  obtain ⟨⟨b0, b1, b2, b3⟩, z0, z1, z2, z3⟩ := four_cells hB
  have HB := Lib.hid (And.intro hB hto); clear hB hto
  go_wp2
  have HF := HB.out.2.res HB.out.1 (Nat.le_succ _) (.bool (hasB (shE f d) x)) (.int .i64 (getV (shE f d) x)) (.slice none 0 0) (.slice none 0 0)
  obtain ⟨⟨q0, q1, q2, q3⟩, _⟩ := four_cells HF.2
  exact bodyPost_ret (v := ansV ⟨hasB (shE f d) x, getV (shE f d) x, [], []⟩ (.slice none 0 0) (.slice none 0 0)) (by simp [results, Try.results42, go_sem, q0, q1, q2, q3]) rfl (bStepPost_mk (ansO_res (ansO_nil _ _ _ _) HB.out.1 _ _ _ _) HF.1)
set_option maxHeartbeats 1000000 in
theorem biaStep_size {w : World} {base n g gs gb : Nat} {f : Int} {vd : Value} {d : List Pl.Ent} {sp : List Int} (h : BiaW w base n g gs gb f vd d sp) (_hn : n ≤ 1000000) (_f0 : 0 ≤ f) (_f1 : f ≤ 1073741824) (x : Int) (hx : KeyIn x) (val : Int) (sl : Value) :
    Calls Try.prog 42 #[mptr gb, .agg #[.int .i64 4, .int .i64 x, .int .i64 val, sl]] w (BStepPost w base n g gs gb f vd d ⟨false, d.length, [], []⟩) := by
  have H := Lib.hid h; clear h
  have x0 := hx.x0
  have x1 := hx.x1
  go_enter Try.func42, Try.ntmps42
  go_wp2_with fail
  refine (bSize_any (H.out.bel (((Bel.refl w).alloc _).alloc _))).mono ?_
  rintro e w1 ⟨rfl, hw⟩
  have hb := bel_eq hw
  clear hw
  obtain ⟨hB, hto⟩ := bres_bel H.out hb
  obtain ⟨⟨b0, b1, b2, b3⟩, z0, z1, z2, z3⟩ := four_cells hB
  have HB := Lib.hid (And.intro hB hto); clear hB hto
  go_wp2
  have HF := HB.out.2.res HB.out.1 (Nat.le_succ _) (.bool false) (.int .i64 d.length) (.slice none 0 0) (.slice none 0 0)
  obtain ⟨⟨q0, q1, q2, q3⟩, _⟩ := four_cells HF.2
  exact bodyPost_ret (v := ansV ⟨false, d.length, [], []⟩ (.slice none 0 0) (.slice none 0 0)) (by simp [results, Try.results42, go_sem, q0, q1, q2, q3]) rfl (bStepPost_mk (ansO_res (ansO_nil _ _ _ _) HB.out.1 _ _ _ _) HF.1)
set_option maxHeartbeats 1000000 in
theorem biaStep_clear {w : World} {base n g gs gb : Nat} {f : Int} {vd : Value} {d : List Pl.Ent} {sp : List Int} (h : BiaW w base n g gs gb f vd d sp) (_hn : n ≤ 1000000) (_f0 : 0 ≤ f) (_f1 : f ≤ 1073741824) (x : Int) (hx : KeyIn x) (val : Int) (sl : Value) :
    Calls Try.prog 42 #[mptr gb, .agg #[.int .i64 5, .int .i64 x, .int .i64 val, sl]] w (BStepPost w base n g gs gb f vd [] Pl.ans0) := by
  have H := Lib.hid h; clear h
  have x0 := hx.x0
  have x1 := hx.x1
  go_enter Try.func42, Try.ntmps42
  go_wp2_with fail
  refine (bClear_any (H.out.bel (((Bel.refl w).alloc _).alloc _))).mono ?_
  rintro e w1 ⟨⟨v, rfl⟩, hto⟩
  obtain ⟨hB, hto⟩ := bres_of H.out hto
  obtain ⟨⟨b0, b1, b2, b3⟩, z0, z1, z2, z3⟩ := four_cells hB
  have HB := Lib.hid (And.intro hB hto); clear hB hto
  go_wp2
  have HF := HB.out.2.res HB.out.1 (Nat.le_succ _) (.bool false) (.int .i64 0) (.slice none 0 0) (.slice none 0 0)
  obtain ⟨⟨q0, q1, q2, q3⟩, _⟩ := four_cells HF.2
  exact bodyPost_ret (v := ansV Pl.ans0 (.slice none 0 0) (.slice none 0 0)) (by simp [results, Try.results42, go_sem, q0, q1, q2, q3, Pl.ans0]) rfl (bStepPost_mk (ansO_res (ansO_nil _ _ _ _) HB.out.1 _ _ _ _) HF.1)
set_option maxHeartbeats 1000000 in
theorem biaStep_cap {w : World} {base n g gs gb : Nat} {f : Int} {vd : Value} {d : List Pl.Ent} {sp : List Int} (h : BiaW w base n g gs gb f vd d sp) (hn : n ≤ 1000000) (f0 : 0 ≤ f) (f1 : f ≤ 1073741824) (x : Int) (hx : KeyIn x) (val : Int) (sl : Value) :
    Calls Try.prog 42 #[mptr gb, .agg #[.int .i64 9, .int .i64 x, .int .i64 val, sl]] w (BStepPost w base n g gs gb f vd d ⟨false, (n : Int) + f, [], []⟩) := by
  have H := Lib.hid h; clear h
  have x0 := hx.x0
  have x1 := hx.x1
  go_enter Try.func42, Try.ntmps42
  go_wp2_with fail
  refine (bCap_any (H.out.bel (((Bel.refl w).alloc _).alloc _)) hn f0 f1).mono ?_
  rintro e w1 ⟨rfl, hb⟩
  obtain ⟨hB, hto⟩ := bres_bel H.out hb
  obtain ⟨⟨b0, b1, b2, b3⟩, z0, z1, z2, z3⟩ := four_cells hB
  have HB := Lib.hid (And.intro hB hto); clear hB hto
  go_wp2
  have HF := HB.out.2.res HB.out.1 (Nat.le_succ _) (.bool false) (.int .i64 ((n : Int) + f)) (.slice none 0 0) (.slice none 0 0)
  obtain ⟨⟨q0, q1, q2, q3⟩, _⟩ := four_cells HF.2
  exact bodyPost_ret (v := ansV ⟨false, (n : Int) + f, [], []⟩ (.slice none 0 0) (.slice none 0 0)) (by simp [results, Try.results42, go_sem, q0, q1, q2, q3]) rfl (bStepPost_mk (ansO_res (ansO_nil _ _ _ _) HB.out.1 _ _ _ _) HF.1)

theorem shE_take (f : Int) (d : List Pl.Ent) (j : Nat) (e : Pl.Ent) (h : d[j]? = some e) : ((shE f d).map (·.1)).take (j + 1) = ((shE f d).map (·.1)).take j ++ [e.1 + f] ∧ ((shE f d).map (·.2)).take (j + 1) = ((shE f d).map (·.2)).take j ++ [e.2] := by
  have h1 : (shE f d)[j]? = some (e.1 + f, e.2) := by unfold shE; rw [List.getElem?_map, h]; rfl
  constructor
  · rw [List.take_add_one, List.getElem?_map, h1]; rfl
  · rw [List.take_add_one, List.getElem?_map, h1]; rfl
theorem shE_length (f : Int) (d : List Pl.Ent) : (shE f d).length = d.length := by unfold shE; rw [List.length_map]

/-- Two rows in blocks of their own. -/
def Apart (k v : Value) : Prop := ∀ q, k.ownBlock = some q → v.ownBlock ≠ some q
theorem kept_apart {w w' : World} {b : Nat} {e : TypeId} {size n : Nat} {v u : Value} {xs : List Value} (h : w.ownsRow b e size v n xs) (hg : w.grownBy w' u.ownBlock) (ha : Apart u v) : w'.ownsRow b e size v n xs := by
  refine h.kept hg ?_
  cases hv : v.ownBlock with
  | none => exact .inl rfl
  | some q => exact .inr (fun e => ha q e.symm hv)
theorem Apart.symm {k v : Value} (h : Apart k v) : Apart v k := fun q h1 h2 => h q h2 h1
theorem Apart.new {w : World} {k k1 v : Value} {b : Nat} {e : TypeId} {size n : Nat} {xs : List Value} {H : Nat} (h : Apart k v) (hv : w.ownsRow b e size v n xs) (hH : w.heap.size ≤ H) (hk : k1.ownBlock = k.ownBlock ∨ k1.ownBlock = some H) : Apart k1 v := fun q h1 h2 => by
  rcases hk with hk | hk
  · exact h q (hk ▸ h1) h2
  · rw [hk] at h1
    cases h1
    have := (hv.lt _ h2).2
    omega

set_option maxHeartbeats 2000000 in
theorem biaStep_all {w : World} {base n g gs gb : Nat} {f : Int} {vd : Value} {d : List Pl.Ent} {sp : List Int} (h : BiaW w base n g gs gb f vd d sp) (hn : n ≤ 1000000) (f0 : 0 ≤ f) (f1 : f ≤ 1073741824) (x : Int) (hx : KeyIn x) (val : Int) (sl : Value) :
    Calls Try.prog 42 #[mptr gb, .agg #[.int .i64 7, .int .i64 x, .int .i64 val, sl]] w (BStepPost w base n g gs gb f vd d ⟨false, 0, (shE f d).map (·.1), (shE f d).map (·.2)⟩) := by
  have H := Lib.hid h
  have x0 := hx.x0
  have x1 := hx.x1
  have hbase := h.hm.mSize_le
  have hle := h.hm.hi.le
  clear h
  go_enter Try.func42, Try.ntmps42
  go_wp2_with fail
  have hbW := ((Bel.refl w).alloc (.cells #[.int .i64 7, .int .i64 x, .int .i64 val, sl] 39)).alloc (.cells #[.bool false, .int .i64 0, .slice none 0 0, .slice none 0 0] 43)
  have hBA := Blk.new (w.alloc (.cells #[.int .i64 7, .int .i64 x, .int .i64 val, sl] 39)) 43 [.bool false, .int .i64 0, .slice none 0 0, .slice none 0 0]
  rw [World.size_alloc] at hBA
  have hw0 : ((w.alloc (.cells #[.int .i64 7, .int .i64 x, .int .i64 val, sl] 39)).alloc (.cells #[.bool false, .int .i64 0, .slice none 0 0, .slice none 0 0] 43)).heap.size = w.heap.size + 1 + 1 := by simp
  change Blk ((w.alloc (.cells #[.int .i64 7, .int .i64 x, .int .i64 val, sl] 39)).alloc (.cells #[.bool false, .int .i64 0, .slice none 0 0, .slice none 0 0] 43)) _ _ _ at hBA
  generalize (w.alloc (.cells #[.int .i64 7, .int .i64 x, .int .i64 val, sl] 39)).alloc (.cells #[.bool false, .int .i64 0, .slice none 0 0, .slice none 0 0] 43) = w0 at hbW hBA hw0 ⊢
  have HB0 := Lib.hid hBA; clear hBA
  refine (bSize_any (H.out.bel ((hbW.alloc _).alloc _))).mono ?_
  rintro e w1 ⟨rfl, rfl⟩
  have hs0 := hbW.size
  have HO0 : Hid (((w0.alloc (.cells #[] 2)).alloc (.cells #[] 2)).ownsRow w0.heap.size 2 1 (.slice (some ⟨w.heap.size + 1 + 1, 0, none⟩) 0 0) 0 [] ∧ ((w0.alloc (.cells #[] 2)).alloc (.cells #[] 2)).ownsRow w0.heap.size 2 1 (.slice (some ⟨w.heap.size + 1 + 1 + 1, 0, none⟩) 0 0) 0 [] ∧ Apart (.slice (some ⟨w.heap.size + 1 + 1, 0, none⟩) 0 0) (.slice (some ⟨w.heap.size + 1 + 1 + 1, 0, none⟩) 0 0)) :=
    Lib.hid (by rw [← hw0]; exact ⟨(owns_empty w0 _ _ _ _ rfl (Nat.le_refl _)).alloc _, owns_empty (w0.alloc _) _ _ _ _ (by simp) (by omega), fun q h1 h2 => by simp [Value.ownBlock] at h1 h2; omega⟩)
  clear hw0
  go_wp2
  go_loopw [8, 9, 64] (fun k v i wr => ∃ j : Nat, j ≤ d.length ∧ i = .int .i64 j ∧ wr.ownsRow w0.heap.size 2 1 k j ((((shE f d).map (·.1)).take j).map (Value.int .i64)) ∧ wr.ownsRow w0.heap.size 2 1 v j ((((shE f d).map (·.2)).take j).map (Value.int .i64)) ∧ Apart k v ∧ Bel w0 wr) (fun _ _ i _ => d.length - (intOf i).toNat)
  case atStart => exact ⟨0, Nat.zero_le _, rfl, HO0.out.1, HO0.out.2.1, HO0.out.2.2, ((Bel.refl w0).alloc _).alloc _⟩
  case round =>
    obtain ⟨j, hj, rfl, hk, hv, hap, hbel⟩ := hrel
    have HK := Lib.hid hk; clear hk
    have HV := Lib.hid hv; clear hv
    have HAP := Lib.hid hap; clear hap
    have hbs := hbel.size
    have hbr := hbW.trans hbel
    by_cases hlt : j < d.length
    · obtain ⟨e, he⟩ : ∃ e, d[j]? = some e := ⟨_, List.getElem?_eq_getElem hlt⟩
      have HE := Lib.hid (shE_take f d j e he)
      have HEC := Lib.hid (bEntry_any (H.out.bel hbr) hn f0 f1 he)
      obtain ⟨k0, k1⟩ := H.out.hm.keys e (List.mem_of_getElem? he)
      obtain ⟨v0, v1⟩ := H.out.hm.hz e (List.mem_of_getElem? he)
      clear he HO0
      obtain ⟨ek, ev⟩ := e
      simp only at k0 k1 v0 v1 HE HEC
      go_wp2_with fail
      refine HEC.out.mono ?_
      rintro e w2 ⟨rfl, hb2⟩
      have hz2 := hb2.size
      go_wp2_with (at_builtin; refine wpList_push el22' rfl (.tmp 73) (.tmp 76) rfl w0.heap.size u8 j _ rfl (own_bel HK.out hb2) [.int .i64 (ek + f)] w2.heap.size rfl rfl rfl (by simp [Value.oneCell']) (by omega) (by omega) (by omega) ?_)
      intro k1' w3 ho3 hg3 hat3
      have hb3 : Bel w0 w3 := (hbel.trans hb2).grown hg3 (fun k hk => (HK.out.lt k hk).1)
      have hz3 := hb3.size
      have hV3 := kept_apart (own_bel HV.out hb2) hg3 HAP.out
      have hA3 : Apart k1' u9 := HAP.out.new (own_bel HV.out hb2) (Nat.le_succ _) hat3
      have HK3 : Hid (w3.ownsRow w0.heap.size 2 1 k1' (j + 1) ((((shE f d).map (·.1)).take (j + 1)).map (Value.int .i64))) := Lib.hid (by rw [HE.out.1, List.map_append]; simpa using ho3)
      have HV3 := Lib.hid hV3
      have HA3 := Lib.hid hA3
      clear ho3 hg3 hat3 hV3 hA3 HK HV HAP
      go_wp2_with (at_builtin; refine wpList_push el22' rfl (.tmp 78) (.tmp 81) rfl w0.heap.size u9 j _ rfl HV3.out [.int .i64 ev] w3.heap.size rfl rfl rfl (by simp [Value.oneCell']) (by omega) (by omega) (by omega) ?_)
      intro v1' w4 ho4 hg4 hat4
      have hb4 : Bel w0 w4 := hb3.grown hg4 (fun k hk => (HV3.out.lt k hk).1)
      have HK4 := Lib.hid (kept_apart HK3.out hg4 HA3.out.symm)
      have HA4 : Hid (Apart v1' k1') := Lib.hid (HA3.out.symm.new HK3.out (Nat.le_succ _) hat4)
      have HV4 : Hid (w4.ownsRow w0.heap.size 2 1 v1' (j + 1) ((((shE f d).map (·.2)).take (j + 1)).map (Value.int .i64))) := Lib.hid (by rw [HE.out.2, List.map_append]; simpa using ho4)
      clear ho4 hg4 hat4
      go_wp2
      go_roundw
      case rel => exact ⟨j + 1, by omega, by go_num, HK4.out, HV4.out, HA4.out.symm, hb4⟩
      case measure => simp [intOf]; omega
    · obtain rfl : j = d.length := by omega
      have hl1 : ((shE f d).map (·.1)).length = d.length := by rw [List.length_map, shE_length]
      have hl2 : ((shE f d).map (·.2)).length = d.length := by rw [List.length_map, shE_length]
      have hk := HK.out
      have hv := HV.out
      rw [List.take_of_length_le (by omega)] at hk hv
      have HAO : Hid (AnsO wr base u8 u9 ⟨false, 0, (shE f d).map (·.1), (shE f d).map (·.2)⟩) := Lib.hid ⟨by rw [hl1]; exact own_base hk (fun q hq => by have := (hk.lt q hq).1; omega), by rw [hl2]; exact own_base hv (fun q hq => by have := (hv.lt q hq).1; omega)⟩
      obtain ⟨ua, uc, rfl, _, _, _⟩ := own_form hk
      obtain ⟨xa, xc, rfl, _, _, _⟩ := own_form hv
      clear hk hv HK HV HAP hl1 hl2
      have hB := HB0.out.bel hbel
      obtain ⟨⟨b0, b1, b2, b3⟩, z0, z1, z2, z3⟩ := four_cells hB
      have HB := Lib.hid (And.intro hB (BiaTo.same H.out hbr)); clear hB
      go_wp2
      have HF := HB.out.2.res HB.out.1 (Nat.le_succ _) (.bool false) (.int .i64 0) (.slice ua d.length uc) (.slice xa d.length xc)
      obtain ⟨⟨q0, q1, q2, q3⟩, _⟩ := four_cells HF.2
      exact bodyPost_ret (v := ansV ⟨false, 0, (shE f d).map (·.1), (shE f d).map (·.2)⟩ (.slice ua d.length uc) (.slice xa d.length xc)) (by simp [results, Try.results42, go_sem, q0, q1, q2, q3]) rfl (bStepPost_mk (ansO_res (HAO.out) HB.out.1 _ _ _ _) HF.1)
set_option maxHeartbeats 1000000 in
theorem biaStep_other {w : World} {base n g gs gb : Nat} {f : Int} {vd : Value} {d : List Pl.Ent} {sp : List Int} (h : BiaW w base n g gs gb f vd d sp) (x : Int) (hx : KeyIn x) (kind val : Int) (sl : Value) (hkd : ∀ x ∈ [(0 : Int), 1, 2, 3, 4, 5, 7, 9], kind ≠ x) :
    Calls Try.prog 42 #[mptr gb, .agg #[.int .i64 kind, .int .i64 x, .int .i64 val, sl]] w (BStepPost w base n g gs gb f vd d Pl.ans0) := by
  have x0 := hx.x0
  have x1 := hx.x1
  have q0 : (kind == 0) = false := beq_eq_false_iff_ne.2 (hkd 0 (by simp))
  have q1 : (kind == 1) = false := beq_eq_false_iff_ne.2 (hkd 1 (by simp))
  have q2 : (kind == 2) = false := beq_eq_false_iff_ne.2 (hkd 2 (by simp))
  have q3 : (kind == 3) = false := beq_eq_false_iff_ne.2 (hkd 3 (by simp))
  have q4 : (kind == 4) = false := beq_eq_false_iff_ne.2 (hkd 4 (by simp))
  have q5 : (kind == 5) = false := beq_eq_false_iff_ne.2 (hkd 5 (by simp))
  have q7 : (kind == 7) = false := beq_eq_false_iff_ne.2 (hkd 7 (by simp))
  have q9 : (kind == 9) = false := beq_eq_false_iff_ne.2 (hkd 9 (by simp))
  clear hkd
  have HF := Lib.hid (BiaTo.same h (((Bel.refl w).alloc (.cells #[.int .i64 kind, .int .i64 x, .int .i64 val, sl] 39)).alloc (.cells #[.bool false, .int .i64 0, .slice none 0 0, .slice none 0 0] 43)))
  clear h
  go_enter Try.func42, Try.ntmps42
  go_wp2
  exact bodyPost_ret (v := ansV Pl.ans0 (.slice none 0 0) (.slice none 0 0)) (by simp [results, Try.results42, go_sem, Pl.ans0]) rfl (bStepPost_mk (ansO_nil _ _ _ _) HF.out)
end Go.Proofs.Ytdmjcgipfkhibaa
