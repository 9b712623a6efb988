/- The walk of posStep. -/
import Derived.Test.YtdmjcgipfkhibaaMpp4
import Derived.Test.YtdmjcgipfkhibaaMap5
import Derived.Test.YtdmjcgipfkhibaaTail
namespace Go.Proofs.Ytdmjcgipfkhibaa
open Go.RowKit Go.BigFrame

def Pl.ofPos (n : Int) : Pl.RulesD := ⟨0, n - 1, 0, true, -1, false⟩

def PStepPost (w : World) (base n g gs : Nat) (vd : Value) (d' : List Pl.Ent) (A : Pl.Ans) (e : Ending) (w' : World) : Prop :=
  ∃ k x y, e = .returned (.tuple #[ansV A k x, y]) ∧ AnsO w' base k x A ∧ w'.ownsRow base 2 1 y A.vals.length (A.vals.map (Value.int .i64)) ∧ PpTo w w' base n g gs vd d'
theorem pStepPost_mk {w w' : World} {base n g gs : Nat} {vd : Value} {d' : List Pl.Ent} {A : Pl.Ans} {k x : Value} (hv : A.vals = []) (ha : AnsO w' base k x A) (hs : PpTo w w' base n g gs vd d') : PStepPost w base n g gs vd d' A (.returned (.tuple #[ansV A k x, .slice none 0 0])) w' :=
  ⟨k, x, _, rfl, ha, by rw [hv]; exact World.ownsRow_nil _ _ _ _, hs⟩
theorem ppfoot_new {w : World} {base n g gs : Nat} {vd : Value} {d : List Pl.Ent} {sp : List Int} (h : PpW w base n g gs vd d sp) {b : Nat} (hb : w.heap.size ≤ b) : b ∉ ppfoot g gs vd := fun hm => by have := (h.foot_ge b hm).2; omega

/-- Behind a method's call: the result's block stands, and so does the map. -/
theorem pres_of {w w1 : World} {base n g gs : Nat} {vd : Value} {d d' : List Pl.Ent} {sp : List Int} {cs ds : List Value} {t u : TypeId} (h : PpW w base n g gs vd d sp)
    (hto : PpTo ((w.alloc (.cells cs.toArray t)).alloc (.cells ds.toArray u)) w1 base n g gs vd d') : Blk w1 (w.heap.size + 1) u ds ∧ PpTo w w1 base n g gs vd d' := by
  refine ⟨?_, PpTo.of_bel (((Bel.refl w).alloc _).alloc _) hto⟩
  obtain ⟨vd', sp', _, hk', _⟩ := hto
  have := (Blk.new (w.alloc (.cells cs.toArray t)) u ds).kept hk' (ppfoot_new h (by simp))
  rwa [World.size_alloc] at this
theorem pres_bel {w w1 : World} {base n g gs : Nat} {vd : Value} {d : List Pl.Ent} {sp : List Int} {cs ds : List Value} {t u : TypeId} (h : PpW w base n g gs vd d sp)
    (hb : Bel ((w.alloc (.cells cs.toArray t)).alloc (.cells ds.toArray u)) w1) : Blk w1 (w.heap.size + 1) u ds ∧ PpTo w w1 base n g gs vd d := by
  obtain ⟨_, a, b⟩ := blk2 hb
  exact ⟨a, PpTo.of_bel b (PpTo.refl (h.bel b))⟩
/-- The result is stored. -/
theorem PpTo.res {w w1 : World} {base n g gs b : Nat} {vd : Value} {d : List Pl.Ent} {c0 c1 c2 c3 : Value} (hto : PpTo w w1 base n g gs vd d) (hB : Blk w1 b 43 [c0, c1, c2, c3]) (hb : w.heap.size ≤ b) (v0 v1 v2 v3 : Value) :
    PpTo w ((((w1.setCell ⟨b, 0, none⟩ v0).setCell ⟨b, 1, none⟩ v1).setCell ⟨b, 2, none⟩ v2).setCell ⟨b, 3, none⟩ v3) base n g gs vd d ∧ Blk ((((w1.setCell ⟨b, 0, none⟩ v0).setCell ⟨b, 1, none⟩ v1).setCell ⟨b, 2, none⟩ v2).setCell ⟨b, 3, none⟩ v3) b 43 [v0, v1, v2, v3] := by
  obtain ⟨vd', sp', h1, h2, h3⟩ := hto
  have hg : g ≠ b := h1.hg.ne hB (by decide)
  have hs : gs ≠ b := h1.hs.ne hB (by decide)
  have hd := own_ne h1.hd hB (by decide)
  refine ⟨⟨vd', sp', ⟨?_, ?_, ?_, h1.hi, h1.hz, h1.hb⟩, ?_, h3⟩, (((hB.set 0 v0).set 1 v1).set 2 v2).set 3 v3⟩
  · exact (((h1.hg.far (p := ⟨b, 0, none⟩) hg _).far (p := ⟨b, 1, none⟩) hg _).far (p := ⟨b, 2, none⟩) hg _).far (p := ⟨b, 3, none⟩) hg _
  · exact (((h1.hs.far (p := ⟨b, 0, none⟩) hs _).far (p := ⟨b, 1, none⟩) hs _).far (p := ⟨b, 2, none⟩) hs _).far (p := ⟨b, 3, none⟩) hs _
  · exact ownsRow_setCell_other (ownsRow_setCell_other (ownsRow_setCell_other (ownsRow_setCell_other h1.hd (a := ⟨b, 0, none⟩) hd _) (a := ⟨b, 1, none⟩) hd _) (a := ⟨b, 2, none⟩) hd _) (a := ⟨b, 3, none⟩) hd _
  · exact (((h2.setCell (p := ⟨b, 0, none⟩) (.inr hb) _).setCell (p := ⟨b, 1, none⟩) (.inr hb) _).setCell (p := ⟨b, 2, none⟩) (.inr hb) _).setCell (p := ⟨b, 3, none⟩) (.inr hb) _

theorem getV_pos {d : List Pl.Ent} (hz : ∀ e ∈ d, PosV e.2) (x : Int) : -1 ≤ (if hasB d x then getV d x else -1) ∧ (if hasB d x then getV d x else -1) ≤ 1000000 := by
  by_cases h : hasB d x = true
  · rw [if_pos h]
    unfold getV
    cases hf : d.find? (fun e => decide (e.1 = x)) with
    | none => exact ⟨by decide, by decide⟩
    | some e => have := hz e (List.mem_of_find?_eq_some hf); exact ⟨by have := this.1; show -1 ≤ e.2; omega, this.2⟩
  · rw [if_neg h]; exact ⟨by decide, by decide⟩
theorem PpW.ppSize_le {w : World} {base n g gs : Nat} {vd : Value} {d : List Pl.Ent} {sp : List Int} (h : PpW w base n g gs vd d sp) : base ≤ w.heap.size := by
  have := h.hb.1; have := h.hg.lt; omega

theorem baseNil_any (t : Value) (w : World) : Calls Try.prog 100 #[t, .pointer none] w fun e w' => e = .returned (.int .i32 0) ∧ w = w' := by
  go_enter Try.func100, Try.ntmps100
  go_wp2
  go_ret
  exact ⟨rfl, rfl⟩
set_option maxRecDepth 100000 in
set_option maxHeartbeats 2000000 in
theorem xposNil_any (t : Value) (lc : Int) (w : World) :
    Calls Try.prog 61 #[t, .agg #[.pointer none, .int .u32 lc]] w fun e w' => e = .returned (.agg #[.int .i32 0, .int .u32 lc]) ∧ Bel w w' := by
  have hA := (Blk.new w 107 [.pointer none, .int .u32 lc]).alloc (.cells #[.int .i32 0, .int .u32 0] 103)
  have hB := Blk.new (w.alloc (.cells #[.pointer none, .int .u32 lc] 107)) 103 [.int .i32 0, .int .u32 0]
  rw [World.size_alloc] at hB
  have hb : Bel w ((w.alloc (.cells #[.pointer none, .int .u32 lc] 107)).alloc (.cells #[.int .i32 0, .int .u32 0] 103)) := ((Bel.refl w).alloc _).alloc _
  have HB := Lib.hid (And.intro hA (And.intro hB hb)); clear hA hB hb
  go_enter Try.func61, Try.ntmps61
  go_upto_region 1 with (fail)
  have HB2 : Hid (Blk ((w.alloc (.cells #[.pointer none, .int .u32 lc] 107)).alloc (.cells #[.int .i32 0, .int .u32 0] 103)) w.heap.size 107 [.pointer none, .int .u32 lc] ∧ Blk ((w.alloc (.cells #[.pointer none, .int .u32 lc] 107)).alloc (.cells #[.int .i32 0, .int .u32 0] 103)) (w.heap.size + 1) 103 [.int .i32 0, .int .u32 0] ∧ Bel w ((w.alloc (.cells #[.pointer none, .int .u32 lc] 107)).alloc (.cells #[.int .i32 0, .int .u32 0] 103))) := HB
  clear HB
  generalize (w.alloc (.cells #[.pointer none, .int .u32 lc] 107)).alloc (.cells #[.int .i32 0, .int .u32 0] 103) = W at HB2 ⊢
  have a0 : W.cell? ⟨w.heap.size, 0, none⟩ = some (.pointer none) := HB2.out.1.cell 0
  have a1 : W.cell? ⟨w.heap.size, 1, none⟩ = some (.int .u32 lc) := HB2.out.1.cell 1
  have b0 : W.cell? ⟨w.heap.size + 1, 0, none⟩ = some (.int .i32 0) := HB2.out.2.1.cell 0
  have b1 : W.cell? ⟨w.heap.size + 1, 1, none⟩ = some (.int .u32 0) := HB2.out.2.1.cell 1
  have f0 := HB2.out.2.1.frozen 0
  have f1 := HB2.out.2.1.frozen 1
  go_region_law (first
    | (go_simp; go_at_call 100; refine (baseNil_any _ _).mono ?_; rintro e w' ⟨rfl, rfl⟩))
  all_goals (
    go_wp2
    exact bodyPost_ret (v := .agg #[.int .i32 0, .int .u32 lc]) (by simp [results, Try.results61, go_sem, b0, b1]) rfl ⟨rfl, Below.setCell (Below.setCell (HB2.out.2.2.drew) (p := ⟨w.heap.size + 1, 0, none⟩) (by simp) _) (p := ⟨w.heap.size + 1, 1, none⟩) (by simp) _⟩)

set_option maxHeartbeats 400000 in
theorem posStep_rem {w : World} {base n g gs : Nat} {vd : Value} {d : List Pl.Ent} {sp : List Int} (h : PpW w base n g gs vd d sp) (hn : n ≤ 1000000) (tb k : Nat) (hk : k < n) (val : Int) (sl : Value) :
    Calls Try.prog 40 #[mptr g, mptr tb, .agg #[.int .i64 1, .int .i64 k, .int .i64 val, sl]] w (PStepPost w base n g gs vd (outE d k) Pl.ans0) := by
  have H := Lib.hid h; clear h
  go_enter Try.func40, Try.ntmps40
  go_wp2_with fail
  refine (ppRemove_any (H.out.bel (((Bel.refl w).alloc _).alloc _)) hn k hk).mono ?_
  rintro e w1 ⟨⟨v, rfl⟩, hto⟩
  obtain ⟨hB, hto⟩ := pres_of H.out hto
  obtain ⟨⟨b0, b1, b2, b3⟩, z0, z1, z2, z3⟩ := four_cells hB
  have HB := Lib.hid (And.intro hB hto); clear hB hto
  go_wp2
  have HF := HB.out.2.res HB.out.1 (Nat.le_succ _) (.bool false) (.int .i64 0) (.slice none 0 0) (.slice none 0 0)
  obtain ⟨⟨q0, q1, q2, q3⟩, _⟩ := four_cells HF.2
  exact bodyPost_ret (v := .tuple #[ansV Pl.ans0 (.slice none 0 0) (.slice none 0 0), .slice none 0 0]) (by simp [results, Try.results40, go_sem, q0, q1, q2, q3, Pl.ans0]) rfl (pStepPost_mk rfl (ansO_res (ansO_nil _ _ _ _) HB.out.1 _ _ _ _) HF.1)
set_option maxHeartbeats 400000 in
theorem posStep_has {w : World} {base n g gs : Nat} {vd : Value} {d : List Pl.Ent} {sp : List Int} (h : PpW w base n g gs vd d sp) (hn : n ≤ 1000000) (tb k : Nat) (hk : k < n) (val : Int) (sl : Value) :
    Calls Try.prog 40 #[mptr g, mptr tb, .agg #[.int .i64 2, .int .i64 k, .int .i64 val, sl]] w (PStepPost w base n g gs vd d ⟨hasB d k, 0, [], []⟩) := by
  have H := Lib.hid h; clear h
  go_enter Try.func40, Try.ntmps40
  go_wp2_with fail
  refine (pcontains_any (H.out.bel (((Bel.refl w).alloc _).alloc _)) hn k hk).mono ?_
  rintro e w1 ⟨rfl, hw⟩
  have hb := bel_eq hw
  clear hw
  obtain ⟨hB, hto⟩ := pres_bel H.out hb
  obtain ⟨⟨b0, b1, b2, b3⟩, z0, z1, z2, z3⟩ := four_cells hB
  have HB := Lib.hid (And.intro hB hto); clear hB hto
  go_wp2
  have HF := HB.out.2.res HB.out.1 (Nat.le_succ _) (.bool (hasB d k)) (.int .i64 0) (.slice none 0 0) (.slice none 0 0)
  obtain ⟨⟨q0, q1, q2, q3⟩, _⟩ := four_cells HF.2
  exact bodyPost_ret (v := .tuple #[ansV ⟨hasB d k, 0, [], []⟩ (.slice none 0 0) (.slice none 0 0), .slice none 0 0]) (by simp [results, Try.results40, go_sem, q0, q1, q2, q3]) rfl (pStepPost_mk rfl (ansO_res (ansO_nil _ _ _ _) HB.out.1 _ _ _ _) HF.1)
set_option maxHeartbeats 400000 in
theorem posStep_get {w : World} {base n g gs : Nat} {vd : Value} {d : List Pl.Ent} {sp : List Int} (h : PpW w base n g gs vd d sp) (hn : n ≤ 1000000) (tb k : Nat) (hk : k < n) (val : Int) (sl : Value) :
    Calls Try.prog 40 #[mptr g, mptr tb, .agg #[.int .i64 3, .int .i64 k, .int .i64 val, sl]] w (PStepPost w base n g gs vd d ⟨false, (if hasB d k then getV d k else -1), [], []⟩) := by
  have H := Lib.hid h; clear h
  obtain ⟨hv0, hv1⟩ := getV_pos H.out.hz k
  have HG := Lib.hid (ppGet_any (H.out.bel (((Bel.refl w).alloc (.cells #[.int .i64 3, .int .i64 k, .int .i64 val, sl] 39)).alloc (.cells #[.bool false, .int .i64 0, .slice none 0 0, .slice none 0 0] 43))) hn k hk)
  generalize (if hasB d k then getV d k else -1) = r at hv0 hv1 HG ⊢
  go_enter Try.func40, Try.ntmps40
  go_wp2_with fail
  refine HG.out.mono ?_
  rintro e w1 ⟨rfl, hb⟩
  obtain ⟨hB, hto⟩ := pres_bel H.out hb
  obtain ⟨⟨b0, b1, b2, b3⟩, z0, z1, z2, z3⟩ := four_cells hB
  have HB := Lib.hid (And.intro hB hto); clear hB hto
  go_wp2
  have HF := HB.out.2.res HB.out.1 (Nat.le_succ _) (.bool false) (.int .i64 r) (.slice none 0 0) (.slice none 0 0)
  obtain ⟨⟨q0, q1, q2, q3⟩, _⟩ := four_cells HF.2
  exact bodyPost_ret (v := .tuple #[ansV ⟨false, r, [], []⟩ (.slice none 0 0) (.slice none 0 0), .slice none 0 0]) (by simp [results, Try.results40, go_sem, q0, q1, q2, q3]) rfl (pStepPost_mk rfl (ansO_res (ansO_nil _ _ _ _) HB.out.1 _ _ _ _) HF.1)
set_option maxHeartbeats 400000 in
theorem posStep_size {w : World} {base n g gs : Nat} {vd : Value} {d : List Pl.Ent} {sp : List Int} (h : PpW w base n g gs vd d sp) (hn : n ≤ 1000000) (tb k : Nat) (hk : k < n) (val : Int) (sl : Value) :
    Calls Try.prog 40 #[mptr g, mptr tb, .agg #[.int .i64 4, .int .i64 k, .int .i64 val, sl]] w (PStepPost w base n g gs vd d ⟨false, d.length, [], []⟩) := by
  have H := Lib.hid h; clear h
  go_enter Try.func40, Try.ntmps40
  go_wp2_with fail
  refine (ppsize_any (H.out.bel (((Bel.refl w).alloc _).alloc _))).mono ?_
  rintro e w1 ⟨rfl, hw⟩
  have hb := bel_eq hw
  clear hw
  obtain ⟨hB, hto⟩ := pres_bel H.out hb
  obtain ⟨⟨b0, b1, b2, b3⟩, z0, z1, z2, z3⟩ := four_cells hB
  have HB := Lib.hid (And.intro hB hto); clear hB hto
  go_wp2
  have HF := HB.out.2.res HB.out.1 (Nat.le_succ _) (.bool false) (.int .i64 d.length) (.slice none 0 0) (.slice none 0 0)
  obtain ⟨⟨q0, q1, q2, q3⟩, _⟩ := four_cells HF.2
  exact bodyPost_ret (v := .tuple #[ansV ⟨false, d.length, [], []⟩ (.slice none 0 0) (.slice none 0 0), .slice none 0 0]) (by simp [results, Try.results40, go_sem, q0, q1, q2, q3]) rfl (pStepPost_mk rfl (ansO_res (ansO_nil _ _ _ _) HB.out.1 _ _ _ _) HF.1)
set_option maxHeartbeats 400000 in
theorem posStep_clear {w : World} {base n g gs : Nat} {vd : Value} {d : List Pl.Ent} {sp : List Int} (h : PpW w base n g gs vd d sp) (hn : n ≤ 1000000) (tb k : Nat) (hk : k < n) (val : Int) (sl : Value) :
    Calls Try.prog 40 #[mptr g, mptr tb, .agg #[.int .i64 5, .int .i64 k, .int .i64 val, sl]] w (PStepPost w base n g gs vd [] Pl.ans0) := by
  have H := Lib.hid h; clear h
  go_enter Try.func40, Try.ntmps40
  go_wp2_with fail
  refine (ppclear_any (H.out.bel (((Bel.refl w).alloc _).alloc _))).mono ?_
  rintro e w1 ⟨⟨v, rfl⟩, hto⟩
  obtain ⟨hB, hto⟩ := pres_of H.out hto
  obtain ⟨⟨b0, b1, b2, b3⟩, z0, z1, z2, z3⟩ := four_cells hB
  have HB := Lib.hid (And.intro hB hto); clear hB hto
  go_wp2
  have HF := HB.out.2.res HB.out.1 (Nat.le_succ _) (.bool false) (.int .i64 0) (.slice none 0 0) (.slice none 0 0)
  obtain ⟨⟨q0, q1, q2, q3⟩, _⟩ := four_cells HF.2
  exact bodyPost_ret (v := .tuple #[ansV Pl.ans0 (.slice none 0 0) (.slice none 0 0), .slice none 0 0]) (by simp [results, Try.results40, go_sem, q0, q1, q2, q3, Pl.ans0]) rfl (pStepPost_mk rfl (ansO_res (ansO_nil _ _ _ _) HB.out.1 _ _ _ _) HF.1)
set_option maxHeartbeats 400000 in
theorem posStep_other {w : World} {base n g gs : Nat} {vd : Value} {d : List Pl.Ent} {sp : List Int} (h : PpW w base n g gs vd d sp) (hn : n ≤ 1000000) (tb k : Nat) (hk : k < n) (kind val : Int) (sl : Value) (hkd : ∀ x ∈ [(0 : Int), 1, 2, 3, 4, 5, 7], kind ≠ x) :
    Calls Try.prog 40 #[mptr g, mptr tb, .agg #[.int .i64 kind, .int .i64 k, .int .i64 val, sl]] w (PStepPost w base n g gs vd d Pl.ans0) := by
  have q0 : (kind == 0) = false := beq_eq_false_iff_ne.2 (hkd 0 (by simp))
  have q1 : (kind == 1) = false := beq_eq_false_iff_ne.2 (hkd 1 (by simp))
  have q2 : (kind == 2) = false := beq_eq_false_iff_ne.2 (hkd 2 (by simp))
  have q3 : (kind == 3) = false := beq_eq_false_iff_ne.2 (hkd 3 (by simp))
  have q4 : (kind == 4) = false := beq_eq_false_iff_ne.2 (hkd 4 (by simp))
  have q5 : (kind == 5) = false := beq_eq_false_iff_ne.2 (hkd 5 (by simp))
  have q7 : (kind == 7) = false := beq_eq_false_iff_ne.2 (hkd 7 (by simp))
  clear hkd
  have hF : PpTo w ((w.alloc (.cells #[.int .i64 kind, .int .i64 k, .int .i64 val, sl] 39)).alloc (.cells #[.bool false, .int .i64 0, .slice none 0 0, .slice none 0 0] 43)) base n g gs vd d := (pres_bel h (Bel.refl _)).2
  have HF := Lib.hid hF; clear hF h
  go_enter Try.func40, Try.ntmps40
  go_wp2
  exact bodyPost_ret (v := .tuple #[ansV Pl.ans0 (.slice none 0 0) (.slice none 0 0), .slice none 0 0]) (by simp [results, Try.results40, go_sem, Pl.ans0]) rfl (pStepPost_mk rfl (ansO_nil _ _ _ _) HF.out)
end Go.Proofs.Ytdmjcgipfkhibaa
