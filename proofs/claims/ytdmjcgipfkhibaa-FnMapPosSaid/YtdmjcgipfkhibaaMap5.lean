/- The walks of wide and mapStep. -/
import Derived.Test.YtdmjcgipfkhibaaMap4
namespace Go.Proofs.Ytdmjcgipfkhibaa
open Go.RowKit

namespace Pl
/-- What a step makes of a map, and what it answers. -/
def mapD (r : RulesD) (d : List Ent) (s : StepD) : List Ent :=
  if s.kind = 0 then (if r.first ≤ s.key ∧ s.key ≤ r.last then putE d s.key s.val else d) else if s.kind = 1 then outE d s.key else if s.kind = 5 then [] else d
def mapA (r : RulesD) (d : List Ent) (s : StepD) : Ans :=
  if s.kind = 2 then ⟨hasB d s.key, 0, [], []⟩ else if s.kind = 3 then ⟨hasB d s.key && r.found, if hasB d s.key then getV d s.key else r.absent, [], []⟩ else if s.kind = 4 then ⟨false, d.length, [], []⟩
  else if s.kind = 7 then ⟨false, 0, d.map (·.1), d.map (·.2)⟩ else if s.kind = 9 then ⟨false, r.cap, [], []⟩ else ans0
def mapRun (r : RulesD) : List Ent → List StepD → List Ans
  | _, [] => []
  | d, s :: S => mapA r d s :: mapRun r (mapD r d s) S
def mapAt (r : RulesD) : List Ent → List StepD → List Ent
  | d, [] => d
  | d, s :: S => mapAt r (mapD r d s) S
def ofMap (n : Int) : RulesD := ⟨0, n - 1, n, true, 0, true⟩
end Pl

set_option maxHeartbeats 400000 in
theorem wide_any {w : World} {base0 base : Nat} {vd : Value} {d : List Pl.Ent} (h : w.ownsRow base0 21 1 vd d.length (valCells d)) (hd : d.length ≤ 1000000) (hr : ∀ e ∈ d, Val32 e.2) (hbase : base ≤ w.heap.size) :
    Calls Try.prog 57 #[vd] w fun e w' => ∃ u, e = .returned u ∧ w'.ownsRow base 2 1 u d.length ((d.map (·.2)).map (Value.int .i64)) ∧ Bel w w' := by
  obtain ⟨a, c, rfl, hlc, hcm, hcell⟩ := own_form h
  clear h
  have HC := Lib.hid hcell; clear hcell
  have HR := Lib.hid hr; clear hr
  go_enter Try.func57, Try.ntmps57
  go_wp2
  go_loopw [3, 9] (fun u i wr => ∃ j : Nat, j ≤ d.length ∧ i = .int .i64 j ∧ wr.ownsRow w.heap.size 2 1 u j (((d.map (·.2)).take j).map (Value.int .i64)) ∧ Bel w wr) (fun _ i _ => d.length - (intOf i).toNat)
  case atStart => exact ⟨0, Nat.zero_le _, rfl, owns_empty _ _ _ _ _ rfl (Nat.le_refl _), (Bel.refl w).alloc _⟩
  case round =>
    obtain ⟨j, hj, rfl, hown, hbel⟩ := hrel
    have HO := Lib.hid hown; clear hown
    have hbs := hbel.size
    by_cases hlt : j < d.length
    · obtain ⟨gd, rfl, hgd⟩ := HC.out (by omega)
      obtain ⟨e, he⟩ : ∃ e, d[j]? = some e := ⟨_, List.getElem?_eq_getElem hlt⟩
      have hc0 := hbel.cell (hgd j _ (valCells_at he))
      have HE : Hid ((d.map (·.2)).take (j + 1) = (d.map (·.2)).take j ++ [e.2]) := Lib.hid (by rw [List.take_add_one, List.getElem?_map, he]; rfl)
      obtain ⟨hr0, hr1⟩ := HR.out e (List.mem_of_getElem? he)
      clear hgd he
      go_wp2_with (at_builtin; refine wpList_push el22' rfl (.tmp 13) (.tmp 16) rfl w.heap.size u3 j _ rfl HO.out [.int .i64 e.2] wr.heap.size rfl rfl rfl (by simp [Value.oneCell']) (by omega) (by omega) (by omega) ?_)
      intro u1 w1 ho1 hg1 _
      have hb2 : Bel w w1 := hbel.grown hg1 (fun k hk => (HO.out.lt k hk).1)
      have ho2 : w1.ownsRow w.heap.size 2 1 u1 (j + 1) (((d.map (·.2)).take (j + 1)).map (Value.int .i64)) := by rw [HE.out, List.map_append]; simpa using ho1
      clear ho1 hg1
      go_wp2
      go_roundw
      case rel => exact ⟨j + 1, by omega, by go_num, ho2, hb2⟩
      case measure => simp [intOf]; omega
    · go_wp2
      go_ret
      obtain rfl : j = d.length := by omega
      refine ⟨_, rfl, ?_, hbel⟩
      have := HO.out
      rw [List.take_of_length_le (by simp)] at this
      exact own_base this (fun k hk => Nat.le_trans hbase (World.ownsRow.lt this k hk).1)

def MStepPost (w : World) (base n g gs : Nat) (vd : Value) (d' : List Pl.Ent) (A : Pl.Ans) (e : Ending) (w' : World) : Prop :=
  ∃ k x, e = .returned (ansV A k x) ∧ AnsO w' base k x A ∧ MapTo w w' base n g gs vd d'
theorem mStepPost_mk {w w' : World} {base n g gs : Nat} {vd : Value} {d' : List Pl.Ent} {A : Pl.Ans} {k x : Value} (ha : AnsO w' base k x A) (hs : MapTo w w' base n g gs vd d') : MStepPost w base n g gs vd d' A (.returned (ansV A k x)) w' := ⟨k, x, rfl, ha, hs⟩
theorem mfoot_new {w : World} {base n g gs : Nat} {vd : Value} {d : List Pl.Ent} {sp : List Int} (h : MapW w base n g gs vd d sp) {b : Nat} (hb : w.heap.size ≤ b) : b ∉ mfoot g gs vd := fun hm => by have := (h.foot_ge b hm).2; omega

/-- Behind a method's call: the result's block stands, and so does the map. -/
theorem mres_of {w w1 : World} {base n g gs : Nat} {vd : Value} {d d' : List Pl.Ent} {sp : List Int} {cs ds : List Value} {t u : TypeId} (h : MapW w base n g gs vd d sp)
    (hto : MapTo ((w.alloc (.cells cs.toArray t)).alloc (.cells ds.toArray u)) w1 base n g gs vd d') : Blk w1 (w.heap.size + 1) u ds ∧ MapTo w w1 base n g gs vd d' := by
  refine ⟨?_, MapTo.of_bel (((Bel.refl w).alloc _).alloc _) hto⟩
  obtain ⟨vd', sp', _, hk', _⟩ := hto
  have := (Blk.new (w.alloc (.cells cs.toArray t)) u ds).kept hk' (mfoot_new h (by simp))
  rwa [World.size_alloc] at this
theorem mres_bel {w w1 : World} {base n g gs : Nat} {vd : Value} {d : List Pl.Ent} {sp : List Int} {cs ds : List Value} {t u : TypeId} (h : MapW w base n g gs vd d sp)
    (hb : Bel ((w.alloc (.cells cs.toArray t)).alloc (.cells ds.toArray u)) w1) : Blk w1 (w.heap.size + 1) u ds ∧ MapTo w w1 base n g gs vd d := by
  obtain ⟨_, a, b⟩ := blk2 hb
  exact ⟨a, MapTo.of_bel b (MapTo.refl (h.bel b))⟩
/-- The result is stored. -/
theorem MapTo.res {w w1 : World} {base n g gs b : Nat} {vd : Value} {d : List Pl.Ent} {c0 c1 c2 c3 : Value} (hto : MapTo w w1 base n g gs vd d) (hB : Blk w1 b 43 [c0, c1, c2, c3]) (hb : w.heap.size ≤ b) (v0 v1 v2 v3 : Value) :
    MapTo w ((((w1.setCell ⟨b, 0, none⟩ v0).setCell ⟨b, 1, none⟩ v1).setCell ⟨b, 2, none⟩ v2).setCell ⟨b, 3, none⟩ v3) base n g gs vd d ∧ Blk ((((w1.setCell ⟨b, 0, none⟩ v0).setCell ⟨b, 1, none⟩ v1).setCell ⟨b, 2, none⟩ v2).setCell ⟨b, 3, none⟩ v3) b 43 [v0, v1, v2, v3] := by
  obtain ⟨vd', sp', h1, h2, h3⟩ := hto
  have hg : g ≠ b := h1.hg.ne hB (by decide)
  have hs : gs ≠ b := h1.hs.ne hB (by decide)
  have hd := own_ne h1.hd hB (by decide)
  refine ⟨⟨vd', sp', ⟨?_, ?_, ?_, h1.hi, h1.hz, h1.hb⟩, ?_, h3⟩, (((hB.set 0 v0).set 1 v1).set 2 v2).set 3 v3⟩
  · exact (((h1.hg.far (p := ⟨b, 0, none⟩) hg _).far (p := ⟨b, 1, none⟩) hg _).far (p := ⟨b, 2, none⟩) hg _).far (p := ⟨b, 3, none⟩) hg _
  · exact (((h1.hs.far (p := ⟨b, 0, none⟩) hs _).far (p := ⟨b, 1, none⟩) hs _).far (p := ⟨b, 2, none⟩) hs _).far (p := ⟨b, 3, none⟩) hs _
  · exact ownsRow_setCell_other (ownsRow_setCell_other (ownsRow_setCell_other (ownsRow_setCell_other h1.hd (a := ⟨b, 0, none⟩) hd _) (a := ⟨b, 1, none⟩) hd _) (a := ⟨b, 2, none⟩) hd _) (a := ⟨b, 3, none⟩) hd _
  · exact (((h2.setCell (p := ⟨b, 0, none⟩) (.inr hb) _).setCell (p := ⟨b, 1, none⟩) (.inr hb) _).setCell (p := ⟨b, 2, none⟩) (.inr hb) _).setCell (p := ⟨b, 3, none⟩) (.inr hb) _

theorem getV_32 {d : List Pl.Ent} (hz : ∀ e ∈ d, Val32 e.2) (x : Int) : Val32 (getV d x) := by
  unfold getV
  cases hf : d.find? (fun e => decide (e.1 = x)) with
  | none => exact ⟨by decide, by decide⟩
  | some e => exact hz e (List.mem_of_find?_eq_some hf)
theorem MapW.mSize_le {w : World} {base n g gs : Nat} {vd : Value} {d : List Pl.Ent} {sp : List Int} (h : MapW w base n g gs vd d sp) : base ≤ w.heap.size := by
  have := h.hb.1; have := h.hg.lt; omega
set_option maxHeartbeats 400000 in
theorem mapStep_add {w : World} {base n g gs : Nat} {vd : Value} {d : List Pl.Ent} {sp : List Int} (h : MapW w base n g gs vd d sp) (hn : n ≤ 1000000) (k : Nat) (hk : k < n) (val : Int) (hv : Val32 val) (sl : Value) :
    Calls Try.prog 37 #[mptr g, .agg #[.int .i64 0, .int .i64 k, .int .i64 val, sl]] w (MStepPost w base n g gs vd (putE d k val) Pl.ans0) := by
  have H := Lib.hid h; clear h
  have hv0 := hv.1
  have hv1 := hv.2
  go_enter Try.func37, Try.ntmps37
  go_wp2_with fail
  refine (mSet_any (H.out.bel (((Bel.refl w).alloc _).alloc _)) hn (by have := H.out.mSize_le; simp; omega) k hk val hv).mono ?_
  rintro e w1 ⟨⟨v, rfl⟩, hto⟩
  obtain ⟨hB, hto⟩ := mres_of H.out hto
  obtain ⟨⟨b0, b1, b2, b3⟩, z0, z1, z2, z3⟩ := four_cells hB
  have HB := Lib.hid (And.intro hB hto); clear hB hto
  go_wp2
  have HF := HB.out.2.res HB.out.1 (Nat.le_succ _) (.bool false) (.int .i64 0) (.slice none 0 0) (.slice none 0 0)
  obtain ⟨⟨q0, q1, q2, q3⟩, _⟩ := four_cells HF.2
  exact bodyPost_ret (v := ansV Pl.ans0 (.slice none 0 0) (.slice none 0 0)) (by simp [results, Try.results37, go_sem, q0, q1, q2, q3, Pl.ans0]) rfl (mStepPost_mk (ansO_res (ansO_nil _ _ _ _) HB.out.1 _ _ _ _) HF.1)
set_option maxHeartbeats 400000 in
theorem mapStep_rem {w : World} {base n g gs : Nat} {vd : Value} {d : List Pl.Ent} {sp : List Int} (h : MapW w base n g gs vd d sp) (hn : n ≤ 1000000) (k : Nat) (hk : k < n) (val : Int) (sl : Value) :
    Calls Try.prog 37 #[mptr g, .agg #[.int .i64 1, .int .i64 k, .int .i64 val, sl]] w (MStepPost w base n g gs vd (outE d k) Pl.ans0) := by
  have H := Lib.hid h; clear h
  go_enter Try.func37, Try.ntmps37
  go_wp2_with fail
  refine (mRemove_any (H.out.bel (((Bel.refl w).alloc _).alloc _)) hn k hk).mono ?_
  rintro e w1 ⟨⟨v, rfl⟩, hto⟩
  obtain ⟨hB, hto⟩ := mres_of H.out hto
  obtain ⟨⟨b0, b1, b2, b3⟩, z0, z1, z2, z3⟩ := four_cells hB
  have HB := Lib.hid (And.intro hB hto); clear hB hto
  go_wp2
  have HF := HB.out.2.res HB.out.1 (Nat.le_succ _) (.bool false) (.int .i64 0) (.slice none 0 0) (.slice none 0 0)
  obtain ⟨⟨q0, q1, q2, q3⟩, _⟩ := four_cells HF.2
  exact bodyPost_ret (v := ansV Pl.ans0 (.slice none 0 0) (.slice none 0 0)) (by simp [results, Try.results37, go_sem, q0, q1, q2, q3, Pl.ans0]) rfl (mStepPost_mk (ansO_res (ansO_nil _ _ _ _) HB.out.1 _ _ _ _) HF.1)
set_option maxHeartbeats 400000 in
theorem mapStep_has {w : World} {base n g gs : Nat} {vd : Value} {d : List Pl.Ent} {sp : List Int} (h : MapW w base n g gs vd d sp) (hn : n ≤ 1000000) (k : Nat) (hk : k < n) (val : Int) (sl : Value) :
    Calls Try.prog 37 #[mptr g, .agg #[.int .i64 2, .int .i64 k, .int .i64 val, sl]] w (MStepPost w base n g gs vd d ⟨hasB d k, 0, [], []⟩) := by
  have H := Lib.hid h; clear h
  go_enter Try.func37, Try.ntmps37
  go_wp2_with fail
  refine (mcontains_any (H.out.bel (((Bel.refl w).alloc _).alloc _)) hn k hk).mono ?_
  rintro e w1 ⟨rfl, hw⟩
  have hb := bel_eq hw
  clear hw
  obtain ⟨hB, hto⟩ := mres_bel H.out hb
  obtain ⟨⟨b0, b1, b2, b3⟩, z0, z1, z2, z3⟩ := four_cells hB
  have HB := Lib.hid (And.intro hB hto); clear hB hto
  go_wp2
  have HF := HB.out.2.res HB.out.1 (Nat.le_succ _) (.bool (hasB d k)) (.int .i64 0) (.slice none 0 0) (.slice none 0 0)
  obtain ⟨⟨q0, q1, q2, q3⟩, _⟩ := four_cells HF.2
  exact bodyPost_ret (v := ansV ⟨hasB d k, 0, [], []⟩ (.slice none 0 0) (.slice none 0 0)) (by simp [results, Try.results37, go_sem, q0, q1, q2, q3]) rfl (mStepPost_mk (ansO_res (ansO_nil _ _ _ _) HB.out.1 _ _ _ _) HF.1)
set_option maxHeartbeats 400000 in
theorem mapStep_get {w : World} {base n g gs : Nat} {vd : Value} {d : List Pl.Ent} {sp : List Int} (h : MapW w base n g gs vd d sp) (hn : n ≤ 1000000) (k : Nat) (hk : k < n) (val : Int) (sl : Value) :
    Calls Try.prog 37 #[mptr g, .agg #[.int .i64 3, .int .i64 k, .int .i64 val, sl]] w (MStepPost w base n g gs vd d ⟨hasB d k, getV d k, [], []⟩) := by
  have H := Lib.hid h; clear h
  obtain ⟨hv0, hv1⟩ := getV_32 H.out.hz k
  go_enter Try.func37, Try.ntmps37
  go_wp2_with fail
  refine (mGet_any (H.out.bel (((Bel.refl w).alloc _).alloc _)) hn k hk).mono ?_
  rintro e w1 ⟨rfl, hb⟩
  obtain ⟨hB, hto⟩ := mres_bel H.out hb
  obtain ⟨⟨b0, b1, b2, b3⟩, z0, z1, z2, z3⟩ := four_cells hB
  have HB := Lib.hid (And.intro hB hto); clear hB hto
  go_wp2
  have HF := HB.out.2.res HB.out.1 (Nat.le_succ _) (.bool (hasB d k)) (.int .i64 (getV d k)) (.slice none 0 0) (.slice none 0 0)
  obtain ⟨⟨q0, q1, q2, q3⟩, _⟩ := four_cells HF.2
  exact bodyPost_ret (v := ansV ⟨hasB d k, getV d k, [], []⟩ (.slice none 0 0) (.slice none 0 0)) (by simp [results, Try.results37, go_sem, q0, q1, q2, q3]) rfl (mStepPost_mk (ansO_res (ansO_nil _ _ _ _) HB.out.1 _ _ _ _) HF.1)
set_option maxHeartbeats 400000 in
theorem mapStep_size {w : World} {base n g gs : Nat} {vd : Value} {d : List Pl.Ent} {sp : List Int} (h : MapW w base n g gs vd d sp) (hn : n ≤ 1000000) (k : Nat) (hk : k < n) (val : Int) (sl : Value) :
    Calls Try.prog 37 #[mptr g, .agg #[.int .i64 4, .int .i64 k, .int .i64 val, sl]] w (MStepPost w base n g gs vd d ⟨false, d.length, [], []⟩) := by
  have H := Lib.hid h; clear h
  go_enter Try.func37, Try.ntmps37
  go_wp2_with fail
  refine (msize_any (H.out.bel (((Bel.refl w).alloc _).alloc _))).mono ?_
  rintro e w1 ⟨rfl, hw⟩
  have hb := bel_eq hw
  clear hw
  obtain ⟨hB, hto⟩ := mres_bel H.out hb
  obtain ⟨⟨b0, b1, b2, b3⟩, z0, z1, z2, z3⟩ := four_cells hB
  have HB := Lib.hid (And.intro hB hto); clear hB hto
  go_wp2
  have HF := HB.out.2.res HB.out.1 (Nat.le_succ _) (.bool false) (.int .i64 d.length) (.slice none 0 0) (.slice none 0 0)
  obtain ⟨⟨q0, q1, q2, q3⟩, _⟩ := four_cells HF.2
  exact bodyPost_ret (v := ansV ⟨false, d.length, [], []⟩ (.slice none 0 0) (.slice none 0 0)) (by simp [results, Try.results37, go_sem, q0, q1, q2, q3]) rfl (mStepPost_mk (ansO_res (ansO_nil _ _ _ _) HB.out.1 _ _ _ _) HF.1)
set_option maxHeartbeats 400000 in
theorem mapStep_clear {w : World} {base n g gs : Nat} {vd : Value} {d : List Pl.Ent} {sp : List Int} (h : MapW w base n g gs vd d sp) (hn : n ≤ 1000000) (k : Nat) (hk : k < n) (val : Int) (sl : Value) :
    Calls Try.prog 37 #[mptr g, .agg #[.int .i64 5, .int .i64 k, .int .i64 val, sl]] w (MStepPost w base n g gs vd [] Pl.ans0) := by
  have H := Lib.hid h; clear h
  go_enter Try.func37, Try.ntmps37
  go_wp2_with fail
  refine (mclear_any (H.out.bel (((Bel.refl w).alloc _).alloc _))).mono ?_
  rintro e w1 ⟨⟨v, rfl⟩, hto⟩
  obtain ⟨hB, hto⟩ := mres_of H.out hto
  obtain ⟨⟨b0, b1, b2, b3⟩, z0, z1, z2, z3⟩ := four_cells hB
  have HB := Lib.hid (And.intro hB hto); clear hB hto
  go_wp2
  have HF := HB.out.2.res HB.out.1 (Nat.le_succ _) (.bool false) (.int .i64 0) (.slice none 0 0) (.slice none 0 0)
  obtain ⟨⟨q0, q1, q2, q3⟩, _⟩ := four_cells HF.2
  exact bodyPost_ret (v := ansV Pl.ans0 (.slice none 0 0) (.slice none 0 0)) (by simp [results, Try.results37, go_sem, q0, q1, q2, q3, Pl.ans0]) rfl (mStepPost_mk (ansO_res (ansO_nil _ _ _ _) HB.out.1 _ _ _ _) HF.1)
set_option maxHeartbeats 400000 in
theorem mapStep_cap {w : World} {base n g gs : Nat} {vd : Value} {d : List Pl.Ent} {sp : List Int} (h : MapW w base n g gs vd d sp) (hn : n ≤ 1000000) (k : Nat) (hk : k < n) (val : Int) (sl : Value) :
    Calls Try.prog 37 #[mptr g, .agg #[.int .i64 9, .int .i64 k, .int .i64 val, sl]] w (MStepPost w base n g gs vd d ⟨false, n, [], []⟩) := by
  have H := Lib.hid h; clear h
  go_enter Try.func37, Try.ntmps37
  go_wp2_with fail
  refine (mcap_any (H.out.bel (((Bel.refl w).alloc _).alloc _))).mono ?_
  rintro e w1 ⟨rfl, hw⟩
  have hb := bel_eq hw
  clear hw
  obtain ⟨hB, hto⟩ := mres_bel H.out hb
  obtain ⟨⟨b0, b1, b2, b3⟩, z0, z1, z2, z3⟩ := four_cells hB
  have HB := Lib.hid (And.intro hB hto); clear hB hto
  go_wp2
  have HF := HB.out.2.res HB.out.1 (Nat.le_succ _) (.bool false) (.int .i64 n) (.slice none 0 0) (.slice none 0 0)
  obtain ⟨⟨q0, q1, q2, q3⟩, _⟩ := four_cells HF.2
  exact bodyPost_ret (v := ansV ⟨false, n, [], []⟩ (.slice none 0 0) (.slice none 0 0)) (by simp [results, Try.results37, go_sem, q0, q1, q2, q3]) rfl (mStepPost_mk (ansO_res (ansO_nil _ _ _ _) HB.out.1 _ _ _ _) HF.1)
set_option maxHeartbeats 400000 in
theorem mapStep_all {w : World} {base n g gs : Nat} {vd : Value} {d : List Pl.Ent} {sp : List Int} (h : MapW w base n g gs vd d sp) (hn : n ≤ 1000000) (k : Nat) (hk : k < n) (val : Int) (sl : Value) :
    Calls Try.prog 37 #[mptr g, .agg #[.int .i64 7, .int .i64 k, .int .i64 val, sl]] w (MStepPost w base n g gs vd d ⟨false, 0, d.map (·.1), d.map (·.2)⟩) := by
  have H := Lib.hid h; clear h
  have hle := H.out.hi.le
  have HR : Hid (∀ e ∈ d, 0 ≤ e.1 ∧ e.1 ≤ 1000000) := Lib.hid (fun e he => by
    obtain ⟨i, hi, rfl⟩ := List.getElem_of_mem he
    have := H.out.hi.ix i _ (List.getElem?_eq_getElem hi)
    omega)
  go_enter Try.func37, Try.ntmps37
  go_wp2_with fail
  refine (entries_map (H.out.bel (((Bel.refl w).alloc _).alloc _)) hn).mono ?_
  rintro e w0 ⟨ku, xu, rfl, hku, hxu, hb0⟩
  have HKU := Lib.hid hku; clear hku
  have HXU := Lib.hid hxu; clear hxu
  have HB0 := Lib.hid hb0; clear hb0
  go_wp2_with fail
  refine (numbers_any (base := base) HKU.out (by omega) HR.out (by have := H.out.mSize_le; have := HB0.out.size; simp at this; omega)).mono ?_
  rintro e w1 ⟨u, rfl, hu, hb1⟩
  have HU := Lib.hid hu; clear hu
  have HB1 := Lib.hid (HB0.out.trans hb1)
  go_wp2_with fail
  refine (wide_any (base := base) (own_bel HXU.out hb1) (by omega) H.out.hz (by have := H.out.mSize_le; have := HB1.out.size; simp at this; omega)).mono ?_
  rintro e w2 ⟨x, rfl, hx, hb2⟩
  have hu2 := own_bel HU.out hb2
  obtain ⟨hB, hto⟩ := mres_bel H.out (HB1.out.trans hb2)
  clear hb1 hb2
  have hal : (d.map (·.1)).length = d.length := by simp
  have hal2 : (d.map (·.2)).length = d.length := by simp
  have HAO : Hid (AnsO w2 base u x ⟨false, 0, d.map (·.1), d.map (·.2)⟩) := Lib.hid ⟨by rw [hal]; exact hu2, by rw [hal2]; exact hx⟩
  clear hal hal2
  obtain ⟨ua, uc, rfl, _, _, _⟩ := own_form hu2
  obtain ⟨xa, xc, rfl, _, _, _⟩ := own_form hx
  clear hu2 hx
  obtain ⟨⟨b0, b1, b2, b3⟩, z0, z1, z2, z3⟩ := four_cells hB
  have HB := Lib.hid (And.intro hB hto); clear hB hto
  go_wp2
  have HF := HB.out.2.res HB.out.1 (Nat.le_succ _) (.bool false) (.int .i64 0) (.slice ua d.length uc) (.slice xa d.length xc)
  obtain ⟨⟨q0, q1, q2, q3⟩, _⟩ := four_cells HF.2
  exact bodyPost_ret (v := ansV ⟨false, 0, d.map (·.1), d.map (·.2)⟩ (.slice ua d.length uc) (.slice xa d.length xc)) (by simp [results, Try.results37, go_sem, q0, q1, q2, q3]) rfl (mStepPost_mk (ansO_res (HAO.out) HB.out.1 _ _ _ _) HF.1)
set_option maxHeartbeats 400000 in
theorem mapStep_other {w : World} {base n g gs : Nat} {vd : Value} {d : List Pl.Ent} {sp : List Int} (h : MapW w base n g gs vd d sp) (hn : n ≤ 1000000) (k : Nat) (hk : k < n) (kind val : Int) (sl : Value) (hkd : ∀ x ∈ [(0 : Int), 1, 2, 3, 4, 5, 7, 9], kind ≠ x) :
    Calls Try.prog 37 #[mptr g, .agg #[.int .i64 kind, .int .i64 k, .int .i64 val, sl]] w (MStepPost w base n g gs vd d Pl.ans0) := by
  have q0 : (kind == 0) = false := beq_eq_false_iff_ne.2 (hkd 0 (by simp))
  have q1 : (kind == 1) = false := beq_eq_false_iff_ne.2 (hkd 1 (by simp))
  have q2 : (kind == 2) = false := beq_eq_false_iff_ne.2 (hkd 2 (by simp))
  have q3 : (kind == 3) = false := beq_eq_false_iff_ne.2 (hkd 3 (by simp))
  have q4 : (kind == 4) = false := beq_eq_false_iff_ne.2 (hkd 4 (by simp))
  have q5 : (kind == 5) = false := beq_eq_false_iff_ne.2 (hkd 5 (by simp))
  have q7 : (kind == 7) = false := beq_eq_false_iff_ne.2 (hkd 7 (by simp))
  have q9 : (kind == 9) = false := beq_eq_false_iff_ne.2 (hkd 9 (by simp))
  clear hkd
  have hF : MapTo w ((w.alloc (.cells #[.int .i64 kind, .int .i64 k, .int .i64 val, sl] 39)).alloc (.cells #[.bool false, .int .i64 0, .slice none 0 0, .slice none 0 0] 43)) base n g gs vd d := (mres_bel h (Bel.refl _)).2
  have HF := Lib.hid hF; clear hF h
  go_enter Try.func37, Try.ntmps37
  go_wp2
  exact bodyPost_ret (v := ansV Pl.ans0 (.slice none 0 0) (.slice none 0 0)) (by simp [results, Try.results37, go_sem, Pl.ans0]) rfl (mStepPost_mk (ansO_nil _ _ _ _) HF.out)
end Go.Proofs.Ytdmjcgipfkhibaa
