/- posStep: a key is mapped; all entries are told. -/
import Derived.Test.YtdmjcgipfkhibaaMpp5
namespace Go.Proofs.Ytdmjcgipfkhibaa
open Go.RowKit Go.BigFrame

theorem makePos1 (l : Int) (w : World) (h0 : 0 ≤ l) (hl : l < 1048574) :
    Calls Try.prog 62 #[.pointer none, .int .u64 l, .int .u64 1] w fun e w' => e = .returned (.agg #[.pointer none, .int .u32 (l * 4096 + 16)]) ∧ Bel w w' := by
  have := makePos_any (.pointer none) l 1 w ⟨_, rfl⟩ h0 hl (by omega) (by omega)
  rwa [show l * 4096 + 1 * 16 = l * 4096 + 16 by omega] at this

set_option maxRecDepth 100000 in
set_option maxHeartbeats 2000000 in
theorem posStep_add {w : World} {base n g gs : Nat} {vd : Value} {d : List Pl.Ent} {sp : List Int} (h : PpW w base n g gs vd d sp) (hn : n ≤ 1000000) (tb k : Nat) (hk : k < n) (val : Int) (hv : PosV val) (sl : Value) :
    Calls Try.prog 40 #[mptr g, mptr tb, .agg #[.int .i64 0, .int .i64 k, .int .i64 val, sl]] w (PStepPost w base n g gs vd (putE d k val) Pl.ans0) := by
  have H := Lib.hid h; clear h
  have hv0 := hv.1
  have hv1 := hv.2
  have e1 : IntKind.i32.wrap val = val := IntWalk.i32_in _ (by omega)
  have e2 : IntKind.u64.wrap val = val := IntWalk.u64_in _ (by omega)
  have hb2 : Bel w ((w.alloc (.cells #[.int .i64 0, .int .i64 k, .int .i64 val, sl] 39)).alloc (.cells #[.bool false, .int .i64 0, .slice none 0 0, .slice none 0 0] 43)) := ((Bel.refl w).alloc _).alloc _
  have hS := (Blk.new w 39 [.int .i64 0, .int .i64 k, .int .i64 val, sl]).alloc (.cells #[.bool false, .int .i64 0, .slice none 0 0, .slice none 0 0] 43)
  have HP : Hid (∀ W w1, Bel ((w.alloc (.cells #[.int .i64 0, .int .i64 k, .int .i64 val, sl] 39)).alloc (.cells #[.bool false, .int .i64 0, .slice none 0 0, .slice none 0 0] 43)) W → PpTo W w1 base n g gs vd (putE d k val) → Blk w1 (w.heap.size + 1) 43 [.bool false, .int .i64 0, .slice none 0 0, .slice none 0 0] ∧ PpTo w w1 base n g gs vd (putE d k val)) :=
    Lib.hid (fun W w1 hb hto => pres_of H.out (PpTo.of_bel hb hto))
  have HS := Lib.hid (H.out.bel hb2)
  have hz := H.out.ppSize_le
  go_enter Try.func40, Try.ntmps40
  go_upto_region 4 with (fail)
  have hzb : base ≤ ((w.alloc (.cells #[.int .i64 0, .int .i64 k, .int .i64 val, sl] 39)).alloc (.cells #[.bool false, .int .i64 0, .slice none 0 0, .slice none 0 0] 43)).heap.size := by simp; omega
  change Blk ((w.alloc (.cells #[.int .i64 0, .int .i64 k, .int .i64 val, sl] 39)).alloc (.cells #[.bool false, .int .i64 0, .slice none 0 0, .slice none 0 0] 43)) _ _ _ at hS
  generalize (w.alloc (.cells #[.int .i64 0, .int .i64 k, .int .i64 val, sl] 39)).alloc (.cells #[.bool false, .int .i64 0, .slice none 0 0, .slice none 0 0] 43) = W at hS HP HS hzb ⊢
  have c2 : W.cell? ⟨w.heap.size, 2, none⟩ = some (.int .i64 val) := hS.cell 2
  clear hS hb2
  have c2 := Later.cell c2
  refine region_later_tail 11 (by kernel_rfl) (by kernel_rfl) ?_
  simp only [List.take_succ_cons, List.take_zero, List.drop_succ_cons, List.drop_zero]
  repeat (go_big_quiet_step (first
    | (go_at_call 62; exact call_later _ (makePos1 val _ (by omega) (by omega)))
    | (go_at_call 61; exact call_later _ (xposNil_any _ _ _))))
  refine wpQuiet_nil ?_
  intro _ hw'
  obtain ⟨x, hx⟩ := hw'
  subst hx
  have hxb := x.bel
  have HX := Lib.hid hxb
  have hzx := hxb.size
  clear c2 hxb
  generalize x.at = W2 at HX hzx ⊢
  go_wp2_with fail
  refine (ppSet_any (HS.out.bel HX.out) hn (by omega) k hk val hv).mono ?_
  rintro e w1 ⟨⟨v, rfl⟩, hto⟩
  obtain ⟨hB, hto⟩ := HP.out _ _ HX.out hto
  obtain ⟨⟨b0, b1, b2, b3⟩, z0, z1, z2, z3⟩ := four_cells hB
  have HB := Lib.hid (And.intro hB hto); clear hB hto HP HS HX
  go_wp2
  have HF := HB.out.2.res HB.out.1 (Nat.le_succ _) (.bool false) (.int .i64 0) (.slice none 0 0) (.slice none 0 0)
  obtain ⟨⟨q0, q1, q2, q3⟩, _⟩ := four_cells HF.2
  exact bodyPost_ret (v := .tuple #[ansV Pl.ans0 (.slice none 0 0) (.slice none 0 0), .slice none 0 0]) (by simp [results, Try.results40, go_sem, q0, q1, q2, q3, Pl.ans0]) rfl (pStepPost_mk rfl (ansO_res (ansO_nil _ _ _ _) HB.out.1 _ _ _ _) HF.1)

/-- The result's block is stored into: a row of numbers stands. -/
theorem own_res {w1 : World} {base b n : Nat} {y : Value} {xs : List Value} {c0 c1 c2 c3 : Value} (h : w1.ownsRow base 2 1 y n xs) (hB : Blk w1 b 43 [c0, c1, c2, c3]) (v0 v1 v2 v3 : Value) : ((((w1.setCell ⟨b, 0, none⟩ v0).setCell ⟨b, 1, none⟩ v1).setCell ⟨b, 2, none⟩ v2).setCell ⟨b, 3, none⟩ v3).ownsRow base 2 1 y n xs := by
  have hk := own_ne h hB (by decide)
  exact ownsRow_setCell_other (ownsRow_setCell_other (ownsRow_setCell_other (ownsRow_setCell_other h (a := ⟨b, 0, none⟩) hk _) (a := ⟨b, 1, none⟩) hk _) (a := ⟨b, 2, none⟩) hk _) (a := ⟨b, 3, none⟩) hk _

set_option maxRecDepth 100000 in
set_option maxHeartbeats 4000000 in
theorem posStep_all {w : World} {base n g gs : Nat} {vd : Value} {d : List Pl.Ent} {sp : List Int} (h : PpW w base n g gs vd d sp) (hn : n ≤ 1000000) (tb k : Nat) (_hk : k < n) (val : Int) (sl : Value) :
    Calls Try.prog 40 #[mptr g, mptr tb, .agg #[.int .i64 7, .int .i64 k, .int .i64 val, sl]] w (PStepPost w base n g gs vd d ⟨false, 0, d.map (·.1), d.map (·.2)⟩) := by
  have H := Lib.hid h; clear h
  have hle := H.out.hi.le
  have HR : Hid (∀ e ∈ d, 0 ≤ e.1 ∧ e.1 ≤ 1000000) := Lib.hid (fun e he => by
    obtain ⟨i, hi, rfl⟩ := List.getElem_of_mem he
    have := H.out.hi.ix i _ (List.getElem?_eq_getElem hi)
    omega)
  have HZ : Hid (∀ e ∈ d, Val32 e.2) := Lib.hid (fun e he => by have := H.out.hz e he; exact ⟨by have := this.1; omega, by have := this.2; omega⟩)
  have hbz := H.out.ppSize_le
  go_enter Try.func40, Try.ntmps40
  go_wp2_with fail
  refine (entries_pos (H.out.bel (((Bel.refl w).alloc _).alloc _)) hn).mono ?_
  rintro e w0 ⟨ku, vu, xu, rfl, hE⟩
  have HE := Lib.hid hE; clear hE
  have hxo := HE.out.x
  rw [List.take_of_length_le (Nat.le_refl _)] at hxo
  obtain ⟨xa, xc, rfl, _, _, hxg⟩ := own_form hxo
  have HXG := Lib.hid hxg; clear hxg hxo
  have hw0 : base ≤ w0.heap.size := by have := HE.out.bel.size; simp at this; omega
  have HY0 := Lib.hid (And.intro (owns_empty w0 w0.heap.size 2 1 _ rfl (Nat.le_refl _)) ((Bel.refl w0).alloc (.cells #[] 2)))
  go_wp2
  go_loopw [12, 72] (fun y i wr => ∃ j : Nat, j ≤ d.length ∧ i = .int .i64 j ∧ wr.ownsRow w0.heap.size 2 1 y j (((d.map (·.2)).take j).map (Value.int .i64)) ∧ Bel w0 wr) (fun _ i _ => d.length - (intOf i).toNat)
  case atStart => exact ⟨0, Nat.zero_le _, rfl, HY0.out⟩
  case round =>
    obtain ⟨j, hj, rfl, hy, hbel⟩ := hrel
    have HY := Lib.hid hy; clear hy HY0
    have hbs := hbel.size
    by_cases hlt : j < d.length
    · obtain ⟨gx, rfl, hgx⟩ := HXG.out (by omega)
      obtain ⟨e, he⟩ : ∃ e, d[j]? = some e := ⟨_, List.getElem?_eq_getElem hlt⟩
      have hc0 := hbel.cell (hgx _ _ (xpCells_at he).1)
      have hc1 := hbel.cell (hgx _ _ (xpCells_at he).2)
      have HT : Hid ((d.map (·.2)).take (j + 1) = (d.map (·.2)).take j ++ [e.2]) := Lib.hid (by rw [List.take_add_one, List.getElem?_map, he]; rfl)
      obtain ⟨hv0, hv1⟩ := H.out.hz e (List.mem_of_getElem? he)
      clear hgx he
      obtain ⟨ek, ev⟩ := e
      simp only at hc0 hc1 hv0 hv1 HT
      have hL : ∀ W : World, Calls Try.prog 69 #[.int .u32 (ev * 4096 + 16)] W fun e w' => e = .returned (.int .u64 ev) ∧ W = w' := fun W => by
        have := line_any (ev * 4096 + 16) W (by omega) (by omega)
        rwa [show (ev * 4096 + 16) / 4096 = ev by omega] at this
      have HL := Lib.hid hL; clear hL
      have f1 : IntKind.i64.wrap ev = ev := IntWalk.i64_in _ (by omega)
      have HBX := Lib.hid (And.intro (own_bel HY.out ((Bel.refl wr).alloc (.cells #[.int .i32 0, .int .u32 (ev * 4096 + 16)] 103))) (hbel.alloc (.cells #[.int .i32 0, .int .u32 (ev * 4096 + 16)] 103)))
      clear hbel
      go_wp2_with fail
      refine (HL.out _).mono ?_
      rintro e w1 ⟨rfl, rfl⟩
      generalize hW1 : wr.alloc (.cells #[.int .i32 0, .int .u32 (ev * 4096 + 16)] 103) = w1 at HBX ⊢
      have hs1 := HBX.out.2.size
      clear hW1 hc0 hc1
      go_wp2_with (at_builtin; refine wpList_push el22' rfl _ _ rfl w0.heap.size u12 j _ rfl HBX.out.1 [.int .i64 ev] w1.heap.size rfl rfl rfl (by simp [Value.oneCell']) (by omega) (by omega) (by omega) ?_)
      intro u1 w2 ho2 hg2 _
      have HN : Hid (w2.ownsRow w0.heap.size 2 1 u1 (j + 1) (((d.map (·.2)).take (j + 1)).map (Value.int .i64)) ∧ Bel w0 w2) := Lib.hid (by
        refine ⟨?_, HBX.out.2.grown hg2 (fun q hq => (HBX.out.1.lt q hq).1)⟩
        rw [HT.out, List.map_append]; simpa using ho2)
      clear ho2 hg2 HBX
      go_wp2
      go_roundw
      case rel => exact ⟨j + 1, by omega, by go_num, HN.out⟩
      case measure => simp [intOf]; omega
    · obtain rfl : j = d.length := by omega
      have hyr := HY.out
      rw [List.take_of_length_le (by simp)] at hyr
      have HYR := Lib.hid hyr; clear hyr HY
      have hkr := own_bel HE.out.k hbel
      have hvr := own_bel HE.out.v hbel
      rw [List.take_of_length_le (Nat.le_refl _)] at hkr hvr
      have HKV := Lib.hid (And.intro hkr hvr)
      have HB0 := Lib.hid (HE.out.bel.trans hbel)
      clear hkr hvr hbel HE
      go_wp2_with fail
      refine (numbers_any (base := base) HKV.out.1 (by omega) HR.out (by omega)).mono ?_
      rintro e w1 ⟨u, rfl, hu, hb1⟩
      have HU := Lib.hid hu; clear hu
      have HB1 := Lib.hid (HB0.out.trans hb1)
      have hz1 := hb1.size
      have HY1 := Lib.hid (own_bel HYR.out hb1)
      go_wp2_with fail
      refine (wide_any (base := base) (own_bel HKV.out.2 hb1) (by omega) HZ.out (by omega)).mono ?_
      rintro e w2 ⟨x, rfl, hx, hb2⟩
      have hu2 := own_bel HU.out hb2
      have hy2 := own_base (own_bel HY1.out hb2) (fun k hk => Nat.le_trans hw0 (World.ownsRow.lt (own_bel HY1.out hb2) k hk).1)
      obtain ⟨hB, hto⟩ := pres_bel H.out (HB1.out.trans hb2)
      clear hb1 hb2
      have hal : (d.map (·.1)).length = d.length := by simp
      have hal2 : (d.map (·.2)).length = d.length := by simp
      have HAO : Hid (AnsO w2 base u x ⟨false, 0, d.map (·.1), d.map (·.2)⟩ ∧ w2.ownsRow base 2 1 u12 (d.map (·.2)).length ((d.map (·.2)).map (Value.int .i64))) := Lib.hid ⟨⟨by rw [hal]; exact hu2, by rw [hal2]; exact hx⟩, by rw [hal2]; exact hy2⟩
      clear hal hal2
      obtain ⟨ua, uc, rfl, _, _, _⟩ := own_form hu2
      obtain ⟨va, vc, rfl, _, _, _⟩ := own_form hx
      obtain ⟨ya, yc, rfl, _, _, _⟩ := own_form hy2
      clear hu2 hx hy2
      obtain ⟨⟨b0, b1, b2, b3⟩, z0, z1, z2, z3⟩ := four_cells hB
      have HB := Lib.hid (And.intro hB hto); clear hB hto HYR HY1 HKV HU HB0 HB1
      go_wp2
      have HF := HB.out.2.res HB.out.1 (Nat.le_succ _) (.bool false) (.int .i64 0) (.slice ua d.length uc) (.slice va d.length vc)
      obtain ⟨⟨q0, q1, q2, q3⟩, _⟩ := four_cells HF.2
      exact bodyPost_ret (v := .tuple #[ansV ⟨false, 0, d.map (·.1), d.map (·.2)⟩ (.slice ua d.length uc) (.slice va d.length vc), .slice ya d.length yc]) (by simp [results, Try.results40, go_sem, q0, q1, q2, q3]) rfl ⟨_, _, _, rfl, ansO_res HAO.out.1 HB.out.1 _ _ _ _, own_res HAO.out.2 HB.out.1 _ _ _ _, HF.1⟩

/-- A step that such a map of n numbers takes. -/
structure StepP (n : Nat) (S : Pl.StepD) : Prop where
  k0 : 0 ≤ S.key
  k1 : S.key < n
  v : PosV S.val

theorem posStep_any {w : World} {base n g gs : Nat} {vd : Value} {d : List Pl.Ent} {sp : List Int} (h : PpW w base n g gs vd d sp) (hn : n ≤ 1000000) (tb : Nat) {sv : Value} {S : Pl.StepD} (hs : StepV w sv S) (hi : StepP n S) :
    Calls Try.prog 40 #[mptr g, mptr tb, sv] w (PStepPost w base n g gs vd (Pl.mapD (Pl.ofPos n) d S) (Pl.mapA (Pl.ofPos n) d S)) := by
  obtain ⟨sl, rfl, hsl⟩ := hs
  obtain ⟨kind, key, val, l⟩ := S
  obtain ⟨k0, k1, hv⟩ := hi
  simp only at *
  obtain ⟨k, rfl⟩ := Int.eq_ofNat_of_zero_le k0
  have hk : k < n := by omega
  have hin : (Pl.ofPos n).first ≤ (k : Int) ∧ (k : Int) ≤ (Pl.ofPos n).last := ⟨k0, by show (k : Int) ≤ (n : Int) - 1; omega⟩
  by_cases e0 : kind = 0
  · subst e0
    have := posStep_add h hn tb k hk val hv sl
    have e : Pl.mapD (Pl.ofPos n) d ⟨0, k, val, l⟩ = putE d k val := by unfold Pl.mapD; rw [if_pos rfl, if_pos hin]
    rw [e]; exact this
  by_cases e1 : kind = 1
  · subst e1; exact posStep_rem h hn tb k hk val sl
  by_cases e2 : kind = 2
  · subst e2; exact posStep_has h hn tb k hk val sl
  by_cases e3 : kind = 3
  · subst e3
    have := posStep_get h hn tb k hk val sl
    have e : Pl.mapA (Pl.ofPos n) d ⟨3, k, val, l⟩ = ⟨false, (if hasB d k then getV d k else -1), [], []⟩ := by
      show (⟨hasB d k && false, if hasB d k then getV d k else -1, [], []⟩ : Pl.Ans) = _
      rw [Bool.and_false]
    rw [e]; exact this
  by_cases e4 : kind = 4
  · subst e4; exact posStep_size h hn tb k hk val sl
  by_cases e5 : kind = 5
  · subst e5; exact posStep_clear h hn tb k hk val sl
  by_cases e7 : kind = 7
  · subst e7; exact posStep_all h hn tb k hk val sl
  by_cases e9 : kind = 9
  · subst e9
    have := posStep_other h hn tb k hk 9 val sl (by simp)
    simpa [Pl.mapD, Pl.mapA, Pl.ofPos, Pl.ans0] using this
  have := posStep_other h hn tb k hk kind val sl (by simp [e0, e1, e2, e3, e4, e5, e7])
  simpa [Pl.mapD, Pl.mapA, e0, e1, e2, e3, e4, e5, e7, e9] using this
end Go.Proofs.Ytdmjcgipfkhibaa
