/- The table of positions: baseIndex. -/
import Derived.Test.YtbekmpmfkblgnaaDoorPos2
import Derived.Test.YtbekmpmfkblgnaaDoorMaps
import Derived.StillTailTactics
import Derived.WalkSpells
import Derived.Deep.Cut
import Derived.Deep.Light
import Derived.Deep.DeepCutAuto
namespace Go.Proofs.YtbekmpmfkblgnaaDoor
open Go.RowKit

theorem ty68 : Tryd.prog.underlying 40 = some (.map 46 3) := Tryd.underlying40
theorem ty69 : Tryd.prog.underlying 41 = some (.map 9 3) := Tryd.underlying41
theorem ty61 : Tryd.prog.underlying 46 = some (.pointer 58) := Tryd.underlying46
theorem ty9 : Tryd.prog.underlying 9 = some .string := Tryd.underlying9
theorem zero3 (w : World) : (zeroValue 3).run Tryd.prog w = .ok (.int .i64 0) w := by kernel_rfl
theorem info93 : ∃ j, Tryd.prog.info? 58 = some j ∧ j.size ≠ 0 := by
  have h : (Tryd.prog.info? 58).map (·.size) = some 8 := by kernel_rfl
  obtain ⟨j, hj, he⟩ := Option.map_eq_some_iff.1 h
  exact ⟨j, hj, by omega⟩

/-- A table whose maps have been made: R are the blocks of the bases that are in it, in order, NM their names. -/
def Made (w : World) (t : Nat) (ty : TypeId) (rest : List Value) (R : List Nat) (NM : List ByteArray) (gv bi bn : Nat) : Prop :=
  ∃ cap, Blk w t ty (.slice (some ⟨gv, 0, none⟩) (R.length + 1) cap :: .map (some bi) :: .map (some bn) :: rest) ∧
    w.ownsRow 0 46 1 (.slice (some ⟨gv, 0, none⟩) (R.length + 1) cap) (R.length + 1) (.pointer none :: R.map ptr) ∧
    MapB w bi (ptrEs 1 R 0) R.length ∧ MapB w bn (textEs NM 0) NM.length ∧ bi ≠ bn

/-- What the table holds; S are its blocks beside t. A table without bases is as it was made. -/
def Tab (w : World) (t : Nat) (ty : TypeId) (rest : List Value) (R : List Nat) (NM : List ByteArray) (S : List Nat) : Prop :=
  R.length = NM.length ∧
  ((R = [] ∧ NM = [] ∧ S = [] ∧ Blk w t ty (.slice none 0 0 :: .map none :: .map none :: rest)) ∨
   ∃ gv bi bn, 0 < R.length ∧ S = [gv, bi, bn] ∧ Made w t ty rest R NM gv bi bn)

theorem Made.kept {T : List Nat} {w w' : World} {t : Nat} {ty : TypeId} {rest : List Value} {R : List Nat} {NM : List ByteArray} {gv bi bn : Nat} (h : Made w t ty rest R NM gv bi bn) (hk : Kept T w w')
    (ht : t ∉ T) (h1 : gv ∉ T) (h2 : bi ∉ T) (h3 : bn ∉ T) : Made w' t ty rest R NM gv bi bn := by
  obtain ⟨cap, hb, ho, hi, hn, hne⟩ := h
  refine ⟨cap, hb.kept hk ht, own_kept ho hk (fun k hk' => ?_), hi.kept hk h2, hn.kept hk h3, hne⟩
  have : gv = k := by simpa [Value.ownBlock] using hk'
  exact this ▸ h1
theorem Tab.kept {T : List Nat} {w w' : World} {t : Nat} {ty : TypeId} {rest : List Value} {R : List Nat} {NM : List ByteArray} {S : List Nat} (h : Tab w t ty rest R NM S) (hk : Kept T w w') (ht : t ∉ T) (hS : ∀ x ∈ S, x ∉ T) : Tab w' t ty rest R NM S := by
  obtain ⟨hl, ⟨h1, h2, h3, hb⟩ | ⟨gv, bi, bn, hp, rfl, hm⟩⟩ := h
  · exact ⟨hl, .inl ⟨h1, h2, h3, hb.kept hk ht⟩⟩
  · exact ⟨hl, .inr ⟨gv, bi, bn, hp, rfl, hm.kept hk ht (hS _ (by simp)) (hS _ (by simp)) (hS _ (by simp))⟩⟩
theorem Tab.bel {w w' : World} {t : Nat} {ty : TypeId} {rest : List Value} {R : List Nat} {NM : List ByteArray} {S : List Nat} (h : Tab w t ty rest R NM S) (hb : Bel w w') : Tab w' t ty rest R NM S :=
  h.kept (Kept.of_bel (S := []) hb) (by simp) (by simp)
theorem Made.lt {w : World} {t : Nat} {ty : TypeId} {rest : List Value} {R : List Nat} {NM : List ByteArray} {gv bi bn : Nat} (h : Made w t ty rest R NM gv bi bn) : t < w.heap.size ∧ gv < w.heap.size ∧ bi < w.heap.size ∧ bn < w.heap.size := by
  obtain ⟨cap, hb, ho, hi, hn, hne⟩ := h
  exact ⟨hb.lt, (ho.lt gv rfl).2, hi.lt, hn.lt⟩
theorem Tab.lt {w : World} {t : Nat} {ty : TypeId} {rest : List Value} {R : List Nat} {NM : List ByteArray} {S : List Nat} (h : Tab w t ty rest R NM S) : t < w.heap.size ∧ ∀ x ∈ S, x < w.heap.size := by
  obtain ⟨hl, ⟨h1, h2, rfl, hb⟩ | ⟨gv, bi, bn, hp, rfl, hm⟩⟩ := h
  · exact ⟨hb.lt, by simp⟩
  · obtain ⟨a, b, c, d⟩ := hm.lt
    refine ⟨a, fun x hx => ?_⟩
    simp at hx
    rcases hx with rfl | rfl | rfl <;> assumption

/-- A base that is in the table: its number is told, nothing changes. -/
theorem baseIndex_old (t : Nat) (ty : TypeId) (rest : List Value) (R : List Nat) (NM : List ByteArray) (g k : Nat) (cg : List Value) (S : List Nat) (w : World) (h : Tab w t ty rest R NM S) (hR : ∀ r ∈ R, ∃ cs, Blk w r 58 cs) (hg : Blk w g 58 cg)
    (hk : placeOf g R = some k) (hkb : k < 1000000) :
    Calls Tryd.prog 18 #[ptr t, ptr g] w fun e w' => e = .returned (.int .i32 ((k : Int) + 1)) ∧ w = w' := by
  obtain ⟨_, h | ⟨gv, bi, bn, hpos, _, cap, hblk, hown, hmi, hmn, hne⟩⟩ := h
  · rw [h.1] at hk; simp [placeOf] at hk
  · obtain ⟨j, hj, hjs⟩ := info93
    have c1 : w.cell? ⟨t, 1, none⟩ = some (.map (some bi)) := hblk.cell 1
    have hf := run_findPtr (w := w) ty61 hj hjs 1 hg R (fun r hr => by obtain ⟨cs, h⟩ := hR r hr; exact ⟨_, _, h⟩)
    rw [hk] at hf
    have hl : (Instr.lookup 40 (.map (some bi)) (ptr g) true).run Tryd.prog w = .ok (.tuple #[.int .i64 ((k : Int) + 1), .bool true]) w := run_look ty68 hmi (run_checkPtr ty61 (ptr g)) hf (zero3 w)
    clear hf hown hmi hmn hblk hR hg hk hpos
    go_enter Tryd.func18, Tryd.ntmps18
    go_wp2
    go_ret
    exact ⟨rfl, rfl⟩

/-- Behind the statement that makes the maps where there are none. -/
def Ready (w wc : World) (t : Nat) (ty : TypeId) (rest : List Value) (R : List Nat) (NM : List ByteArray) (S : List Nat) (g : Nat) (cg : List Value) : Prop :=
  ∃ gv bi bn, Made wc t ty rest R NM gv bi bn ∧ Blk wc g 58 cg ∧ (∀ r ∈ R, ∃ cs, Blk wc r 58 cs) ∧ g ≠ t ∧ Kept (t :: S) w wc ∧ ∀ x ∈ [gv, bi, bn], x ∈ S ∨ w.heap.size ≤ x

theorem ready_first {w w2 : World} {t : Nat} {ty : TypeId} {rest : List Value} {g gv2 cap2 : Nat} {cg : List Value} (ho : w2.ownsRow 0 46 1 (.slice (some ⟨gv2, 0, none⟩) 1 cap2) 1 [.pointer none]) (hb : Bel w w2)
    (hB : Blk w2 t ty (.slice none 0 0 :: .map none :: .map none :: rest)) (hgt : g ≠ t) (hg : Blk w g 58 cg) (ha : gv2 = w.heap.size + 1) (hty2 : ty ≠ 46) :
    Ready w (((((w2.setCell ⟨t, 0, none⟩ (.slice (some ⟨gv2, 0, none⟩) 1 cap2)).setCell ⟨t, 1, none⟩ (.map (some w2.heap.size))).setCell ⟨t, 2, none⟩ (.map (some (w2.heap.size + 1)))).alloc (.map #[] 0)).alloc (.map #[] 0)) t ty rest [] [] [] g cg := by
  have hs := hb.size
  have hsz : (((w2.setCell ⟨t, 0, none⟩ (.slice (some ⟨gv2, 0, none⟩) 1 cap2)).setCell ⟨t, 1, none⟩ (.map (some w2.heap.size))).setCell ⟨t, 2, none⟩ (.map (some (w2.heap.size + 1)))).heap.size = w2.heap.size := by simp
  have hB3 : Blk (((w2.setCell ⟨t, 0, none⟩ (.slice (some ⟨gv2, 0, none⟩) 1 cap2)).setCell ⟨t, 1, none⟩ (.map (some w2.heap.size))).setCell ⟨t, 2, none⟩ (.map (some (w2.heap.size + 1)))) t ty (.slice (some ⟨gv2, 0, none⟩) 1 cap2 :: .map (some w2.heap.size) :: .map (some (w2.heap.size + 1)) :: rest) := ((hB.set 0 _).set 1 _).set 2 _
  have ht : ∀ {W : World}, W.ownsRow 0 46 1 (.slice (some ⟨gv2, 0, none⟩) 1 cap2) 1 [.pointer none] → ∀ (o : Nat) (u : Value), gv2 ≠ t → (W.setCell ⟨t, o, none⟩ u).ownsRow 0 46 1 (.slice (some ⟨gv2, 0, none⟩) 1 cap2) 1 [.pointer none] := fun h o u hne =>
    ownsRow_setCell_other h (a := ⟨t, o, none⟩) (by simpa [Value.ownBlock] using hne) u
  have hgvt : gv2 ≠ t := fun e => own_ne ho hB (Ne.symm hty2) (by rw [← e]; rfl)
  have ho3 := ht (ht (ht ho 0 (.slice (some ⟨gv2, 0, none⟩) 1 cap2) hgvt) 1 (.map (some w2.heap.size)) hgvt) 2 (.map (some (w2.heap.size + 1))) hgvt
  have hg3 := (((hg.bel hb).far (p := ⟨t, 0, none⟩) hgt (.slice (some ⟨gv2, 0, none⟩) 1 cap2)).far (p := ⟨t, 1, none⟩) hgt (.map (some w2.heap.size))).far (p := ⟨t, 2, none⟩) hgt (.map (some (w2.heap.size + 1)))
  have hk3 : Kept [t] w (((w2.setCell ⟨t, 0, none⟩ (.slice (some ⟨gv2, 0, none⟩) 1 cap2)).setCell ⟨t, 1, none⟩ (.map (some w2.heap.size))).setCell ⟨t, 2, none⟩ (.map (some (w2.heap.size + 1)))) :=
    ((((Kept.of_bel (S := [t]) hb).setCell (p := ⟨t, 0, none⟩) (.inl (by simp)) _).setCell (p := ⟨t, 1, none⟩) (.inl (by simp)) _).setCell (p := ⟨t, 2, none⟩) (.inl (by simp)) _)
  generalize (((w2.setCell ⟨t, 0, none⟩ (.slice (some ⟨gv2, 0, none⟩) 1 cap2)).setCell ⟨t, 1, none⟩ (.map (some w2.heap.size))).setCell ⟨t, 2, none⟩ (.map (some (w2.heap.size + 1)))) = w3 at hsz hB3 ho3 hg3 hk3 ⊢
  have m1 : MapB (w3.alloc (.map #[] 0)) w2.heap.size [] 0 := hsz ▸ MapB.new w3
  have m2 : MapB ((w3.alloc (.map #[] 0)).alloc (.map #[] 0)) (w2.heap.size + 1) [] 0 := by
    have := MapB.new (w3.alloc (.map #[] 0))
    rw [World.size_alloc, hsz] at this
    exact this
  refine ⟨gv2, w2.heap.size, w2.heap.size + 1, ⟨cap2, (hB3.alloc _).alloc _, (ho3.alloc _).alloc _, m1.alloc _, m2, by omega⟩, (hg3.alloc _).alloc _, by simp, hgt, (hk3.alloc _).alloc _, fun x hx => .inr ?_⟩
  simp at hx
  omega

set_option maxRecDepth 100000 in
set_option maxHeartbeats 2000000 in
/-- A base that is not in the table yet is put behind the others. -/
theorem baseIndex_new (t : Nat) (ty : TypeId) (rest : List Value) (R : List Nat) (NM : List ByteArray) (S : List Nat) (g : Nat) (p : Value) (lc l c : Int) (nm : ByteArray) (w : World) (h : Tab w t ty rest R NM S)
    (hR : ∀ r ∈ R, ∃ cs, Blk w r 58 cs) (hg : Blk w g 58 (baseCells p lc nm l c (-1))) (hty : ty ≠ 58) (hty2 : ty ≠ 46)
    (hgR : g ∉ R) (hnm : nm ∉ NM) (hb : R.length < 1000) :
    Calls Tryd.prog 18 #[ptr t, ptr g] w fun e w' => ∃ S', e = .returned (.int .i32 (R.length + 1 : Nat)) ∧ Tab w' t ty rest (R ++ [g]) (NM ++ [nm]) S' ∧ (∀ x ∈ S', x ∈ S ∨ w.heap.size ≤ x) ∧
      Blk w' g 58 (baseCells p lc nm l c NM.length) ∧ Kept (t :: g :: S) w w' := by
  obtain ⟨hRN, h⟩ := h
  obtain ⟨j, hj, hjs⟩ := info93
  have hgt0 : ∀ cs, Blk w t ty cs → g ≠ t := fun cs hb => hg.ne hb (Ne.symm hty)
  have hf0 := fun (W : World) (hgW : Blk W g 58 (baseCells p lc nm l c (-1))) (hRW : ∀ r ∈ R, ∃ cs, Blk W r 58 cs) => run_findPtr (w := W) ty61 hj hjs 1 hgW R (fun r hr => by obtain ⟨cs, h⟩ := hRW r hr; exact ⟨_, _, h⟩)
  rw [placeOf_none.2 hgR] at hf0
  have hf := hf0 w hg hR
  obtain ⟨r, sv, nv, c1, hl, hcase⟩ : ∃ (r : Option Nat) (sv nv : Value), w.cell? ⟨t, 1, none⟩ = some (.map r) ∧ (Instr.lookup 40 (.map r) (ptr g) true).run Tryd.prog w = .ok (.tuple #[.int .i64 0, .bool false]) w ∧
      ((r = none ∧ R = [] ∧ NM = [] ∧ S = [] ∧ Blk w t ty (.slice none 0 0 :: .map none :: .map none :: rest)) ∨ ∃ gv bi bn, r = some bi ∧ 0 < R.length ∧ S = [gv, bi, bn] ∧ Made w t ty rest R NM gv bi bn) := by
    rcases h with ⟨rfl, rfl, rfl, hb0⟩ | ⟨gv, bi, bn, hp, hS, hm⟩
    · exact ⟨none, .slice none 0 0, .map none, hb0.cell 1, run_look_nil ty68 (run_checkPtr ty61 (ptr g)) hf (zero3 w), .inl ⟨rfl, rfl, rfl, rfl, hb0⟩⟩
    · obtain ⟨cap, hblk, hown, hmi, hmn, hne⟩ := hm
      exact ⟨some bi, .slice (some ⟨gv, 0, none⟩) (R.length + 1) cap, .map (some bn), hblk.cell 1, run_look ty68 hmi (run_checkPtr ty61 (ptr g)) hf (zero3 w), .inr ⟨gv, bi, bn, rfl, hp, hS, cap, hblk, hown, hmi, hmn, hne⟩⟩
  have hnil := fun W : World => run_eql_map_nil (P := Tryd.prog) W 40 _ _ r ty68
  have hmm := @run_makeMap Tryd.prog
  have c7 : w.cell? ⟨g, 7, none⟩ = some (.int .i64 (-1)) := hg.cell 7
  have hneg : ¬ (0 : Int) ≤ -1 := by omega
  have HC := Lib.hid hcase; clear hcase
  have HF0 := Lib.hid hf0; clear hf0
  have HG0 := Lib.hid hg; clear hg
  have HR0 := Lib.hid hR; clear hR
  have HE := Lib.hid hRN; clear hRN
  have HGT := Lib.hid hgt0; clear hgt0
  clear hf hgR h
  go_enter Tryd.func18, Tryd.ntmps18
  go_upto_if 34 with (fail)
  go_cut [34] (fun _ wc => Ready w wc t ty rest R NM S g (baseCells p lc nm l c (-1)))
  case first =>
    rcases HC.out with ⟨rfl, rfl, rfl, rfl, hb0⟩ | ⟨gv, bi, bn, rfl, hp, rfl, hm⟩
    · have c0 : w.cell? ⟨t, 0, none⟩ = some (.slice none 0 0) := hb0.cell 0
      have c2 : w.cell? ⟨t, 2, none⟩ = some (.map none) := hb0.cell 2
      have HB0 := Lib.hid hb0; clear hb0
      clear hl
      go_wp2_with (at_builtin; refine wpList_push el67 rfl (.tmp 39) (.tmp 40) rfl 0 _ 0 [] rfl (World.ownsRow_nil _ _ _ _) [.pointer none] w.heap.size rfl rfl rfl (by simp [Value.oneCell']) (by omega) (by omega) (Nat.zero_le _) ?_)
      intro v2 w2 ho2 hg2 hat2
      obtain ⟨gv2, cap2, rfl, _, hlt2⟩ := ho2.form (by omega)
      have hat3 : gv2 = w.heap.size + 1 := by simpa [Value.ownBlock] using hat2
      have hb2 : Bel w w2 := (Bel.refl w).grown hg2 (by intro k hk; cases hk)
      have hB2 := HB0.out.bel hb2
      have d0 : w2.cell? ⟨t, 0, none⟩ = some (.slice none 0 0) := hB2.cell 0
      have d1 : w2.cell? ⟨t, 1, none⟩ = some (.map none) := hB2.cell 1
      have d2 : w2.cell? ⟨t, 2, none⟩ = some (.map none) := hB2.cell 2
      have e0 := hB2.frozen 0
      have e1 := hB2.frozen 1
      have e2 := hB2.frozen 2
      have hlt := hB2.lt
      have HH2 := Lib.hid (And.intro ho2 (And.intro hb2 hB2))
      have HA := Lib.hid hat3
      clear ho2 hb2 hB2 hg2 hat2 hat3 c0 c1 c2 c7
      go_wp2_with fail
      go_meet
      case rel =>
        obtain ⟨q1, q2, q3⟩ := HH2.out
        exact ready_first q1 q2 q3 (HGT.out _ HB0.out) HG0.out HA.out hty2
    · clear hl
      have HM := Lib.hid hm
      have hgt1 : g ≠ t := by obtain ⟨cap, hblk, _⟩ := hm; exact HGT.out _ hblk
      clear hm
      go_wp2_with fail
      go_meet
      case rel =>
        exact ⟨gv, bi, bn, HM.out, HG0.out, HR0.out, hgt1, Kept.refl _ _, fun x hx => .inl hx⟩
  case rest =>
    obtain ⟨gv, bi, bn, ⟨cap, hblk, hown, hmi, hmn, hne⟩, hg, hR, hgt, hkc, hS⟩ := hcut
    clear HC hl hnil c1 c7 hmm
    have hf := HF0.out wc hg hR
    have c0 : wc.cell? ⟨t, 0, none⟩ = some (.slice (some ⟨gv, 0, none⟩) (R.length + 1) cap) := hblk.cell 0
    have c1 : wc.cell? ⟨t, 1, none⟩ = some (.map (some bi)) := hblk.cell 1
    have c2 : wc.cell? ⟨t, 2, none⟩ = some (.map (some bn)) := hblk.cell 2
    have c7 : wc.cell? ⟨g, 7, none⟩ = some (.int .i64 (-1)) := hg.cell 7
    have c3 : wc.cell? ⟨g, 3, none⟩ = some (.string nm) := hg.cell 3
    have hti : t ≠ bi := (hmi.ne hblk).symm
    have hgi : g ≠ bi := (hmi.ne hg).symm
    have htn : t ≠ bn := (hmn.ne hblk).symm
    have hgn : g ≠ bn := (hmn.ne hg).symm
    have hgvt : gv ≠ t := fun e => own_ne hown hblk (Ne.symm hty2) (by rw [← e]; rfl)
    have hgvg : gv ≠ g := fun e => own_ne hown hg (by decide) (by rw [← e]; rfl)
    have hgvi : gv ≠ bi := fun e => hmi.own hown (by rw [← e]; rfl)
    have hgvn : gv ≠ bn := fun e => hmn.own hown (by rw [← e]; rfl)
    have HF := Lib.hid hf; clear hf
    have HB := Lib.hid hblk; clear hblk
    have HO := Lib.hid hown; clear hown
    have HI := Lib.hid hmi; clear hmi
    have HN := Lib.hid hmn; clear hmn
    have HG := Lib.hid hg; clear hg
    have HR := Lib.hid hR; clear hR
    have HNE := Lib.hid hne; clear hne
    have HKC := Lib.hid hkc; clear hkc
    have HS := Lib.hid hS; clear hS
    go_wp2_with (at_mapUpdate; refine wpList_putNew rfl _ _ _ rfl ty68 HI.out rfl rfl rfl (run_checkPtr ty61 _) HF.out ?_)
    intro w1 hm1 hg1
    have hB1 := HB.out.grown hg1 (by simp; exact hti)
    have hG1 := HG.out.grown hg1 (by simp; exact hgi)
    have hO1 := HO.out.kept hg1 (.inr (HI.out.own HO.out))
    have hN1 := HN.out.grown hg1 (by simp; exact Ne.symm HNE.out)
    have hk1 : Kept [t, gv, bi, bn, g] wc w1 := (Kept.refl _ wc).grown hg1 (fun k hk => by injection hk with hk; subst hk; simp)
    have d0 : w1.cell? ⟨t, 0, none⟩ = some (.slice (some ⟨gv, 0, none⟩) (R.length + 1) cap) := hB1.cell 0
    have e0 := hB1.frozen 0
    have HB1 := Lib.hid hB1; clear hB1
    have HG1 := Lib.hid hG1; clear hG1
    have HO1 := Lib.hid hO1; clear hO1
    have HN1 := Lib.hid hN1; clear hN1
    have HM1 := Lib.hid hm1; clear hm1
    have HK1 := Lib.hid hk1; clear hk1
    clear hg1 c0 c1 c2 c7 c3
    go_wp2_with (at_builtin; refine wpList_push el67 rfl (.tmp 67) (.tmp 69) rfl 0 _ _ _ rfl HO1.out [ptr g] w1.heap.size rfl rfl rfl (by simp [Value.oneCell']) (by omega) (by omega) (Nat.zero_le _) ?_)
    intro v2 w2 ho2 hg2 hat2
    obtain ⟨gv2, cap2, rfl, _, hlt2⟩ := ho2.form (by omega)
    have ob : (Value.slice (some ⟨gv, 0, none⟩) (R.length + 1) cap).ownBlock = some gv := rfl
    rw [ob] at hg2 hat2
    have hB2 := HB1.out.grown hg2 (by simp; exact Ne.symm hgvt)
    have hG2 := HG1.out.grown hg2 (by simp; exact Ne.symm hgvg)
    have hN2 := HN1.out.grown hg2 (by simp; exact Ne.symm hgvn)
    have hM2 := HM1.out.grown hg2 (by simp; exact Ne.symm hgvi)
    have hk2 : Kept [t, gv, bi, bn, g] wc w2 := HK1.out.grown hg2 (fun k hk => by injection hk with hk; subst hk; simp)
    have hgv2 : gv2 = gv ∨ wc.heap.size ≤ gv2 := by
      rcases hat2 with h | h
      · exact .inl (by simpa [Value.ownBlock] using h)
      · have h' : gv2 = w1.heap.size + 1 := by simpa [Value.ownBlock] using h
        have := HK1.out.size
        exact .inr (by omega)
    have f0 : w2.cell? ⟨t, 0, none⟩ = some (.slice (some ⟨gv, 0, none⟩) (R.length + 1) cap) := hB2.cell 0
    have f1 := hB2.frozen 0
    have ho3 := ownsRow_setCell_other ho2 (a := ⟨t, 0, none⟩) (own_ne ho2 hB2 (Ne.symm hty2)) (.slice (some ⟨gv2, 0, none⟩) (R.length + 1 + 1) cap2)
    have hB3 := hB2.set 0 (.slice (some ⟨gv2, 0, none⟩) (R.length + 1 + 1) cap2)
    have hG3 := hG2.far (p := ⟨t, 0, none⟩) hgt (.slice (some ⟨gv2, 0, none⟩) (R.length + 1 + 1) cap2)
    have hN3 := hN2.far (p := ⟨t, 0, none⟩) (Ne.symm htn) (.slice (some ⟨gv2, 0, none⟩) (R.length + 1 + 1) cap2)
    have hM3 := hM2.far (p := ⟨t, 0, none⟩) (Ne.symm hti) (.slice (some ⟨gv2, 0, none⟩) (R.length + 1 + 1) cap2)
    have hk3 := hk2.setCell (p := ⟨t, 0, none⟩) (.inl (by simp)) (.slice (some ⟨gv2, 0, none⟩) (R.length + 1 + 1) cap2)
    have HH3 := Lib.hid (And.intro ho3 (And.intro hB3 (And.intro hG3 (And.intro hN3 (And.intro hM3 hk3)))))
    clear ho3 hB3 hG3 hN3 hM3 hk3 hB2 hG2 hN2 hM2 hk2 ho2 hg2 hat2 ob d0 e0
    have HGV := Lib.hid hgv2; clear hgv2
    go_wp2
    generalize w2.setCell ⟨t, 0, none⟩ (.slice (some ⟨gv2, 0, none⟩) (R.length + 1 + 1) cap2) = w3 at HH3 ⊢
    obtain ⟨ho3, hB3, hG3, hN3, hM3, hk3⟩ := HH3.out
    clear HH3 f0 f1
    simp only [List.set_cons_zero] at hB3
    have d2 : w3.cell? ⟨t, 2, none⟩ = some (.map (some bn)) := hB3.cell 2
    have d3 : w3.cell? ⟨g, 3, none⟩ = some (.string nm) := hG3.cell 3
    have hft := fun W : World => run_findText (w := W) ty9 nm NM
    rw [textAt_none hnm] at hft
    have hl3 : ∀ n, (Instr.lookup 41 (.map (some bn)) (.string nm) true).run Tryd.prog (w3.drewN n) = .ok (.tuple #[.int .i64 0, .bool false]) (w3.drewN n) := fun n => run_look ty69 (hN3.drewN n) (run_checkText ty9 _) (hft _) (zero3 _)
    have HH3 := Lib.hid (And.intro ho3 (And.intro hB3 (And.intro hG3 (And.intro hN3 (And.intro hM3 hk3)))))
    clear ho3 hB3 hG3 hN3 hM3 hk3
    have HFT := Lib.hid hft; clear hft
    clear hnm
    go_quiet (fail)
    clear hl3 d2 d3
    obtain ⟨ho3, hB3, hG3, hN3, hM3, hk3⟩ := HH3.out
    have HH4 := Lib.hid (And.intro (own_bel ho3 ((Bel.refl w3).drewN nq)) (And.intro (hB3.drewN nq) (And.intro (hG3.drewN nq) (And.intro (hN3.drewN nq) (And.intro (hM3.bel ((Bel.refl w3).drewN nq)) (hk3.drewN nq))))))
    clear ho3 hB3 hG3 hN3 hM3 hk3 HH3
    generalize w3.drewN nq = w4 at HH4 ⊢
    obtain ⟨ho4, hB4, hG4, hN4, hM4, hk4⟩ := HH4.out
    have d2 : w4.cell? ⟨t, 2, none⟩ = some (.map (some bn)) := hB4.cell 2
    have d3 : w4.cell? ⟨g, 3, none⟩ = some (.string nm) := hG4.cell 3
    clear ho4 hB4 hG4 hM4 hk4
    have HN4 := Lib.hid hN4; clear hN4
    go_wp2_with (at_len; refine wpList_lenMap rfl _ rfl ty69 HN4.out rfl ?_)
    rw [textEs_length]
    go_still_tail 9, (by kernel_rfl)
    change wpList _ _ _ _ _ w4.drew
    go_wp2_with (at_mapUpdate; refine wpList_putNew rfl _ _ _ rfl ty69 HN4.out.drew rfl rfl rfl (run_checkText ty9 _) (HFT.out _) ?_)
    intro w5 hm5 hg5
    obtain ⟨ho4, hB4, hG4, _, hM4, hk4⟩ := HH4.out
    have hG5 := hG4.drew.grown hg5 (by simp; exact hgn)
    have f7 : w5.cell? ⟨g, 7, none⟩ = some (.int .i64 (-1)) := hG5.cell 7
    have f8 := hG5.frozen 7
    have hB5 := hB4.drew.grown hg5 (by simp; exact htn)
    have hM5 := hM4.drew.grown hg5 (by simp; exact HNE.out)
    have ho5 := (show w4.drew.ownsRow 0 46 1 _ _ _ from ho4).kept hg5 (.inr (HN4.out.own ho4))
    have hk5 : Kept [t, gv, bi, bn, g] wc w5 := hk4.drew.grown hg5 (fun k hk => by injection hk with hk; subst hk; simp)
    have HH5 := Lib.hid (And.intro ho5 (And.intro hB5 (And.intro hG5 (And.intro hm5 (And.intro hM5 hk5)))))
    clear ho4 hB4 hG4 hM4 hk4 ho5 hB5 hG5 hm5 hM5 hk5 hg5 HH4 d2 d3
    go_wp2
    go_ret
    obtain ⟨ho5, hB5, hG5, hm5, hM5, hk5⟩ := HH5.out
    have hk6 := hk5.setCell (p := ⟨g, 7, none⟩) (.inl (by simp)) (.int .i64 NM.length)
    refine ⟨[gv2, bi, bn], by simp, ⟨by simp [HE.out], .inr ⟨gv2, bi, bn, by simp, rfl, cap2, ?_, ?_, ?_, ?_, HNE.out⟩⟩, ?_, hG5.set 7 _, ?_⟩
    · have := hB5.far (p := ⟨g, 7, none⟩) (Ne.symm hgt) (.int .i64 NM.length)
      simpa using this
    · have := ownsRow_setCell_other ho5 (a := ⟨g, 7, none⟩) (own_ne ho5 hG5 (by decide)) (.int .i64 NM.length)
      exact own_eq (by simpa using this) (by simp) (by simp)
    · have := hM5.far (p := ⟨g, 7, none⟩) (Ne.symm hgi) (.int .i64 NM.length)
      rw [ptrEs_snoc]
      simpa using this
    · have := hm5.far (p := ⟨g, 7, none⟩) (Ne.symm hgn) (.int .i64 NM.length)
      rw [textEs_snoc]
      simpa using this
    · intro x hx
      have hsz := HKC.out.size
      simp at hx
      rcases hx with rfl | rfl | rfl
      · rcases HGV.out with e | e
        · rw [e]; exact HS.out _ (by simp)
        · exact .inr (by omega)
      · exact HS.out _ (by simp)
      · exact HS.out _ (by simp)
    · refine (HKC.out.more (fun i hi => ?_)).trans hk6 (fun i hi => ?_)
      · simp at hi ⊢
        rcases hi with h | h
        · exact .inl h
        · exact .inr (.inr h)
      · simp at hi
        rcases hi with rfl | rfl | rfl | rfl | rfl
        · exact .inl (by simp)
        · rcases HS.out i (by simp) with h | h
          · exact .inl (by simp [h])
          · exact .inr h
        · rcases HS.out i (by simp) with h | h
          · exact .inl (by simp [h])
          · exact .inr h
        · rcases HS.out i (by simp) with h | h
          · exact .inl (by simp [h])
          · exact .inr h
        · exact .inl (by simp)
end Go.Proofs.YtbekmpmfkblgnaaDoor
