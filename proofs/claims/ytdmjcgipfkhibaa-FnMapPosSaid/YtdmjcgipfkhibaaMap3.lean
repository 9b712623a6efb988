/- The walk of a sparse map's remove. -/
import Derived.Test.YtdmjcgipfkhibaaMap2
namespace Go.Proofs.Ytdmjcgipfkhibaa
open Go.RowKit

/-- A key is taken out: the last entry goes to its place. -/
def outE (d : List Pl.Ent) (x : Int) : List Pl.Ent := match d.findIdx? (fun e => decide (e.1 = x)) with | some i => Pl.swapOut d i | none => d
theorem outE_not {d : List Pl.Ent} {x : Int} (h : ∀ v, (x, v) ∉ d) : outE d x = d := by
  unfold outE
  cases hf : d.findIdx? (fun e => decide (e.1 = x)) with
  | none => rfl
  | some i =>
    obtain ⟨hi, hp, _⟩ := List.findIdx?_eq_some_iff_getElem.1 hf
    have : d[i].1 = x := by simpa using hp
    exact absurd (List.getElem_mem hi) (by rw [show d[i] = (x, d[i].2) from by rw [← this]]; exact h _)
theorem outE_at {d : List Pl.Ent} (hn : d.Pairwise (fun a b => a.1 ≠ b.1)) {x v : Int} {i : Nat} (h : d[i]? = some (x, v)) : outE d x = Pl.swapOut d i := by
  unfold outE; rw [idx_at hn h]

theorem MapW.removed {w : World} {base n g gs gd cap : Nat} {d : List Pl.Ent} {sp : List Int} (h : MapW w base n g gs (.slice (some ⟨gd, 0, none⟩) d.length cap) d sp) {k s ky : Nat} {v : Int} (hs : d[s]? = some ((k : Int), v)) {y : Pl.Ent} (hy : d[d.length - 1]? = some y) (hky : y.1 = (ky : Int)) :
    MapTo w (((((w.setCell ⟨gd, s * 2, none⟩ (.int .i32 ky)).setCell ⟨gd, s * 2 + 1, none⟩ (.int .i32 y.2)).drew.setCell ⟨gs, ky, none⟩ (.int .i32 s)).drew.setCell ⟨g, 0, none⟩ (.slice (some ⟨gd, 0, none⟩) (d.length - 1) cap)).drew) base n g gs (.slice (some ⟨gd, 0, none⟩) d.length cap) (outE d k) := by
  have hsl : s < d.length := (List.getElem?_eq_some_iff.1 hs).1
  have hgs : g ≠ gs := h.hg.ne h.hs (by decide)
  have hne : gd ≠ g := fun e => own_ne h.hd h.hg (by decide) (by rw [← e]; rfl)
  have hne2 : gd ≠ gs := fun e => own_ne h.hd h.hs (by decide) (by rw [← e]; rfl)
  rw [outE_at h.hi.nodup hs]
  have hI := h.hi.out hsl hy
  rw [hky, Int.toNat_natCast] at hI
  refine ⟨.slice (some ⟨gd, 0, none⟩) (d.length - 1) cap, sp.set ky (s : Int), ⟨?_, ?_, ?_, hI, ?_, h.hb⟩, ?_, fun b hb => .inl hb⟩
  · exact ((((h.hg.far (p := ⟨gd, s * 2, none⟩) (by simpa using hne.symm) _).far (p := ⟨gd, s * 2 + 1, none⟩) (by simpa using hne.symm) _).drew.far (p := ⟨gs, ky, none⟩) (by simpa using hgs) _).drew.set 0 _).drew
  · have := ((((h.hs.far (p := ⟨gd, s * 2, none⟩) (by simpa using hne2.symm) (.int .i32 ky)).far (p := ⟨gd, s * 2 + 1, none⟩) (by simpa using hne2.symm) (.int .i32 y.2)).drew.set ky (.int .i32 s)).drew.far (p := ⟨g, 0, none⟩) (by simpa using hgs.symm) (.slice (some ⟨gd, 0, none⟩) (d.length - 1) cap)).drew
    rw [List.map_set]
    exact this
  · have h1 := ((h.hd.stored (s * 2) (.int .i32 ky)).1.stored (s * 2 + 1) (.int .i32 y.2)).1.drew
    have h2 := (ownsRow_setCell_other h1 (a := ⟨gs, ky, none⟩) (by simp [Value.ownBlock]; exact hne2) (.int .i32 s)).drew
    have h3 := own_shrink2 (ownsRow_setCell_other h2 (a := ⟨g, 0, none⟩) (by simp [Value.ownBlock]; exact hne) (.slice (some ⟨gd, 0, none⟩) (d.length - 1) cap)) (m := d.length - 1) (by omega)
    have e1 : (((mapCells d).set (s * 2) (.int .i32 ky)).set (s * 2 + 1) (.int .i32 y.2)).take ((d.length - 1) * 2) = mapCells (Pl.swapOut d s) := by
      unfold Pl.swapOut
      rw [← mapCells_take, List.getD_eq_getElem?_getD, hy]
      show _ = (mapCells (d.set s y)).take _
      rw [show y = ((ky : Int), y.2) from by rw [← hky], mapCells_set d s ky y.2 hsl]
    rw [e1] at h3
    rw [Pl.swapOut_length hsl]
    exact h3.drew
  · intro e he
    exact h.hz e ((Pl.mem_swapOut h.hi.nodup hsl e).1 he).1
  · exact (((((Kept.refl _ w).setCell (p := ⟨gd, s * 2, none⟩) (.inl (by simp [mfoot, Value.ownBlock])) _).setCell (p := ⟨gd, s * 2 + 1, none⟩) (.inl (by simp [mfoot, Value.ownBlock])) _).drew.setCell (p := ⟨gs, ky, none⟩) (.inl (by simp [mfoot])) _).drew.setCell (p := ⟨g, 0, none⟩) (.inl (by simp [mfoot])) _).drew

set_option maxHeartbeats 1000000 in
theorem mremove_hit {w : World} {base n g gs gd c : Nat} {d : List Pl.Ent} {sp : List Int} (H : Hid (MapW w base n g gs (.slice (some ⟨gd, 0, none⟩) d.length c) d sp)) (hn : n ≤ 1000000) (k s : Nat) (hk : k < n) (v : Int) (hv : d[s]? = some ((k : Int), v)) :
    Calls Try.prog 92 #[mptr g, .int .i32 k] w fun e w' => (∃ v, e = .returned v) ∧ MapTo w w' base n g gs (.slice (some ⟨gd, 0, none⟩) d.length c) (outE d k) := by
  have c0 : w.cell? ⟨g, 0, none⟩ = some (.slice (some ⟨gd, 0, none⟩) d.length c) := H.out.hg.cell 0
  have c1 : w.cell? ⟨g, 1, none⟩ = some (.slice (some ⟨gs, 0, none⟩) n n) := H.out.hg.cell 1
  have hcs : w.cell? ⟨gs, k, none⟩ = some (.int .i32 s) := by
    have := (H.out.hi.ix s _ hv).2.2
    rw [Int.toNat_natCast] at this
    rw [H.out.hs.cell k, List.getElem?_map, this]; rfl
  have hle := H.out.hi.le
  have hsl : s < d.length := (List.getElem?_eq_some_iff.1 hv).1
  have hgd : ∀ j u, (mapCells d)[j]? = some u → w.cell? ⟨gd, j, none⟩ = some u := fun j u hu => by
    have := H.out.hd.cells (g := gd) rfl j u hu
    simpa [Addr.add_lit] using this
  have hcm : d.length ≤ c ∧ c ≤ maxLen := by obtain ⟨_, _, e, h1, h2, _⟩ := own_form H.out.hd; cases e; exact ⟨h1, h2⟩
  obtain ⟨hlc, hcm⟩ := hcm
  unfold maxLen at hcm
  obtain ⟨y, hy⟩ : ∃ y, d[d.length - 1]? = some y := ⟨_, List.getElem?_eq_getElem (by omega)⟩
  have c2 := hgd _ _ (mapCells_at hv).1
  have c3 := hgd _ _ (mapCells_at hy).1
  have c4 := hgd _ _ (mapCells_at hy).2
  obtain ⟨ky, hky⟩ := Int.eq_ofNat_of_zero_le (H.out.hi.ix _ y hy).1
  have hkyn : ky < n := by have := (H.out.hi.ix _ y hy).2.1; omega
  rw [hky] at c3
  have hgdl : gd < w.heap.size := (H.out.hd.lt gd rfl).2
  have hgl := H.out.hg.lt
  have hgsl := H.out.hs.lt
  have i1 : (0 : Int) ≤ (d.length : Int) - 1 := by omega
  have i2 : (d.length : Int) - 1 < (d.length : Int) := by omega
  have i3 : ((d.length : Int) - 1).toNat = d.length - 1 := by omega
  have i4 : IntKind.i64.wrap ((d.length : Int) - 1) = (d.length : Int) - 1 := IntWalk.i64_in _ (by omega)
  have HV := Lib.hid (And.intro hv hy); clear hv hy hgd
  go_enter Try.func92, Try.ntmps92
  go_upto_region 2 with (fail)
  go_region
  have hb1 : Bel w (w.alloc (.cells #[.int .i32 ky, .int .i32 y.2] 128)).drew := ((Bel.refl w).alloc _).drew
  have hY : Blk (w.alloc (.cells #[.int .i32 ky, .int .i32 y.2] 128)).drew w.heap.size 128 [.int .i32 ky, .int .i32 y.2] := (Blk.new w _ [_, _]).drew
  go_upto_region 3 with (fail)
  generalize (w.alloc (.cells #[.int .i32 ky, .int .i32 y.2] 128)).drew = w1 at *
  have H1 := Lib.hid (H.out.bel hb1)
  have e0 : w1.cell? ⟨g, 0, none⟩ = some (.slice (some ⟨gd, 0, none⟩) d.length c) := H1.out.hg.cell 0
  have e1 : w1.cell? ⟨w.heap.size, 0, none⟩ = some (.int .i32 ky) := hY.cell 0
  have e2 : w1.cell? ⟨w.heap.size, 1, none⟩ = some (.int .i32 y.2) := hY.cell 1
  have e3 := hb1.cell c2
  have e4 := hb1.cell (H.out.hd.cells (g := gd) rfl (s * 2 + 1) _ (mapCells_at HV.out.1).2)
  simp only [Addr.add_lit, Nat.zero_add] at e4
  have f3 : w1.frozen? ⟨gd, s * 2, none⟩ = false := H1.out.hd.frozenAt _
  have f4 : w1.frozen? ⟨gd, s * 2 + 1, none⟩ = false := H1.out.hd.frozenAt _
  have HR := Lib.hid (MapTo.of_bel hb1 (H1.out.removed HV.out.1 HV.out.2 hky))
  have hgs : g ≠ gs := H.out.hg.ne H.out.hs (by decide)
  have hne : gd ≠ g := fun e => own_ne H.out.hd H.out.hg (by decide) (by rw [← e]; rfl)
  have hne2 : gd ≠ gs := fun e => own_ne H.out.hd H.out.hs (by decide) (by rw [← e]; rfl)
  have hneY : w.heap.size ≠ gd ∧ w.heap.size ≠ gs ∧ w.heap.size ≠ g := ⟨by omega, by omega, by omega⟩
  clear c0 c1 c2 c3 c4 hcs
  go_region
  go_upto_region 4 with (fail)
  have hB2 := ((H1.out.hg.far (p := ⟨gd, s * 2, none⟩) (by simpa using hne.symm) (.int .i32 ky)).far (p := ⟨gd, s * 2 + 1, none⟩) (by simpa using hne.symm) (.int .i32 y.2)).drew
  have hS2 := ((H1.out.hs.far (p := ⟨gd, s * 2, none⟩) (by simpa using hne2.symm) (.int .i32 ky)).far (p := ⟨gd, s * 2 + 1, none⟩) (by simpa using hne2.symm) (.int .i32 y.2)).drew
  have hY2 := ((hY.far (p := ⟨gd, s * 2, none⟩) hneY.1 (.int .i32 ky)).far (p := ⟨gd, s * 2 + 1, none⟩) hneY.1 (.int .i32 y.2)).drew
  generalize ((w1.setCell ⟨gd, s * 2, none⟩ (.int .i32 ky)).setCell ⟨gd, s * 2 + 1, none⟩ (.int .i32 y.2)).drew = w2 at hB2 hS2 hY2 HR ⊢
  have d1 : w2.cell? ⟨g, 1, none⟩ = some (.slice (some ⟨gs, 0, none⟩) n n) := hB2.cell 1
  have d2 : w2.cell? ⟨w.heap.size, 0, none⟩ = some (.int .i32 ky) := hY2.cell 0
  obtain ⟨ty, d3⟩ : ∃ t : Int, w2.cell? ⟨gs, ky, none⟩ = some (.int .i32 t) := by
    rw [hS2.cell ky, List.getElem?_map, List.getElem?_eq_getElem (show ky < sp.length by rw [H.out.hi.len]; exact hkyn)]
    exact ⟨_, rfl⟩
  have d3f : w2.frozen? ⟨gs, ky, none⟩ = false := hS2.frozen ky
  clear e0 e1 e2 e3 e4 f3 f4
  have i5 : (0 : Int) ≤ (ky : Int) := by omega
  have i6 : (ky : Int) < (n : Int) := by omega
  go_region
  go_upto_region 5 with (fail)
  have hB3 := (hB2.far (p := ⟨gs, ky, none⟩) (by simpa using hgs) (.int .i32 s)).drew
  generalize (w2.setCell ⟨gs, ky, none⟩ (.int .i32 s)).drew = w3 at hB3 HR ⊢
  have e0 : w3.cell? ⟨g, 0, none⟩ = some (.slice (some ⟨gd, 0, none⟩) d.length c) := hB3.cell 0
  have e0f : w3.frozen? ⟨g, 0, none⟩ = false := hB3.frozen 0
  clear d1 d2 d3 d3f hB2 hS2 hB3 hY2
  have i7 : (d.length : Int) - 1 ≤ (c : Int) := by omega
  go_region
  go_wp2
  go_end0
  exact ⟨⟨_, rfl⟩, HR.out⟩

set_option maxHeartbeats 400000 in
theorem mremove_any {w : World} {base n g gs : Nat} {vd : Value} {d : List Pl.Ent} {sp : List Int} (h : MapW w base n g gs vd d sp) (hn : n ≤ 1000000) (k : Nat) (hk : k < n) :
    Calls Try.prog 92 #[mptr g, .int .i32 k] w fun e w' => (∃ v, e = .returned v) ∧ MapTo w w' base n g gs vd (outE d k) := by
  obtain ⟨s, hcs, hfind⟩ := h.look hk
  have c0 : w.cell? ⟨g, 0, none⟩ = some vd := h.hg.cell 0
  have c1 : w.cell? ⟨g, 1, none⟩ = some (.slice (some ⟨gs, 0, none⟩) n n) := h.hg.cell 1
  obtain ⟨a, c, hvd, hlc, hcm, hcell⟩ := own_form h.hd
  have hle := h.hi.le
  have H := Lib.hid h; clear h
  rcases hfind with ⟨v, hv⟩ | ⟨hno, hs⟩
  · subst hvd
    have hsl : s < d.length := (List.getElem?_eq_some_iff.1 hv).1
    obtain ⟨gd, rfl, hgd⟩ := hcell (by omega)
    exact mremove_hit H hn k s hk v hv
  · rw [outE_not hno]
    clear hno
    rcases hs with hs | ⟨e, he, hne⟩
    · subst hvd
      have hd : decide ((s : Int) < (d.length : Int)) = false := by simp; omega
      clear hcell
      go_enter Try.func92, Try.ntmps92
      go_wp2
      go_end0
      exact ⟨⟨_, rfl⟩, MapTo.refl H.out⟩
    · subst hvd
      have hsl : s < d.length := (List.getElem?_eq_some_iff.1 he).1
      obtain ⟨gd, rfl, hgd⟩ := hcell (by omega)
      have c2 := hgd _ _ (mapCells_at he).1
      have hne' : (e.1 == (k : Int)) = false := by simpa using hne
      clear hgd he hne hcell
      go_enter Try.func92, Try.ntmps92
      go_wp2
      go_end0
      exact ⟨⟨_, rfl⟩, MapTo.refl H.out⟩
theorem mRemove_any {w : World} {base n g gs : Nat} {vd : Value} {d : List Pl.Ent} {sp : List Int} (h : MapW w base n g gs vd d sp) (hn : n ≤ 1000000) (k : Nat) (hk : k < n) :
    Calls Try.prog 50 #[mptr g, .int .i32 k] w fun e w' => (∃ v, e = .returned v) ∧ MapTo w w' base n g gs vd (outE d k) := by
  have H := Lib.hid (mremove_any h hn k hk)
  clear h
  go_enter Try.func50, Try.ntmps50
  go_wp2_with (go_at_call 92; refine H.out.mono ?_; rintro e w' ⟨⟨v, rfl⟩, hs⟩)
  go_end0
  exact ⟨⟨_, rfl⟩, hs⟩
end Go.Proofs.Ytdmjcgipfkhibaa
