/- The walks of a sparse map's methods, with positions: set, clear, size. -/
import Derived.Test.YtdmjcgipfkhibaaMpp1
import Derived.Deep.RegionLaw
namespace Go.Proofs.Ytdmjcgipfkhibaa
open Go.RowKit

theorem PpW.setv {w : World} {base n g gs gd cap : Nat} {d : List Pl.Ent} {sp : List Int} (h : PpW w base n g gs (.slice (some ⟨gd, 0, none⟩) d.length cap) d sp) {k s : Nat} {v x : Int} (hs : d[s]? = some ((k : Int), v)) (hx : PosV x) :
    PpTo w ((((w.setCell ⟨gd, s * 4 + 1, none⟩ (.int .i32 x)).setCell ⟨gd, s * 4 + 2, none⟩ (.int .i32 0)).setCell ⟨gd, s * 4 + 3, none⟩ (.int .u32 (x * 4096 + 16))).drew) base n g gs (.slice (some ⟨gd, 0, none⟩) d.length cap) (putE d k x) := by
  have hsl : s < d.length := (List.getElem?_eq_some_iff.1 hs).1
  have hne : gd ≠ g := fun e => own_ne h.hd h.hg (by decide) (by rw [← e]; rfl)
  have hne2 : gd ≠ gs := fun e => own_ne h.hd h.hs (by decide) (by rw [← e]; rfl)
  rw [putE_at h.hi.nodup hs]
  refine ⟨_, sp, ⟨(((h.hg.far (p := ⟨gd, s * 4 + 1, none⟩) (by simpa using hne.symm) _).far (p := ⟨gd, s * 4 + 2, none⟩) (by simpa using hne.symm) _).far (p := ⟨gd, s * 4 + 3, none⟩) (by simpa using hne.symm) _).drew, (((h.hs.far (p := ⟨gd, s * 4 + 1, none⟩) (by simpa using hne2.symm) _).far (p := ⟨gd, s * 4 + 2, none⟩) (by simpa using hne2.symm) _).far (p := ⟨gd, s * 4 + 3, none⟩) (by simpa using hne2.symm) _).drew, ?_, h.hi.set hs x, ?_, h.hb⟩,
    ((((Kept.refl _ w).setCell (p := ⟨gd, s * 4 + 1, none⟩) (.inl (by simp [ppfoot, Value.ownBlock])) _).setCell (p := ⟨gd, s * 4 + 2, none⟩) (.inl (by simp [ppfoot, Value.ownBlock])) _).setCell (p := ⟨gd, s * 4 + 3, none⟩) (.inl (by simp [ppfoot, Value.ownBlock])) _).drew, fun b hb => .inl hb⟩
  · have h1 := (((h.hd.stored (s * 4 + 1) (.int .i32 x)).1.stored (s * 4 + 2) (.int .i32 0)).1.stored (s * 4 + 3) (.int .u32 (x * 4096 + 16))).1.drew
    rw [List.length_set]
    have e1 : posCells (d.set s ((k : Int), x)) = (((posCells d).set (s * 4 + 1) (.int .i32 x)).set (s * 4 + 2) (.int .i32 0)).set (s * 4 + 3) (.int .u32 (x * 4096 + 16)) := by
      rw [posCells_set d s _ hsl]
      unfold putE4
      have e2 : (posCells d).set (s * 4) (.int .i32 (k : Int)) = posCells d := by
        apply List.ext_getElem?
        intro j
        rw [List.getElem?_set]
        split
        · rename_i hj; subst hj
          have := posCells_at hs 0 (by omega)
          rw [Nat.add_zero] at this
          rw [this, posCells_length]; simp [posE]; omega
        · rfl
      rw [e2]
    rw [e1]
    exact h1
  · intro e he
    rcases List.mem_or_eq_of_mem_set he with he | rfl
    · exact h.hz e he
    · exact hx

theorem PpW.added {w w1 : World} {base n g gs : Nat} {vd v1 : Value} {d : List Pl.Ent} {sp : List Int} (h : PpW w base n g gs vd d sp) {k : Nat} (hk : k < n) (hno : ∀ v, ((k : Int), v) ∉ d) {x : Int} (hx : PosV x)
    (ho : w1.ownsRow base 136 4 v1 (d.length + 1) (posCells d ++ posE ((k : Int), x))) (hg : w.grownBy w1 vd.ownBlock) (hat : ∀ b, v1.ownBlock = some b → vd.ownBlock = some b ∨ w.heap.size ≤ b) :
    PpTo w (((w1.setCell ⟨g, 0, none⟩ v1).setCell ⟨gs, k, none⟩ (.int .i32 d.length)).drew) base n g gs vd (putE d k x) := by
  have hne := own_ne h.hd h.hg (by decide)
  have hne2 := own_ne h.hd h.hs (by decide)
  have hgs : g ≠ gs := h.hg.ne h.hs (by decide)
  have hB1 : Blk w1 g 131 [vd, .slice (some ⟨gs, 0, none⟩) n n] := h.hg.grown hg (fun e => hne e.symm)
  have hS1 := h.hs.grown hg (fun e => hne2 e.symm)
  have ho1 := own_ne ho hB1 (by decide)
  have ho2 := own_ne ho hS1 (by decide)
  have e1 : putE d k x = d ++ [((k : Int), x)] := putE_not hno
  rw [e1]
  refine ⟨v1, sp.set k (d.length : Int), ⟨?_, ?_, ?_, ?_, ?_, h.hb⟩, ?_, ?_⟩
  · exact ((hB1.set 0 v1).far (by simpa using hgs) _).drew
  · have := (hS1.far (p := ⟨g, 0, none⟩) (by simpa using hgs.symm) v1).set k (.int .i32 d.length)
    rw [List.map_set]
    exact this
  · have : posCells (d ++ [((k : Int), x)]) = posCells d ++ posE ((k : Int), x) := by simp [posCells]
    rw [this, List.length_append]
    have h1 := ownsRow_setCell_other ho (a := ⟨g, 0, none⟩) ho1 v1
    exact (ownsRow_setCell_other h1 (a := ⟨gs, k, none⟩) ho2 _).drew
  · have := h.hi.push (x := (k : Int)) (by omega) (by omega) hno x
    rwa [Int.toNat_natCast] at this
  · intro e he
    rcases List.mem_append.1 he with he | he
    · exact h.hz e he
    · simp at he; rw [he]; exact hx
  · have h0 : Kept (ppfoot g gs vd) w w1 := (Kept.refl _ w).grown hg (fun b hb => .inl (by unfold ppfoot; rw [hb]; simp))
    exact ((h0.setCell (p := ⟨g, 0, none⟩) (.inl (by simp [ppfoot])) _).setCell (p := ⟨gs, k, none⟩) (.inl (by simp [ppfoot])) _).drew
  · exact hat


set_option maxHeartbeats 2000000 in
theorem ppset_hit {w : World} {base n g gs gd c : Nat} {d : List Pl.Ent} {sp : List Int} (H : Hid (PpW w base n g gs (.slice (some ⟨gd, 0, none⟩) d.length c) d sp)) (hn : n ≤ 1000000) (k s : Nat) (hk : k < n) (v : Int) (hv : d[s]? = some ((k : Int), v)) (x : Int) (hx : PosV x) :
    Calls Try.prog 99 #[mptr g, .int .i32 k, .int .i32 x, .agg #[.int .i32 0, .int .u32 (x * 4096 + 16)]] w fun e w' => (∃ v, e = .returned v) ∧ PpTo w w' base n g gs (.slice (some ⟨gd, 0, none⟩) d.length c) (putE d k x) := by
  have hba := (Bel.refl w).alloc (.cells #[.int .i32 0, .int .u32 (x * 4096 + 16)] 103)
  have hBx := Blk.new w 103 [.int .i32 0, .int .u32 (x * 4096 + 16)]
  have H1 := Lib.hid (H.out.bel hba)
  have hsl : s < d.length := (List.getElem?_eq_some_iff.1 hv).1
  have hle := H.out.hi.le
  have hcs : w.cell? ⟨gs, k, none⟩ = some (.int .i32 s) := by
    have := (H.out.hi.ix s _ hv).2.2
    rw [Int.toNat_natCast] at this
    rw [H.out.hs.cell k, List.getElem?_map, this]; rfl
  have hgd : ∀ j u, (posCells d)[j]? = some u → w.cell? ⟨gd, j, none⟩ = some u := fun j u hu => by
    have := H.out.hd.cells (g := gd) rfl j u hu
    simpa [Addr.add_lit] using this
  have HT := Lib.hid (PpTo.of_bel hba (H1.out.setv hv hx))
  have c0 := hba.cell (show w.cell? ⟨g, 0, none⟩ = some (.slice (some ⟨gd, 0, none⟩) d.length c) from H.out.hg.cell 0)
  have c1 := hba.cell (show w.cell? ⟨g, 1, none⟩ = some (.slice (some ⟨gs, 0, none⟩) n n) from H.out.hg.cell 1)
  have c2 := hba.cell hcs
  have c3 := hba.cell (hgd _ _ (posCells_at hv 0 (by omega)))
  have c4 := hba.cell (hgd _ _ (posCells_at hv 1 (by omega)))
  have c5 := hba.cell (hgd _ _ (posCells_at hv 2 (by omega)))
  have c6 := hba.cell (hgd _ _ (posCells_at hv 3 (by omega)))
  rw [Nat.add_zero] at c3
  have f4 : (w.alloc (.cells #[.int .i32 0, .int .u32 (x * 4096 + 16)] 103)).frozen? ⟨gd, s * 4 + 1, none⟩ = false := H1.out.hd.frozenAt _
  have f5 : (w.alloc (.cells #[.int .i32 0, .int .u32 (x * 4096 + 16)] 103)).frozen? ⟨gd, s * 4 + 2, none⟩ = false := H1.out.hd.frozenAt _
  have f6 : (w.alloc (.cells #[.int .i32 0, .int .u32 (x * 4096 + 16)] 103)).frozen? ⟨gd, s * 4 + 3, none⟩ = false := H1.out.hd.frozenAt _
  have b0 : (w.alloc (.cells #[.int .i32 0, .int .u32 (x * 4096 + 16)] 103)).cell? ⟨w.heap.size, 0, none⟩ = some (.int .i32 0) := hBx.cell 0
  have b1 : (w.alloc (.cells #[.int .i32 0, .int .u32 (x * 4096 + 16)] 103)).cell? ⟨w.heap.size, 1, none⟩ = some (.int .u32 (x * 4096 + 16)) := hBx.cell 1
  have hgdl : gd < w.heap.size := (H.out.hd.lt gd rfl).2
  have hne : gd ≠ g := fun e => own_ne H.out.hd H.out.hg (by decide) (by rw [← e]; rfl)
  have hneb : gd ≠ w.heap.size := by omega
  clear hgd hba hBx H H1 hv hcs hgdl
  generalize d.length = dl at *
  go_enter Try.func99, Try.ntmps99
  go_upto_region 3 with (fail)
  generalize w.alloc (.cells #[.int .i32 0, .int .u32 (x * 4096 + 16)] 103) = w1 at *
  go_upto_region 4 with (fail)
  have i0 : (0 : Int) ≤ (s : Int) := by omega
  have i1 : (s : Int) < (dl : Int) := by omega
  have hne' : g ≠ gd := fun e => hne e.symm
  have hneb' : w.heap.size ≠ gd := fun e => hneb e.symm
  go_region
  go_wp2
  refine bodyPost_ret (results_none rfl _ _ _) rfl ?_
  exact ⟨⟨_, rfl⟩, HT.out⟩

set_option maxRecDepth 100000 in
set_option maxHeartbeats 4000000 in
theorem ppset_any {w : World} {base n g gs : Nat} {vd : Value} {d : List Pl.Ent} {sp : List Int} (h : PpW w base n g gs vd d sp) (hn : n ≤ 1000000) (hbase : base ≤ w.heap.size) (k : Nat) (hk : k < n) (x : Int) (hx : PosV x) :
    Calls Try.prog 99 #[mptr g, .int .i32 k, .int .i32 x, .agg #[.int .i32 0, .int .u32 (x * 4096 + 16)]] w fun e w' => (∃ v, e = .returned v) ∧ PpTo w w' base n g gs vd (putE d k x) := by
  obtain ⟨s, hcs, hfind⟩ := h.look hk
  obtain ⟨a, c, hvd, hlc, hcm, hcell⟩ := own_form h.hd
  have hle := h.hi.le
  have H := Lib.hid h; clear h
  rcases hfind with ⟨v, hv⟩ | ⟨hno, hs⟩
  · subst hvd
    have hsl : s < d.length := (List.getElem?_eq_some_iff.1 hv).1
    obtain ⟨gd, rfl, hgd⟩ := hcell (by omega)
    exact ppset_hit H hn k s hk v hv x hx
  · have HNO := Lib.hid hno; clear hno
    have hba := (Bel.refl w).alloc (.cells #[.int .i32 0, .int .u32 (x * 4096 + 16)] 103)
    have hBx := Blk.new w 103 [.int .i32 0, .int .u32 (x * 4096 + 16)]
    have hdec : Hid (decide ((s : Int) < (d.length : Int)) = false ∨ ∃ e gd, d[s]? = some e ∧ e.1 ≠ (k : Int) ∧ vd = .slice (some ⟨gd, 0, none⟩) d.length c ∧ s < d.length ∧ w.cell? ⟨gd, s * 4, none⟩ = some (.int .i32 e.1)) := Lib.hid (by
      rcases hs with hs | ⟨e, he, hne⟩
      · left; simp; omega
      · right
        have hsl : s < d.length := (List.getElem?_eq_some_iff.1 he).1
        obtain ⟨gd, rfl, hgd⟩ := hcell (by omega)
        have := hgd _ _ (posCells_at he 0 (by omega))
        rw [Nat.add_zero] at this
        exact ⟨e, gd, he, hne, hvd, hsl, this⟩)
    have HVD := Lib.hid hvd
    have c0 := hba.cell (show w.cell? ⟨g, 0, none⟩ = some vd from H.out.hg.cell 0)
    have c1 := hba.cell (show w.cell? ⟨g, 1, none⟩ = some (.slice (some ⟨gs, 0, none⟩) n n) from H.out.hg.cell 1)
    have c2 := hba.cell hcs
    have f0 : (w.alloc (.cells #[.int .i32 0, .int .u32 (x * 4096 + 16)] 103)).frozen? ⟨g, 0, none⟩ = false := (H.out.hg.bel hba).frozen 0
    have b0 : (w.alloc (.cells #[.int .i32 0, .int .u32 (x * 4096 + 16)] 103)).cell? ⟨w.heap.size, 0, none⟩ = some (.int .i32 0) := hBx.cell 0
    have b1 : (w.alloc (.cells #[.int .i32 0, .int .u32 (x * 4096 + 16)] 103)).cell? ⟨w.heap.size, 1, none⟩ = some (.int .u32 (x * 4096 + 16)) := hBx.cell 1
    have H1 := Lib.hid (H.out.bel hba)
    have HB := Lib.hid hba
    have hne := own_ne H1.out.hd H1.out.hg (by decide)
    have HCS : Hid ((sp.map (Value.int .i32))[k]? = some (Value.int .i32 s)) := Lib.hid (by rw [← H.out.hs.cell k]; exact hcs)
    have hgs : g ≠ gs := H.out.hg.ne H.out.hs (by decide)
    have hw1 : base ≤ (w.alloc (.cells #[.int .i32 0, .int .u32 (x * 4096 + 16)] 103)).heap.size := by simp; omega
    clear hcs hcell hs hvd hBx
    have hEX : (decide ((s : Int) < (d.length : Int)) = false) ∨ ∃ (gd : Nat) (e1 : Int), (e1 == (k : Int)) = false ∧ vd = .slice (some ⟨gd, 0, none⟩) d.length c ∧ s < d.length ∧ (w.alloc (.cells #[.int .i32 0, .int .u32 (x * 4096 + 16)] 103)).cell? ⟨gd, s * 4, none⟩ = some (.int .i32 e1) := by
      rcases hdec.out with h | ⟨e, gd, _, h2, h3, h4, h5⟩
      · exact .inl h
      · exact .inr ⟨gd, e.1, by simpa using h2, h3, h4, hba.cell h5⟩
    clear hdec hba
    obtain rfl := HVD.out
    go_enter Try.func99, Try.ntmps99
    rcases hEX with hd | ⟨gd, e1, he1, hvd, hsl, hce⟩
    · have hd2 : (d.length : Int) ≤ (s : Int) := by simpa using hd
      go_upto_region 5 with (fail)
      generalize w.alloc (.cells #[.int .i32 0, .int .u32 (x * 4096 + 16)] 103) = w1 at *
      have ka := fun o => ((Bel.refl w1).alloc o).cell c0
      go_region_law
        (first
          | (refine step_app elEpo (by rfl) _ _ (by rfl) base _ d.length (posCells d) (by rfl) ((own_bel H1.out.hd (Bel.refl w1).drew).alloc _) w1.heap.size (posE ((k : Int), x)) (by rfl) (Blk.new w1.drew _ (posE ((k : Int), x))) (by rfl) (by simp [posE, Value.oneCell']) (by omega) (by omega) (by simp; omega) ?_; intro g2 cap2 w2 ho2 hg2 hat2 hlt2; obtain ⟨k20, k21⟩ := grown_cf hg2 hne (bel_cf (((Bel.refl w1).drew).alloc _) ⟨c0, f0⟩)))
      all_goals (
        have hWb := ((Bel.refl w1).drew).alloc (.cells #[.int .i32 (k : Int), .int .i32 x, .int .i32 0, .int .u32 (x * 4096 + 16)] 136)
        have HT := Lib.hid (PpTo.of_bel (HB.out.trans hWb) ((H1.out.bel hWb).added hk HNO.out hx ho2 hg2 (fun b hb => by
          have e : g2 = b := by simpa [Value.ownBlock] using hb
          subst e
          rcases hat2 with h | h
          · exact .inl h
          · exact .inr (by rw [h]; exact Nat.le_refl _))))
        have hB2 := ((H1.out.hg.bel hWb).grown hg2 (fun e => hne e.symm)).set 0 (.slice (some ⟨g2, 0, none⟩) (d.length + 1) cap2)
        have hS2 := ((H1.out.hs.bel hWb).grown hg2 (fun e => own_ne (H1.out.bel hWb).hd (H1.out.hs.bel hWb) (by decide) e.symm)).far (p := ⟨g, 0, none⟩) (by simpa using hgs.symm) (.slice (some ⟨g2, 0, none⟩) (d.length + 1) cap2)
        simp only [List.set_cons_zero] at hB2
        clear ho2 hg2 hat2 hlt2 k20 k21 hWb ka c0 c1 c2 f0 b0 b1
        go_upto_region 6 with (fail)
        generalize w2.setCell ⟨g, 0, none⟩ (.slice (some ⟨g2, 0, none⟩) (d.length + 1) cap2) = w3 at hB2 hS2 HT ⊢
        have d0 : w3.cell? ⟨g, 0, none⟩ = some (.slice (some ⟨g2, 0, none⟩) (d.length + 1) cap2) := hB2.cell 0
        have d1 : w3.cell? ⟨g, 1, none⟩ = some (.slice (some ⟨gs, 0, none⟩) n n) := hB2.cell 1
        have d2 : w3.cell? ⟨gs, k, none⟩ = some (.int .i32 s) := by rw [hS2.cell k]; exact HCS.out
        have d2f : w3.frozen? ⟨gs, k, none⟩ = false := hS2.frozen k
        clear hB2 hS2
        have i0 : (0 : Int) ≤ (k : Int) := by omega
        have i1 : (k : Int) < (n : Int) := by omega
        go_region
        go_wp2
        go_end0
        exact ⟨⟨_, rfl⟩, HT.out⟩)
    · injection hvd with hv1 hv2 hv3
      subst hv1
      go_upto_region 5 with (fail)
      generalize w.alloc (.cells #[.int .i32 0, .int .u32 (x * 4096 + 16)] 103) = w1 at *
      have ka := fun o => ((Bel.refl w1).alloc o).cell c0
      go_region_law
        (first
          | (refine step_app elEpo (by rfl) _ _ (by rfl) base _ d.length (posCells d) (by rfl) ((own_bel H1.out.hd (Bel.refl w1).drew).alloc _) w1.heap.size (posE ((k : Int), x)) (by rfl) (Blk.new w1.drew _ (posE ((k : Int), x))) (by rfl) (by simp [posE, Value.oneCell']) (by omega) (by omega) (by simp; omega) ?_; intro g2 cap2 w2 ho2 hg2 hat2 hlt2; obtain ⟨k20, k21⟩ := grown_cf hg2 hne (bel_cf (((Bel.refl w1).drew).alloc _) ⟨c0, f0⟩)))
      all_goals (
        have hWb := ((Bel.refl w1).drew).alloc (.cells #[.int .i32 (k : Int), .int .i32 x, .int .i32 0, .int .u32 (x * 4096 + 16)] 136)
        have HT := Lib.hid (PpTo.of_bel (HB.out.trans hWb) ((H1.out.bel hWb).added hk HNO.out hx ho2 hg2 (fun b hb => by
          have e : g2 = b := by simpa [Value.ownBlock] using hb
          subst e
          rcases hat2 with h | h
          · exact .inl h
          · exact .inr (by rw [h]; exact Nat.le_refl _))))
        have hB2 := ((H1.out.hg.bel hWb).grown hg2 (fun e => hne e.symm)).set 0 (.slice (some ⟨g2, 0, none⟩) (d.length + 1) cap2)
        have hS2 := ((H1.out.hs.bel hWb).grown hg2 (fun e => own_ne (H1.out.bel hWb).hd (H1.out.hs.bel hWb) (by decide) e.symm)).far (p := ⟨g, 0, none⟩) (by simpa using hgs.symm) (.slice (some ⟨g2, 0, none⟩) (d.length + 1) cap2)
        simp only [List.set_cons_zero] at hB2
        clear ho2 hg2 hat2 hlt2 k20 k21 hWb ka c0 c1 c2 f0 b0 b1
        go_upto_region 6 with (fail)
        generalize w2.setCell ⟨g, 0, none⟩ (.slice (some ⟨g2, 0, none⟩) (d.length + 1) cap2) = w3 at hB2 hS2 HT ⊢
        have d0 : w3.cell? ⟨g, 0, none⟩ = some (.slice (some ⟨g2, 0, none⟩) (d.length + 1) cap2) := hB2.cell 0
        have d1 : w3.cell? ⟨g, 1, none⟩ = some (.slice (some ⟨gs, 0, none⟩) n n) := hB2.cell 1
        have d2 : w3.cell? ⟨gs, k, none⟩ = some (.int .i32 s) := by rw [hS2.cell k]; exact HCS.out
        have d2f : w3.frozen? ⟨gs, k, none⟩ = false := hS2.frozen k
        clear hB2 hS2
        have i0 : (0 : Int) ≤ (k : Int) := by omega
        have i1 : (k : Int) < (n : Int) := by omega
        go_region
        go_wp2
        go_end0
        exact ⟨⟨_, rfl⟩, HT.out⟩)
end Go.Proofs.Ytdmjcgipfkhibaa
