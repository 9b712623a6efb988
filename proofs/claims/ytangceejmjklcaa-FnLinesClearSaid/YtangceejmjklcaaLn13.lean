/- impl.Lines. -/
import Derived.Test.YtangceejmjklcaaLn12
namespace Go.Proofs.Ytangceejmjklcaa
open Go.RowKit Go.BigFrame

theorem LA.start (w : World) (fs : Nat → Int) (ns : Nat → Nat) : LA w (((((w.alloc (.cells #[.slice none 0 0, .map none, .map none] TTY)).alloc (.cells #[] 53)).alloc (.cells #[] 3)).alloc (.cells #[] 55)).alloc (.cells #[] 55)) w.heap.size fs ns [] 0 0 0 []
    (.slice (some ⟨w.heap.size + 1, 0, none⟩) 0 0) (.slice (some ⟨w.heap.size + 1 + 1, 0, none⟩) 0 0) (.slice (some ⟨w.heap.size + 1 + 1 + 1, 0, none⟩) 0 0) (.slice (some ⟨w.heap.size + 1 + 1 + 1 + 1, 0, none⟩) 0 0) := by
  have hb0 := Blk.new w TTY [.slice none 0 0, .map none, .map none]
  have e1 := owns_empty (w.alloc (.cells #[.slice none 0 0, .map none, .map none] TTY)) w.heap.size 53 1 (w.heap.size + 1) (by simp) (by omega)
  have e2 := owns_empty ((w.alloc (.cells #[.slice none 0 0, .map none, .map none] TTY)).alloc (.cells #[] 53)) w.heap.size 3 1 (w.heap.size + 1 + 1) (by simp) (by omega)
  have e3 := owns_empty (((w.alloc (.cells #[.slice none 0 0, .map none, .map none] TTY)).alloc (.cells #[] 53)).alloc (.cells #[] 3)) w.heap.size 55 1 (w.heap.size + 1 + 1 + 1) (by simp) (by omega)
  have e4 := owns_empty ((((w.alloc (.cells #[.slice none 0 0, .map none, .map none] TTY)).alloc (.cells #[] 53)).alloc (.cells #[] 3)).alloc (.cells #[] 55)) w.heap.size 55 1 (w.heap.size + 1 + 1 + 1 + 1) (by simp) (by omega)
  refine ⟨(((((Bel.refl w).alloc _).alloc _).alloc _).alloc _).alloc _, Nat.le_refl _, ⟨⟨rfl, .inl ⟨rfl, rfl, rfl, (((hb0.alloc _).alloc _).alloc _).alloc _⟩⟩, ⟨rfl, List.nodup_nil, by simp⟩, List.nodup_nil, by simp, List.nodup_nil, by simp, by decide, by decide⟩, by simp, ?_, ?_, ?_, e4, ?_, ?_⟩
  · exact ((e1.alloc _).alloc _).alloc _
  · exact (e2.alloc _).alloc _
  · exact e3.alloc _
  · intro q h1 h2
    simp [Value.ownBlock] at h1 h2
    omega
  · intro q _ hx; simp at hx

/-- The values of the operations. -/
def VL11 (bx : Nat) (u8 u9 : Value) (f l : Int) (b1 : Nat) (v1 : Value) (b2 : Nat) (v2 : Value) : List (Nat × Nat × Value) := [(0, 54, u8), (1, 55, .pointer (some ⟨bx, 0, none⟩)), (2, 56, .int .i64 f), (3, 57, .int .u32 f), (4, 58, .slice (some ⟨b1, 0, none⟩) 1 1), (5, 59, v1), (6, 60, u9), (7, 61, .pointer (some ⟨bx, 1, none⟩)), (8, 62, .int .i64 l), (9, 63, .int .u32 l), (10, 64, .slice (some ⟨b2, 0, none⟩) 1 1), (11, 65, v2), (12, 8, v1), (13, 9, v2)]
theorem VL11_slots (bx : Nat) (u8 u9 : Value) (f l : Int) (b1 : Nat) (v1 : Value) (b2 : Nat) (v2 : Value) : (VL11 bx u8 u9 f l b1 v1 b2 v2).map (·.2.1) = [54, 55, 56, 57, 58, 59, 60, 61, 62, 63, 64, 65, 8, 9] := rfl
theorem VL11_idx (bx : Nat) (u8 u9 : Value) (f l : Int) (b1 : Nat) (v1 : Value) (b2 : Nat) (v2 : Value) : (VL11 bx u8 u9 f l b1 v1 b2 v2).map (·.1) = [0, 1, 2, 3, 4, 5, 6, 7, 8, 9, 10, 11, 12, 13] := rfl
theorem VL11_nd (bx : Nat) (u8 u9 : Value) (f l : Int) (b1 : Nat) (v1 : Value) (b2 : Nat) (v2 : Value) : ((VL11 bx u8 u9 f l b1 v1 b2 v2).map (·.2.1)).Nodup := by rw [VL11_slots]; decide
theorem VL11_nd' (bx : Nat) (u8 u9 : Value) (f l : Int) (b1 : Nat) (v1 : Value) (b2 : Nat) (v2 : Value) : ((VL11 bx u8 u9 f l b1 v1 b2 v2).map (·.1)).Nodup := by rw [VL11_idx]; decide
theorem VL11_not11 (bx : Nat) (u8 u9 : Value) (f l : Int) (b1 : Nat) (v1 : Value) (b2 : Nat) (v2 : Value) : 11 ∉ (VL11 bx u8 u9 f l b1 v1 b2 v2).map (·.2.1) := by rw [VL11_slots]; decide
/-- The values of the operations. -/
def VL18 (tb gb m vc bs i g : Nat) (kk ln co lc : Int) (b : Nat) : List (Nat × Nat × Value) := [(0, 78, ptr tb), (1, 79, .slice (some ⟨gb, 0, none⟩) m vc), (2, 80, .pointer (some ⟨bs, 1, none⟩)), (3, 81, .int .i64 (i : Int)), (4, 82, .pointer (some ⟨gb, i, none⟩)), (5, 83, ptr g), (6, 84, .pointer (some ⟨bs, 2, none⟩)), (7, 85, .int .i64 ln), (8, 86, .int .u64 ln), (9, 87, .pointer (some ⟨bs, 3, none⟩)), (10, 88, .int .i64 co), (11, 89, .int .u64 co), (12, 90, .agg #[ptr g, .int .u32 lc]), (13, 91, .agg #[.int .i32 kk, .int .u32 lc]), (14, 18, .pointer (some ⟨b, 0, none⟩))]
theorem VL18_slots (tb gb m vc bs i g : Nat) (kk ln co lc : Int) (b : Nat) : (VL18 tb gb m vc bs i g kk ln co lc b).map (·.2.1) = [78, 79, 80, 81, 82, 83, 84, 85, 86, 87, 88, 89, 90, 91, 18] := rfl
theorem VL18_idx (tb gb m vc bs i g : Nat) (kk ln co lc : Int) (b : Nat) : (VL18 tb gb m vc bs i g kk ln co lc b).map (·.1) = [0, 1, 2, 3, 4, 5, 6, 7, 8, 9, 10, 11, 12, 13, 14] := rfl
theorem VL18_nd (tb gb m vc bs i g : Nat) (kk ln co lc : Int) (b : Nat) : ((VL18 tb gb m vc bs i g kk ln co lc b).map (·.2.1)).Nodup := by rw [VL18_slots]; decide
theorem VL18_nd' (tb gb m vc bs i g : Nat) (kk ln co lc : Int) (b : Nat) : ((VL18 tb gb m vc bs i g kk ln co lc b).map (·.1)).Nodup := by rw [VL18_idx]; decide
theorem VL18_not5 (tb gb m vc bs i g : Nat) (kk ln co lc : Int) (b : Nat) : 5 ∉ (VL18 tb gb m vc bs i g kk ln co lc b).map (·.2.1) := by rw [VL18_slots]; decide
theorem VL18_not6 (tb gb m vc bs i g : Nat) (kk ln co lc : Int) (b : Nat) : 6 ∉ (VL18 tb gb m vc bs i g kk ln co lc b).map (·.2.1) := by rw [VL18_slots]; decide
theorem VL18_not17 (tb gb m vc bs i g : Nat) (kk ln co lc : Int) (b : Nat) : 17 ∉ (VL18 tb gb m vc bs i g kk ln co lc b).map (·.2.1) := by rw [VL18_slots]; decide
/-- What the operations bring about. -/
def VL18_F (K : Nat) (kk lc : Int) (b : Nat) : List Fact := [([14], fun W => K ≤ b ∧ ∃ y0 y1, Blk W b 58 [y0, y1]), ([14, 15], fun W => Blk W b 58 [.int .i32 kk, .int .u32 lc])]
theorem VL18_st (K : Nat) (kk lc : Int) (b : Nat) : Stab (VL18_F K kk lc b) := (Stab.cons (fun _ _ hb h => ⟨h.1, h.2.imp fun _ h => h.imp fun _ h => h.bel hb⟩) (Stab.cons (fun _ _ hb h => h.bel hb) Stab.nil))
theorem elAns : ElTy 25 33 5 88 := ElTy.mk' (z := .agg #[.bool false, .int .i64 0, .slice none 0 0, .slice none 0 0, .slice none 0 0]) Try.underlying25 (by kernel_rfl) rfl (by decide)
theorem elInt : ElTy 50 3 1 8 := ElTy.mk' (z := .int .i64 0) Try.underlying50 (by kernel_rfl) rfl (by decide)
theorem elU32 : ElTy 51 55 1 4 := ElTy.mk' (z := .int .u32 0) Try.underlying51 (by kernel_rfl) rfl (by decide)

/-- A slice value reads as the answers A; all of it is own memory. -/
def LAnO (w : World) (B : Nat) (v : Value) (A : List Pl.LAns) : Prop := ∃ L : List LA3, A = L.map (·.1) ∧ w.ownsRow B 33 5 v L.length (ansCells L) ∧ ∀ p ∈ L, AnsI w B p
theorem LAnO.read {W : World} {B : Nat} {v : Value} {A : List Pl.LAns} (h : LAnO W B v A) : LAnS W v A := by
  obtain ⟨L, rfl, ho, hp⟩ := h
  obtain ⟨a, c, rfl, h1, h2, h3⟩ := own_form ho
  refine ⟨a, c, by simp, by simpa using h1, h2, fun h0 => ?_⟩
  rw [List.length_map] at h0
  obtain ⟨g, rfl, hg⟩ := h3 h0
  refine ⟨g, rfl, fun i y hy => ?_⟩
  rw [List.getElem?_map] at hy
  obtain ⟨p, hpi, rfl⟩ := Option.map_eq_some_iff.1 hy
  obtain ⟨c0, c1, c2, c3, c4⟩ := ansCells_at L i p hpi
  obtain ⟨n, r1, r2, r3⟩ := hp p (List.mem_of_getElem? hpi)
  exact ⟨_, _, _, hg _ _ c0, hg _ _ c1, hg _ _ c2, hg _ _ c3, hg _ _ c4, IntR.own r1, IntR.own r2, IntR.own r3⟩
theorem LAnO.bel {W W' : World} {B : Nat} {v : Value} {A : List Pl.LAns} (h : LAnO W B v A) (hb : Bel W W') : LAnO W' B v A := by
  obtain ⟨L, rfl, ho, hp⟩ := h
  exact ⟨L, rfl, own_bel ho hb, fun p hm => (hp p hm).map fun _ _ _ h => own_bel h hb⟩
theorem LAnO.far {W W' : World} {B b2 : Nat} {e2 : TypeId} {s2 n2 : Nat} {v v2 : Value} {x2 : List Value} {A : List Pl.LAns} (h : LAnO W B v A) (h2 : W.ownsRow b2 e2 s2 v2 n2 x2) (hne : 33 ≠ e2) (hni : 2 ≠ e2) (hg : W.grownBy W' v2.ownBlock) : LAnO W' B v A := by
  obtain ⟨L, rfl, ho, hp⟩ := h
  exact ⟨L, rfl, own_far ho h2 hne hg, fun p hm => (hp p hm).map fun _ _ _ h => own_far h h2 hni hg⟩

set_option maxRecDepth 100000 in
set_option maxHeartbeats 8000000 in
theorem lines_own (a1 : Option Addr) (n1 c1 : Nat) (R : List Pl.Ent) (a2 : Option Addr) (n2 c2 : Nat) (S : List Pl.LStep) (w : World) (hR : Ents w a1 n1 R) (hS : LSt w a2 n2 S) (hok : RngOk R) (hs : ∀ s ∈ S, StepK n1 s) (hn : n1 ≤ 20) (hn2 : n2 ≤ 1000) :
    Calls Try.prog 9 #[.slice a1 n1 c1, .slice a2 n2 c2] w fun e w' => ∃ v A, e = .returned v ∧ LAnO w' w.heap.size v A ∧ Pl.Runs (fsOf R) (nsOf R) n1 S A ∧ Bel w w' := by
  have HR := Lib.hid hR; clear hR
  have HS := Lib.hid hS; clear hS
  have HOK := Lib.hid hok; clear hok
  have HSK := Lib.hid hs; clear hs
  have HI := Lib.hid (LA.start w (fsOf R) (nsOf R))
  go_enter Try.func9, Try.ntmps9
  go_wp2_with fail
  generalize htb : w.heap.size = tb at HI ⊢
  have HTB := Lib.hid htb; clear htb
  generalize ((((w.alloc (.cells #[.slice none 0 0, .map none, .map none] TTY)).alloc (.cells #[] 53)).alloc (.cells #[] 3)).alloc (.cells #[] 55)).alloc (.cells #[] 55) = w1 at HI ⊢
  go_loopw [6, 7, 8, 9, 28] (fun vb vf v1 v2 i wr => ∃ (j : Nat) (gs T : List Nat), j ≤ n1 ∧ i = .int .i64 j ∧ gs.length = j ∧ LA w wr tb (fsOf R) (nsOf R) gs j j j T vb vf v1 v2) (fun _ _ _ _ i _ => n1 - (intOf i).toNat)
  case atStart => exact ⟨0, [], [], Nat.zero_le _, rfl, rfl, HI.out⟩
  case round =>
    obtain ⟨j, gs, T, hj, rfl, hgl, hA⟩ := hrel
    subst hgl
    have HA := Lib.hid hA; clear hA HI
    by_cases hlt : gs.length < n1
    · obtain ⟨b, o, rfl, hcell⟩ := HR.out.2 (by omega)
      obtain ⟨e, he⟩ : ∃ e, R[gs.length]? = some e := ⟨_, List.getElem?_eq_getElem (by rw [HR.out.1]; exact hlt)⟩
      obtain ⟨q0, q1, q2, q3⟩ := HOK.out e (List.mem_of_getElem? he)
      obtain ⟨d0, d1⟩ := hcell gs.length e he
      replace d0 := HA.out.bel.cell d0
      replace d1 := HA.out.bel.cell d1
      have HF : Hid (fsOf R gs.length = e.1 ∧ e.1 + (nsOf R gs.length : Int) - 1 = e.2) := Lib.hid (by
        unfold nsOf fsOf
        rw [List.getD_eq_getElem?_getD, he]
        simp only [Option.getD_some]
        exact ⟨trivial, by omega⟩)
      clear hcell he
      obtain ⟨f, l⟩ := e
      simp only at q0 q1 q2 q3 d0 d1 HF
      obtain ⟨vx, vc, rfl, _, _, _⟩ := own_form HA.out.rb
      obtain ⟨hfx, hfc, rfl, _, _, _⟩ := own_form HA.out.rf
      have hbA : Bel wr (wr.alloc (.cells #[.int .i64 f, .int .i64 l] 40)) := (Bel.refl wr).alloc _
      have hBX := Blk.new wr 40 [.int .i64 f, .int .i64 l]
      have hcv : (convert 52 9 (.slice (some ⟨wr.heap.size + 1, 0, none⟩) 1 1)).run Try.prog ((wr.alloc (.cells #[.int .i64 f, .int .i64 l] 40)).alloc (.cells #[.int .u8 (97 + (gs.length : Int))] 5)) = .ok (.string (nmOf gs.length)) ((wr.alloc (.cells #[.int .i64 f, .int .i64 l] 40)).alloc (.cells #[.int .u8 (97 + (gs.length : Int))] 5)) := by
        have hB := Blk.new (wr.alloc (.cells #[.int .i64 f, .int .i64 l] 40)) 5 [.int .u8 (97 + (gs.length : Int))]
        rw [World.size_alloc] at hB
        refine run_convert_bytes_arg (P := Try.prog) _ 52 5 Try.underlying52 Try.underlying5 _ 0 1 1 [97 + (gs.length : Int)] rfl (fun i hi => by
          obtain rfl : i = 0 := by omega
          exact hB.cell 0) _ Try.underlying9
      have hbB := hbA.alloc (.cells #[.int .u8 (97 + (gs.length : Int))] 5)
      have hBX' : Blk ((wr.alloc (.cells #[.int .i64 f, .int .i64 l] 40)).alloc (.cells #[.int .u8 (97 + (gs.length : Int))] 5)) wr.heap.size 40 [.int .i64 f, .int .i64 l] := hBX.alloc _
      have HBX := Lib.hid (And.intro hbB hBX')
      clear hbA hBX hbB hBX'
      go_wp2_with fail
      clear hcv
      generalize (wr.alloc (.cells #[.int .i64 f, .int .i64 l] 40)).alloc (.cells #[.int .u8 (97 + (gs.length : Int))] 5) = w2 at HBX ⊢
      have HL := Lib.hid HA.out.tab.lt
      generalize hnm : nmOf gs.length = nm
      have HNM := Lib.hid hnm; clear hnm
      refine (newFileBase_any nm _).mono ?_
      rintro e w3 ⟨g, rfl, hg, hBg, hb3⟩
      have HBX3 := Lib.hid (And.intro (HBX.out.1.trans hb3) (HBX.out.2.bel hb3))
      have HBG := Lib.hid (And.intro hBg (And.intro (Nat.le_trans HBX.out.1.size hg) hb3))
      have hz3 : w.heap.size ≤ w3.heap.size := (HA.out.bel.trans HBX3.out.1).size
      clear hBg hg hb3 HBX
      go_wp2_with (at_builtin; refine wpList_push el67 rfl _ _ rfl w.heap.size (.slice vx gs.length vc) gs.length _ rfl (own_bel HA.out.rb HBX3.out.1) [ptr g] w3.heap.size rfl rfl rfl (by simp [Value.oneCell']) (by omega) (by omega) hz3 ?_)
      intro vb' w4 ho4 hg4 hat4
      have HA4 : Hid (LA w w4 tb (fsOf R) (nsOf R) (gs ++ [g]) gs.length gs.length gs.length T vb' (.slice hfx gs.length hfc) u8 u9 ∧ Blk w4 wr.heap.size 40 [.int .i64 f, .int .i64 l] ∧ (gs ++ [g]).getD gs.length 0 = g) := Lib.hid (by
        have hA2 := HA.out.on HBX3.out.1
        refine ⟨hA2.base (W1 := w3) (by omega) (by rw [HNM.out]; exact HBG.out.1) (fun hm => ?_) ?_ (Bel.refl w3) ho4 hg4 hat4, HBX3.out.2.grown hg4 (fun e => own_ne hA2.rb HBX3.out.2 (by decide) e.symm), ?_⟩
        · have h1 := HL.out g (by simp [hm])
          have h2 := HBG.out.2.1
          omega
        · have h2 := HBG.out.2.1
          have h1 := HA.out.bel.size
          omega
        · rw [List.getD_eq_getElem?_getD, List.getElem?_append_right (Nat.le_refl _)]; simp)
      clear ho4 hg4 hat4 hz3 HBX3 HBG HL
      have hgd := HA4.out.2.2
      go_wp2_with fail
      refine (makePos_any (ptr g) 1 1 _ ⟨_, rfl⟩ (by omega) (by omega) (by omega) (by omega)).mono ?_
      rintro e w5 ⟨rfl, hb5⟩
      have HA5 := Lib.hid (And.intro (HA4.out.1.on hb5) (HA4.out.2.1.bel hb5))
      have hX := xpos_tab tb TTY [] (gs ++ [g]) (nmsOf (gs ++ [g]).length) (List.range gs.length) T gs.length 4112 w5 HA5.out.1.tab (by simp)
      rw [hgd, idx_new, regAdd_range] at hX
      have HX := Lib.hid hX
      clear hgd hX HA4 hb5
      go_wp2_with fail
      refine HX.out.mono ?_
      rintro e w6 ⟨T', rfl, ht6, hs6, hk6, _⟩
      have HA6 : Hid (LA w w6 tb (fsOf R) (nsOf R) (gs ++ [g]) (gs.length + 1) gs.length gs.length T' vb' (.slice hfx gs.length hfc) u8 u9 ∧ Blk w6 wr.heap.size 40 [.int .i64 f, .int .i64 l]) := Lib.hid
        ⟨HA5.out.1.reg ht6 hs6 hk6, HA5.out.2.kept hk6 (fun hm => by
          have hA := HA5.out
          simp only [List.cons_append, List.mem_cons, List.append_assoc, List.nil_append, List.mem_append] at hm
          rcases hm with e | hm | hm | hm
          · obtain ⟨_, ⟨_, _, _, hb⟩ | ⟨gv, bi, bn, _, _, cap, hb, _⟩⟩ := hA.1.tab.1
            · exact hA.2.ne hb (by decide) e
            · exact hA.2.ne hb (by decide) e
          · obtain ⟨i, hi, hie⟩ := List.getElem_of_mem (List.mem_append_left [g] hm)
            have hb := hA.1.tab.2.1.one hi
            rw [List.getD_eq_getElem?_getD, List.getElem?_eq_getElem hi, hie] at hb
            exact hA.2.ne hb (by decide) rfl
          · obtain ⟨i, hi, hie⟩ := List.getElem_of_mem (List.mem_append_right gs (List.mem_singleton.2 hm))
            have hb := hA.1.tab.2.1.one hi
            rw [List.getD_eq_getElem?_getD, List.getElem?_eq_getElem hi, hie] at hb
            exact hA.2.ne hb (by decide) rfl
          · obtain ⟨_, ⟨_, _, hT, _⟩ | ⟨gv, bi, bn, _, hT, cap, _, hv, hi, hn, _⟩⟩ := hA.1.tab.1
            · rw [hT] at hm; simp at hm
            · rw [hT] at hm
              simp at hm
              rcases hm with e | e | e
              · exact own_ne hv hA.2 (by decide) (by rw [e]; rfl)
              · exact hi.ne hA.2 e.symm
              · exact hn.ne hA.2 e.symm)⟩
      clear ht6 hs6 hk6 HX HA5
      generalize hkk : (gs.length : Int) + 1 = kk
      have HKK := Lib.hid hkk
      go_wp2_with fail
      refine (fileIndex_any kk 4112 w6).mono ?_
      rintro e w7 ⟨rfl, hb7⟩
      have HA7 := Lib.hid (And.intro (HA6.out.1.on hb7) (HA6.out.2.bel hb7))
      have hz7 : w.heap.size ≤ w7.heap.size := HA7.out.1.bel.size
      have i1 : IntKind.i64.wrap kk = kk := IntWalk.i64_in _ (by omega)
      clear hb7 HA6
      go_wp2_with (at_builtin; refine wpList_push elInt rfl _ _ rfl w.heap.size (.slice hfx gs.length hfc) gs.length _ rfl HA7.out.1.rf [.int .i64 kk] w7.heap.size rfl rfl rfl (by simp [Value.oneCell']) (by omega) (by omega) hz7 ?_)
      intro vf' w8 ho8 hg8 _
      have HA8 : Hid (LA w w8 tb (fsOf R) (nsOf R) (gs ++ [g]) (gs.length + 1) (gs.length + 1) gs.length T' vb' vf' u8 u9 ∧ Blk w8 wr.heap.size 40 [.int .i64 f, .int .i64 l]) := Lib.hid
        ⟨HA7.out.1.file (by rw [HKK.out]; exact ho8) hg8, HA7.out.2.grown hg8 (fun e => own_ne HA7.out.1.rf HA7.out.2 (by decide) e.symm)⟩
      clear ho8 hg8 HA7 hz7
      have hfw : IntKind.u32.wrap f = f := IntWalk.u32_in _ (by omega)
      have hlw : IntKind.u32.wrap l = l := IntWalk.u32_in _ (by omega)
      generalize hbx : wr.heap.size = bx at HA8 ⊢
      have HEI : Hid (CJ w8 w.heap.size bx gs.length (firstV (fsOf R) gs.length) (lastV (fsOf R) (nsOf R) gs.length) u8 u9 f l (fun _ => false) 0 (.bool false) 0 (.bool false) w8.drew) := Lib.hid
        ⟨(Kept.refl _ w8).drew, HA8.out.2.drew, ⟨fun _ => own_bel HA8.out.1.r1 (Bel.refl w8).drew, fun h => (by cases h), fun h => (by cases h)⟩, ⟨fun _ => own_bel HA8.out.1.r2 (Bel.refl w8).drew, fun h => (by cases h), fun h => (by cases h)⟩, fun h => (by cases h)⟩
      have HS11 := Lib.hid (HA8.out.1.ct HA8.out.2)
      have hBw : w.heap.size ≤ w8.heap.size := HA8.out.1.bel.size
      have HBX := Lib.hid hbx; clear hbx
      go_upto_region 11 with (fail)
      refine act_name (fun a0 ha0 => ?_)
      have so8 : a0.eval (.tmp 8) = u8 := by rw [ha0]; rfl
      have so9 : a0.eval (.tmp 9) = u9 := by rw [ha0]; rfl
      have so11 : a0.eval (.tmp 11) = .pointer (some ⟨bx, 0, none⟩) := by rw [ha0]; rfl
      have hsz : a0.tmps.size = 104 := by rw [ha0]; rfl
      have HA0 := Lib.hid ha0; clear ha0
      refine region_obs3 (fun D a' W => ∃ (b1 : Nat) (v1 : Value) (b2 : Nat) (v2 : Value), a' = frC a0 D (VL11 bx u8 u9 f l b1 v1 b2 v2) ∧ CJ w8 w.heap.size bx gs.length (firstV (fsOf R) gs.length) (lastV (fsOf R) (nsOf R) gs.length) u8 u9 f l D b1 v1 b2 v2 W) (by kernel_rfl) (by kernel_rfl) ⟨0, .bool false, 0, .bool false, (frC_none _ _).symm, HEI.out⟩ ?_ ?_
      · refine ⟨?_, ?_, ?_, ?_, ?_, ?_, ?_, ?_, ?_, ?_, ?_, ?_, ?_, ?_, trivial⟩
        · rintro D _ W hD hcl hdeps ⟨b1, v1, b2, v2, rfl, hW⟩
          have hm12 : D 12 = false := by cases h : D 12; rfl; have := hcl 12 _ rfl h ⟨0, .phase⟩ (by simp) rfl; rw [hD] at this; cases this
          have e8 := ev_get ((frC_wait (a0 := a0) (D := D) (t := 8) (vs := VL11 bx u8 u9 f l b1 v1 b2 v2) (fun e he ht => by simp only [VL11, List.mem_cons, List.not_mem_nil, or_false] at he; rcases he with rfl | rfl | rfl | rfl | rfl | rfl | rfl | rfl | rfl | rfl | rfl | rfl | rfl | rfl <;> first | exact hm12 | (simp at ht))).trans so8)
          refine ob_val rfl (v := u8) (by simp [execOp, go_sem, e8]) ⟨b1, v1, b2, v2, frC_put hD (by simp [VL11]) (VL11_nd _ _ _ _ _ _ _ _ _) (VL11_nd' _ _ _ _ _ _ _ _ _), hW.quiet (by decide)⟩
        · rintro D _ W hD hcl hdeps ⟨b1, v1, b2, v2, rfl, hW⟩
          have e11 := ev_get ((frC_out (a0 := a0) (D := D) (VL11_not11 bx u8 u9 f l b1 v1 b2 v2)).trans so11)
          refine ob_val rfl (v := .pointer (some ⟨bx, 0, none⟩)) (by simp [execOp, go_sem, e11]) ⟨b1, v1, b2, v2, frC_put hD (by simp [VL11]) (VL11_nd _ _ _ _ _ _ _ _ _) (VL11_nd' _ _ _ _ _ _ _ _ _), hW.quiet (by decide)⟩
        · rintro D _ W hD hcl hdeps ⟨b1, v1, b2, v2, rfl, hW⟩
          have hd1 : D 1 = true := hdeps ⟨1, .data⟩ (by simp) rfl
          have e55 := ev_get (frC_in (v := .pointer (some ⟨bx, 0, none⟩)) hd1 (show 55 < a0.tmps.size by rw [hsz]; decide) (vs := VL11 bx u8 u9 f l b1 v1 b2 v2) (by simp [VL11]) (VL11_nd _ _ _ _ _ _ _ _ _))
          have z0 : W.cell? ⟨bx, 0, none⟩ = some (.int .i64 f) := hW.bx.cell 0
          refine ob_val rfl (v := .int .i64 f) (by simp [execOp, go_sem, e55, z0]) ⟨b1, v1, b2, v2, frC_put hD (by simp [VL11]) (VL11_nd _ _ _ _ _ _ _ _ _) (VL11_nd' _ _ _ _ _ _ _ _ _), hW.quiet (by decide)⟩
        · rintro D _ W hD hcl hdeps ⟨b1, v1, b2, v2, rfl, hW⟩
          have hd2 : D 2 = true := hdeps ⟨2, .data⟩ (by simp) rfl
          have e56 := ev_get (frC_in (v := .int .i64 f) hd2 (show 56 < a0.tmps.size by rw [hsz]; decide) (vs := VL11 bx u8 u9 f l b1 v1 b2 v2) (by simp [VL11]) (VL11_nd _ _ _ _ _ _ _ _ _))
          refine ob_val rfl (v := .int .u32 f) (by simp [execOp, go_sem, e56, hfw]) ⟨b1, v1, b2, v2, frC_put hD (by simp [VL11]) (VL11_nd _ _ _ _ _ _ _ _ _) (VL11_nd' _ _ _ _ _ _ _ _ _), hW.quiet (by decide)⟩
        · rintro D _ W hD hcl hdeps ⟨b1, v1, b2, v2, rfl, hW⟩
          have hd3 : D 3 = true := hdeps ⟨3, .data⟩ (by simp) rfl
          have e57 := ev_get (frC_in (v := .int .u32 f) hd3 (show 57 < a0.tmps.size by rw [hsz]; decide) (vs := VL11 bx u8 u9 f l b1 v1 b2 v2) (by simp [VL11]) (VL11_nd _ _ _ _ _ _ _ _ _))
          refine ob_val rfl (v := .slice (some ⟨W.heap.size, 0, none⟩) 1 1) (w' := W.alloc (.cells #[.int .u32 f] 55)) (by simp [execOp, go_sem, e57]) ⟨W.heap.size, v1, b2, v2, by rw [show frC a0 D (VL11 bx u8 u9 f l b1 v1 b2 v2) = frC a0 D (VL11 bx u8 u9 f l (W.heap.size) v1 b2 v2) from by simp only [VL11, frC, hD, Bool.false_eq_true, if_false]]; exact frC_put hD (by simp [VL11]) (VL11_nd _ _ _ _ _ _ _ _ _) (VL11_nd' _ _ _ _ _ _ _ _ _), hW.mk1⟩
        · rintro D _ W hD hcl hdeps ⟨b1, v1, b2, v2, rfl, hW⟩
          have hd0 : D 0 = true := hdeps ⟨0, .data⟩ (by simp) rfl
          have E54 := frC_in (v := u8) hd0 (show 54 < a0.tmps.size by rw [hsz]; decide) (vs := VL11 bx u8 u9 f l b1 v1 b2 v2) (by simp [VL11]) (VL11_nd _ _ _ _ _ _ _ _ _)
          have hd4 : D 4 = true := hdeps ⟨4, .data⟩ (by simp) rfl
          have E58 := frC_in (v := .slice (some ⟨b1, 0, none⟩) 1 1) hd4 (show 58 < a0.tmps.size by rw [hsz]; decide) (vs := VL11 bx u8 u9 f l b1 v1 b2 v2) (by simp [VL11]) (VL11_nd _ _ _ _ _ _ _ _ _)
          have hL := hW.l1
          refine step_app elU32 rfl (.tmp 54) (.tmp 58) rfl w.heap.size u8 gs.length (firstV (fsOf R) gs.length) E54 (hL.old hD) b1 [.int .u32 f] E58 (hL.blk hd4 hD).1 rfl (by simp [Value.oneCell']) (by omega) (by omega) (Nat.le_trans hBw hW.kp.size) ?_
          intro g7 cap7 w7 ho7 hg7 hq7 _
          have hn12 : D 12 = false := by cases h : D 12; rfl; have := hcl 12 _ rfl h ⟨5, .data⟩ (by simp) rfl; rw [hD] at this; cases this
          exact ⟨b1, .slice (some ⟨g7, 0, none⟩) (gs.length + 1) cap7, b2, v2, by rw [show frC a0 D (VL11 bx u8 u9 f l b1 v1 b2 v2) = frC a0 D (VL11 bx u8 u9 f l b1 (.slice (some ⟨g7, 0, none⟩) (gs.length + 1) cap7) b2 v2) from by simp only [VL11, frC, hD, hn12, Bool.false_eq_true, if_false]]; exact frC_put hD (by simp [VL11]) (VL11_nd _ _ _ _ _ _ _ _ _) (VL11_nd' _ _ _ _ _ _ _ _ _), hW.ap1 HS11.out ho7 hg7 hq7⟩
        · rintro D _ W hD hcl hdeps ⟨b1, v1, b2, v2, rfl, hW⟩
          have hm13 : D 13 = false := by cases h : D 13; rfl; have := hcl 13 _ rfl h ⟨6, .phase⟩ (by simp) rfl; rw [hD] at this; cases this
          have e9 := ev_get ((frC_wait (a0 := a0) (D := D) (t := 9) (vs := VL11 bx u8 u9 f l b1 v1 b2 v2) (fun e he ht => by simp only [VL11, List.mem_cons, List.not_mem_nil, or_false] at he; rcases he with rfl | rfl | rfl | rfl | rfl | rfl | rfl | rfl | rfl | rfl | rfl | rfl | rfl | rfl <;> first | exact hm13 | (simp at ht))).trans so9)
          refine ob_val rfl (v := u9) (by simp [execOp, go_sem, e9]) ⟨b1, v1, b2, v2, frC_put hD (by simp [VL11]) (VL11_nd _ _ _ _ _ _ _ _ _) (VL11_nd' _ _ _ _ _ _ _ _ _), hW.quiet (by decide)⟩
        · rintro D _ W hD hcl hdeps ⟨b1, v1, b2, v2, rfl, hW⟩
          have e11 := ev_get ((frC_out (a0 := a0) (D := D) (VL11_not11 bx u8 u9 f l b1 v1 b2 v2)).trans so11)
          refine ob_val rfl (v := .pointer (some ⟨bx, 1, none⟩)) (by simp [execOp, go_sem, e11]) ⟨b1, v1, b2, v2, frC_put hD (by simp [VL11]) (VL11_nd _ _ _ _ _ _ _ _ _) (VL11_nd' _ _ _ _ _ _ _ _ _), hW.quiet (by decide)⟩
        · rintro D _ W hD hcl hdeps ⟨b1, v1, b2, v2, rfl, hW⟩
          have hd7 : D 7 = true := hdeps ⟨7, .data⟩ (by simp) rfl
          have e61 := ev_get (frC_in (v := .pointer (some ⟨bx, 1, none⟩)) hd7 (show 61 < a0.tmps.size by rw [hsz]; decide) (vs := VL11 bx u8 u9 f l b1 v1 b2 v2) (by simp [VL11]) (VL11_nd _ _ _ _ _ _ _ _ _))
          have z0 : W.cell? ⟨bx, 1, none⟩ = some (.int .i64 l) := hW.bx.cell 1
          refine ob_val rfl (v := .int .i64 l) (by simp [execOp, go_sem, e61, z0]) ⟨b1, v1, b2, v2, frC_put hD (by simp [VL11]) (VL11_nd _ _ _ _ _ _ _ _ _) (VL11_nd' _ _ _ _ _ _ _ _ _), hW.quiet (by decide)⟩
        · rintro D _ W hD hcl hdeps ⟨b1, v1, b2, v2, rfl, hW⟩
          have hd8 : D 8 = true := hdeps ⟨8, .data⟩ (by simp) rfl
          have e62 := ev_get (frC_in (v := .int .i64 l) hd8 (show 62 < a0.tmps.size by rw [hsz]; decide) (vs := VL11 bx u8 u9 f l b1 v1 b2 v2) (by simp [VL11]) (VL11_nd _ _ _ _ _ _ _ _ _))
          refine ob_val rfl (v := .int .u32 l) (by simp [execOp, go_sem, e62, hlw]) ⟨b1, v1, b2, v2, frC_put hD (by simp [VL11]) (VL11_nd _ _ _ _ _ _ _ _ _) (VL11_nd' _ _ _ _ _ _ _ _ _), hW.quiet (by decide)⟩
        · rintro D _ W hD hcl hdeps ⟨b1, v1, b2, v2, rfl, hW⟩
          have hd9 : D 9 = true := hdeps ⟨9, .data⟩ (by simp) rfl
          have e63 := ev_get (frC_in (v := .int .u32 l) hd9 (show 63 < a0.tmps.size by rw [hsz]; decide) (vs := VL11 bx u8 u9 f l b1 v1 b2 v2) (by simp [VL11]) (VL11_nd _ _ _ _ _ _ _ _ _))
          refine ob_val rfl (v := .slice (some ⟨W.heap.size, 0, none⟩) 1 1) (w' := W.alloc (.cells #[.int .u32 l] 55)) (by simp [execOp, go_sem, e63]) ⟨b1, v1, W.heap.size, v2, by rw [show frC a0 D (VL11 bx u8 u9 f l b1 v1 b2 v2) = frC a0 D (VL11 bx u8 u9 f l b1 v1 (W.heap.size) v2) from by simp only [VL11, frC, hD, Bool.false_eq_true, if_false]]; exact frC_put hD (by simp [VL11]) (VL11_nd _ _ _ _ _ _ _ _ _) (VL11_nd' _ _ _ _ _ _ _ _ _), hW.mk2⟩
        · rintro D _ W hD hcl hdeps ⟨b1, v1, b2, v2, rfl, hW⟩
          have hd6 : D 6 = true := hdeps ⟨6, .data⟩ (by simp) rfl
          have E60 := frC_in (v := u9) hd6 (show 60 < a0.tmps.size by rw [hsz]; decide) (vs := VL11 bx u8 u9 f l b1 v1 b2 v2) (by simp [VL11]) (VL11_nd _ _ _ _ _ _ _ _ _)
          have hd10 : D 10 = true := hdeps ⟨10, .data⟩ (by simp) rfl
          have E64 := frC_in (v := .slice (some ⟨b2, 0, none⟩) 1 1) hd10 (show 64 < a0.tmps.size by rw [hsz]; decide) (vs := VL11 bx u8 u9 f l b1 v1 b2 v2) (by simp [VL11]) (VL11_nd _ _ _ _ _ _ _ _ _)
          have hL := hW.l2
          refine step_app elU32 rfl (.tmp 60) (.tmp 64) rfl w.heap.size u9 gs.length (lastV (fsOf R) (nsOf R) gs.length) E60 (hL.old hD) b2 [.int .u32 l] E64 (hL.blk hd10 hD).1 rfl (by simp [Value.oneCell']) (by omega) (by omega) (Nat.le_trans hBw hW.kp.size) ?_
          intro g7 cap7 w7 ho7 hg7 hq7 _
          have hn13 : D 13 = false := by cases h : D 13; rfl; have := hcl 13 _ rfl h ⟨11, .data⟩ (by simp) rfl; rw [hD] at this; cases this
          exact ⟨b1, v1, b2, .slice (some ⟨g7, 0, none⟩) (gs.length + 1) cap7, by rw [show frC a0 D (VL11 bx u8 u9 f l b1 v1 b2 v2) = frC a0 D (VL11 bx u8 u9 f l b1 v1 b2 (.slice (some ⟨g7, 0, none⟩) (gs.length + 1) cap7)) from by simp only [VL11, frC, hD, hn13, Bool.false_eq_true, if_false]]; exact frC_put hD (by simp [VL11]) (VL11_nd _ _ _ _ _ _ _ _ _) (VL11_nd' _ _ _ _ _ _ _ _ _), hW.ap2 HS11.out ho7 hg7 hq7⟩
        · rintro D _ W hD hcl hdeps ⟨b1, v1, b2, v2, rfl, hW⟩
          have hd5 : D 5 = true := hdeps ⟨5, .data⟩ (by simp) rfl
          have e59 := ev_get (frC_in (v := v1) hd5 (show 59 < a0.tmps.size by rw [hsz]; decide) (vs := VL11 bx u8 u9 f l b1 v1 b2 v2) (by simp [VL11]) (VL11_nd _ _ _ _ _ _ _ _ _))
          refine ob_val rfl (v := v1) (by simp [execOp, go_sem, e59]) ⟨b1, v1, b2, v2, frC_put hD (by simp [VL11]) (VL11_nd _ _ _ _ _ _ _ _ _) (VL11_nd' _ _ _ _ _ _ _ _ _), hW.quiet (by decide)⟩
        · rintro D _ W hD hcl hdeps ⟨b1, v1, b2, v2, rfl, hW⟩
          have hd11 : D 11 = true := hdeps ⟨11, .data⟩ (by simp) rfl
          have e65 := ev_get (frC_in (v := v2) hd11 (show 65 < a0.tmps.size by rw [hsz]; decide) (vs := VL11 bx u8 u9 f l b1 v1 b2 v2) (by simp [VL11]) (VL11_nd _ _ _ _ _ _ _ _ _))
          refine ob_val rfl (v := v2) (by simp [execOp, go_sem, e65]) ⟨b1, v1, b2, v2, frC_put hD (by simp [VL11]) (VL11_nd _ _ _ _ _ _ _ _ _) (VL11_nd' _ _ _ _ _ _ _ _ _), hW.quiet (by decide)⟩
      · rintro D _ W hall ⟨b1, v1, b2, v2, rfl, hW⟩
        rw [frC_all (fun e he => hall e.1 (by have h1 : e.1 ∈ (VL11 bx u8 u9 f l b1 v1 b2 v2).map (·.1) := List.mem_map.2 ⟨e, he, rfl⟩; rw [VL11_idx] at h1; simp at h1; show e.1 < 14; omega))]
        have HEN : Hid (LA w W tb (fsOf R) (nsOf R) (gs ++ [g]) (gs.length + 1) (gs.length + 1) (gs.length + 1) T' vb' vf' v1 v2) := Lib.hid
          (HA8.out.1.two HF.out.1 HF.out.2 hW (hall 5 (by decide)) (hall 11 (by decide)))
        rw [HA0.out]
        simp only [VL11, List.foldr_cons, List.foldr_nil, Act.put, List.setIfInBounds_toArray, List.set_cons_succ, List.set_cons_zero]
        clear hW hall HA0 so8 so9 so11 hsz HEI HS11 HA8 HF
        go_wp2
        go_roundw
        case rel => exact ⟨gs.length + 1, gs ++ [g], T', by omega, by go_num, by simp, HEN.out⟩
        case measure => simp [intOf]; omega
    · obtain rfl : gs.length = n1 := by omega
      have HNW := Lib.hid (newXPosMap_any wr w.heap.size gs.length (fsOf R) (nsOf R) u7 u8 u9 HA.out.rf HA.out.r1 HA.out.r2 (fun i hi => rng_at HOK.out (by rw [HR.out.1]; exact hi)) (by omega))
      go_wp2_with fail
      refine HNW.out.mono ?_
      rintro e w9 ⟨x, F, rfl, hF, hL9, hb9⟩
      have HFN := Lib.hid hF; clear hF HNW
      have hz9 : w.heap.size ≤ w9.heap.size := (HA.out.bel.trans hb9).size
      have HB0 : Hid (LB w (w9.alloc (.cells #[] 33)) tb x gs.length wr.heap.size F gs T u6 u7 (.slice (some ⟨w9.heap.size, 0, none⟩) 0 0) (Pl.runD (fsOf R) (nsOf R) S 0) []) := Lib.hid (by
        have hb := hb9.alloc (.cells #[] 33)
        have hA := HA.out.on hb
        rw [Pl.runD_zero]
        exact ⟨hA.bel, HA.out.bel.size, hA.tab, rfl, hA.rb, hA.rf, hL9.bel ((Bel.refl w9).alloc _), owns_empty w9 w.heap.size _ 5 _ rfl hz9, by simp⟩)
      clear hL9 hb9 hz9
      generalize hm1 : gs.length = m at HB0 HFN HSK hn ⊢
      have HM := Lib.hid hm1; clear hm1
      obtain ⟨vx, vc, rfl, _, _, hvg⟩ := own_form HB0.out.rb
      have HVG : Hid (0 < m → ∃ gb, vx = some ⟨gb, 0, none⟩) := Lib.hid (fun h0 => by obtain ⟨g, h1, _⟩ := hvg h0; exact ⟨g, h1⟩)
      obtain ⟨fx, fc, rfl, _, _, _⟩ := own_form HB0.out.rf
      clear hvg HA hj hlt
      generalize hBB : wr.heap.size = BB at HB0
      have HBB := Lib.hid hBB; clear hBB
      go_wp2
      generalize w9.alloc (.cells #[] 33) = w10 at HB0 ⊢
      go_loopw [15, 74] (fun vo i wq => ∃ (k : Nat) (L : List LA3), k ≤ n2 ∧ i = .int .i64 k ∧ L.length = k ∧ LB w wq tb x m BB F gs T (.slice vx m vc) (.slice fx m fc) vo (Pl.runD (fsOf R) (nsOf R) S k) L ∧ ∀ q s p, S[q]? = some s → L[q]? = some p → Pl.lineR (fsOf R) m (Pl.runD (fsOf R) (nsOf R) S q) s p.1) (fun _ i _ => n2 - (intOf i).toNat)
      case atStart => exact ⟨0, [], Nat.zero_le _, rfl, rfl, HB0.out, by simp⟩
      case round =>
        obtain ⟨k, L, hk, rfl, hLk, hB, hans⟩ := hrel
        have HB := Lib.hid hB; clear hB HB0
        have HAN := Lib.hid hans; clear hans
        by_cases hlk : k < n2
        · obtain ⟨b2, o2, rfl, hcell⟩ := HS.out.2 (by omega)
          obtain ⟨s, hsk⟩ : ∃ s, S[k]? = some s := ⟨_, List.getElem?_eq_getElem (by rw [HS.out.1]; exact hlk)⟩
          obtain ⟨f0, f1, l0, l1, o0, o1, hv⟩ := HSK.out s (List.mem_of_getElem? hsk)
          obtain ⟨t0, t1, t2, t3, t4⟩ := hcell k s hsk
          replace t0 := HB.out.bel.cell t0
          replace t1 := HB.out.bel.cell t1
          replace t2 := HB.out.bel.cell t2
          replace t3 := HB.out.bel.cell t3
          replace t4 := HB.out.bel.cell t4
          have HSTK := Lib.hid hsk; clear hsk hcell
          obtain ⟨kd, fl, ln, co, va⟩ := s
          simp only at f0 f1 l0 l1 o0 o1 hv t0 t1 t2 t3 t4
          obtain ⟨i, rfl⟩ : ∃ i : Nat, fl = i := ⟨fl.toNat, by omega⟩
          have hi : i < m := by omega
          obtain ⟨gb, rfl⟩ := HVG.out (by omega)
          have hgi : i < gs.length := by rw [HM.out]; exact hi
          obtain ⟨g, hg⟩ : ∃ g, g = gs.getD i 0 := ⟨_, rfl⟩
          have cg : wr.cell? ⟨gb, i, none⟩ = some (ptr g) := by
            have := HB.out.rb.cells (g := gb) rfl i (ptr g) (by rw [List.getElem?_map, getD_some 0 hgi, hg]; rfl)
            simpa [Addr.add_lit] using this
          obtain ⟨lc, hlc⟩ : ∃ lc, lc = ln * 4096 + co * 16 := ⟨_, rfl⟩
          obtain ⟨kk, hkk⟩ : ∃ kk, kk = (i : Int) + 1 := ⟨_, rfl⟩
          have j0 : (0 : Int) ≤ (i : Int) := by omega
          have j1 : (i : Int) < (m : Int) := by omega
          have wl : IntKind.u64.wrap ln = ln := IntWalk.u64_in _ (by omega)
          have wo : IntKind.u64.wrap co = co := IntWalk.u64_in _ (by omega)
          have HMK : Hid (∀ W : World, Calls Try.prog 14 #[ptr g, .int .u64 ln, .int .u64 co] W fun e w' => e = .returned (.agg #[ptr g, .int .u32 lc]) ∧ Bel W w') := Lib.hid (fun W => by
            rw [hlc]; exact makePos_any (ptr g) ln co W ⟨_, rfl⟩ (by omega) (by omega) (by omega) (by omega))
          have hba : Bel wr (wr.alloc (.cells #[.int .i64 kd, .int .i64 (i : Int), .int .i64 ln, .int .i64 co, .int .i64 va] 29)) := (Bel.refl wr).alloc _
          have hBs := Blk.new wr 29 [.int .i64 kd, .int .i64 (i : Int), .int .i64 ln, .int .i64 co, .int .i64 va]
          have hBs' : Blk (wr.alloc (.cells #[.int .i64 kd, .int .i64 (i : Int), .int .i64 ln, .int .i64 co, .int .i64 va] 29)) wr.heap.size 29 [.int .i64 kd, .int .i64 (i : Int), .int .i64 ln, .int .i64 co, .int .i64 va] := hBs
          replace cg := hba.cell cg
          have HBW := Lib.hid (And.intro (HB.out.on hba) hBs')
          have HLC := Lib.hid (And.intro hlc hkk)
          have hlc0 : 0 ≤ lc ∧ lc < 4294967296 ∧ lc / 4096 = ln := by omega
          have HLC0 := Lib.hid hlc0
          have HG := Lib.hid hg
          clear hBs hBs' hba hlc hkk hlc0 HB hg
          go_upto_region 18 with (fail)
          generalize wr.alloc (.cells #[.int .i64 kd, .int .i64 (i : Int), .int .i64 ln, .int .i64 co, .int .i64 va] 29) = wb at HBW cg ⊢
          generalize hbs : wr.heap.size = bs at HBW ⊢
          have HBS := Lib.hid hbs
          clear hbs t0 t1 t2 t3 t4
          have HXP : Hid (∀ W : World, Bel wb W → Calls Try.prog 13 #[ptr tb, .agg #[ptr g, .int .u32 lc]] W fun e w' => e = .returned (.agg #[.int .i32 kk, .int .u32 lc]) ∧ Bel W w') := Lib.hid (fun W hb => by
            rw [HG.out, HLC.out.2]; exact xpos_reg tb gs m T i lc W (HBW.out.1.tab.bel hb) HBW.out.1.gl hi)
          have s1 : wb.cell? ⟨bs, 1, none⟩ = some (.int .i64 (i : Int)) := HBW.out.2.cell 1
          have s2 : wb.cell? ⟨bs, 2, none⟩ = some (.int .i64 ln) := HBW.out.2.cell 2
          have s3 : wb.cell? ⟨bs, 3, none⟩ = some (.int .i64 co) := HBW.out.2.cell 3
          refine act_name (fun a0 ha0 => ?_)
          have so5 : a0.eval (.tmp 5) = ptr tb := by rw [ha0]; rfl
          have so6 : a0.eval (.tmp 6) = .slice (some ⟨gb, 0, none⟩) m vc := by rw [ha0]; rfl
          have so17 : a0.eval (.tmp 17) = .pointer (some ⟨bs, 0, none⟩) := by rw [ha0]; rfl
          have hsz : a0.tmps.size = 104 := by rw [ha0]; rfl
          have HA0 := Lib.hid ha0; clear ha0
          refine region_obs3 (fun D a' W => ∃ (b : Nat), a' = frC a0 D (VL18 tb gb m vc bs i g kk ln co lc b) ∧ WG wb (VL18_F wb.heap.size kk lc b) D W) (by kernel_rfl) (by kernel_rfl) ⟨0, (frC_none _ _).symm, WG.start _ (by simp [VL18_F])⟩ ?_ ?_
          · refine ⟨?_, ?_, ?_, ?_, ?_, ?_, ?_, ?_, ?_, ?_, ?_, ?_, ?_, ?_, ?_, ?_, trivial⟩
            · rintro D _ W hD hcl hdeps ⟨b, rfl, hW⟩
              have e5 := ev_get ((frC_out (a0 := a0) (D := D) (VL18_not5 tb gb m vc bs i g kk ln co lc b)).trans so5)
              refine ob_val rfl (v := ptr tb) (by simp [execOp, go_sem, e5]) ⟨b, frC_put hD (by simp [VL18]) (VL18_nd _ _ _ _ _ _ _ _ _ _ _ _) (VL18_nd' _ _ _ _ _ _ _ _ _ _ _ _), hW.step (VL18_st _ _ _ _) (Bel.refl W) (by simp [VL18_F])⟩
            · rintro D _ W hD hcl hdeps ⟨b, rfl, hW⟩
              have e6 := ev_get ((frC_out (a0 := a0) (D := D) (VL18_not6 tb gb m vc bs i g kk ln co lc b)).trans so6)
              refine ob_val rfl (v := .slice (some ⟨gb, 0, none⟩) m vc) (by simp [execOp, go_sem, e6]) ⟨b, frC_put hD (by simp [VL18]) (VL18_nd _ _ _ _ _ _ _ _ _ _ _ _) (VL18_nd' _ _ _ _ _ _ _ _ _ _ _ _), hW.step (VL18_st _ _ _ _) (Bel.refl W) (by simp [VL18_F])⟩
            · rintro D _ W hD hcl hdeps ⟨b, rfl, hW⟩
              have e17 := ev_get ((frC_out (a0 := a0) (D := D) (VL18_not17 tb gb m vc bs i g kk ln co lc b)).trans so17)
              refine ob_val rfl (v := .pointer (some ⟨bs, 1, none⟩)) (by simp [execOp, go_sem, e17]) ⟨b, frC_put hD (by simp [VL18]) (VL18_nd _ _ _ _ _ _ _ _ _ _ _ _) (VL18_nd' _ _ _ _ _ _ _ _ _ _ _ _), hW.step (VL18_st _ _ _ _) (Bel.refl W) (by simp [VL18_F])⟩
            · rintro D _ W hD hcl hdeps ⟨b, rfl, hW⟩
              have hd2 : D 2 = true := hdeps ⟨2, .data⟩ (by simp) rfl
              have e80 := ev_get (frC_in (v := .pointer (some ⟨bs, 1, none⟩)) hd2 (show 80 < a0.tmps.size by rw [hsz]; decide) (vs := VL18 tb gb m vc bs i g kk ln co lc b) (by simp [VL18]) (VL18_nd _ _ _ _ _ _ _ _ _ _ _ _))
              have z0 := hW.bel.cell s1
              refine ob_val rfl (v := .int .i64 (i : Int)) (by simp [execOp, go_sem, e80, z0]) ⟨b, frC_put hD (by simp [VL18]) (VL18_nd _ _ _ _ _ _ _ _ _ _ _ _) (VL18_nd' _ _ _ _ _ _ _ _ _ _ _ _), hW.step (VL18_st _ _ _ _) (Bel.refl W) (by simp [VL18_F])⟩
            · rintro D _ W hD hcl hdeps ⟨b, rfl, hW⟩
              have hd1 : D 1 = true := hdeps ⟨1, .data⟩ (by simp) rfl
              have e79 := ev_get (frC_in (v := .slice (some ⟨gb, 0, none⟩) m vc) hd1 (show 79 < a0.tmps.size by rw [hsz]; decide) (vs := VL18 tb gb m vc bs i g kk ln co lc b) (by simp [VL18]) (VL18_nd _ _ _ _ _ _ _ _ _ _ _ _))
              have hd3 : D 3 = true := hdeps ⟨3, .data⟩ (by simp) rfl
              have e81 := ev_get (frC_in (v := .int .i64 (i : Int)) hd3 (show 81 < a0.tmps.size by rw [hsz]; decide) (vs := VL18 tb gb m vc bs i g kk ln co lc b) (by simp [VL18]) (VL18_nd _ _ _ _ _ _ _ _ _ _ _ _))
              refine ob_val rfl (v := .pointer (some ⟨gb, i, none⟩)) (by simp [execOp, go_sem, e79, e81, j0, j1]) ⟨b, frC_put hD (by simp [VL18]) (VL18_nd _ _ _ _ _ _ _ _ _ _ _ _) (VL18_nd' _ _ _ _ _ _ _ _ _ _ _ _), hW.step (VL18_st _ _ _ _) (Bel.refl W) (by simp [VL18_F])⟩
            · rintro D _ W hD hcl hdeps ⟨b, rfl, hW⟩
              have hd4 : D 4 = true := hdeps ⟨4, .data⟩ (by simp) rfl
              have e82 := ev_get (frC_in (v := .pointer (some ⟨gb, i, none⟩)) hd4 (show 82 < a0.tmps.size by rw [hsz]; decide) (vs := VL18 tb gb m vc bs i g kk ln co lc b) (by simp [VL18]) (VL18_nd _ _ _ _ _ _ _ _ _ _ _ _))
              have z0 := hW.bel.cell cg
              refine ob_val rfl (v := ptr g) (by simp [execOp, go_sem, e82, z0]) ⟨b, frC_put hD (by simp [VL18]) (VL18_nd _ _ _ _ _ _ _ _ _ _ _ _) (VL18_nd' _ _ _ _ _ _ _ _ _ _ _ _), hW.step (VL18_st _ _ _ _) (Bel.refl W) (by simp [VL18_F])⟩
            · rintro D _ W hD hcl hdeps ⟨b, rfl, hW⟩
              have e17 := ev_get ((frC_out (a0 := a0) (D := D) (VL18_not17 tb gb m vc bs i g kk ln co lc b)).trans so17)
              refine ob_val rfl (v := .pointer (some ⟨bs, 2, none⟩)) (by simp [execOp, go_sem, e17]) ⟨b, frC_put hD (by simp [VL18]) (VL18_nd _ _ _ _ _ _ _ _ _ _ _ _) (VL18_nd' _ _ _ _ _ _ _ _ _ _ _ _), hW.step (VL18_st _ _ _ _) (Bel.refl W) (by simp [VL18_F])⟩
            · rintro D _ W hD hcl hdeps ⟨b, rfl, hW⟩
              have hd6 : D 6 = true := hdeps ⟨6, .data⟩ (by simp) rfl
              have e84 := ev_get (frC_in (v := .pointer (some ⟨bs, 2, none⟩)) hd6 (show 84 < a0.tmps.size by rw [hsz]; decide) (vs := VL18 tb gb m vc bs i g kk ln co lc b) (by simp [VL18]) (VL18_nd _ _ _ _ _ _ _ _ _ _ _ _))
              have z0 := hW.bel.cell s2
              refine ob_val rfl (v := .int .i64 ln) (by simp [execOp, go_sem, e84, z0]) ⟨b, frC_put hD (by simp [VL18]) (VL18_nd _ _ _ _ _ _ _ _ _ _ _ _) (VL18_nd' _ _ _ _ _ _ _ _ _ _ _ _), hW.step (VL18_st _ _ _ _) (Bel.refl W) (by simp [VL18_F])⟩
            · rintro D _ W hD hcl hdeps ⟨b, rfl, hW⟩
              have hd7 : D 7 = true := hdeps ⟨7, .data⟩ (by simp) rfl
              have e85 := ev_get (frC_in (v := .int .i64 ln) hd7 (show 85 < a0.tmps.size by rw [hsz]; decide) (vs := VL18 tb gb m vc bs i g kk ln co lc b) (by simp [VL18]) (VL18_nd _ _ _ _ _ _ _ _ _ _ _ _))
              refine ob_val rfl (v := .int .u64 ln) (by simp [execOp, go_sem, e85, wl]) ⟨b, frC_put hD (by simp [VL18]) (VL18_nd _ _ _ _ _ _ _ _ _ _ _ _) (VL18_nd' _ _ _ _ _ _ _ _ _ _ _ _), hW.step (VL18_st _ _ _ _) (Bel.refl W) (by simp [VL18_F])⟩
            · rintro D _ W hD hcl hdeps ⟨b, rfl, hW⟩
              have e17 := ev_get ((frC_out (a0 := a0) (D := D) (VL18_not17 tb gb m vc bs i g kk ln co lc b)).trans so17)
              refine ob_val rfl (v := .pointer (some ⟨bs, 3, none⟩)) (by simp [execOp, go_sem, e17]) ⟨b, frC_put hD (by simp [VL18]) (VL18_nd _ _ _ _ _ _ _ _ _ _ _ _) (VL18_nd' _ _ _ _ _ _ _ _ _ _ _ _), hW.step (VL18_st _ _ _ _) (Bel.refl W) (by simp [VL18_F])⟩
            · rintro D _ W hD hcl hdeps ⟨b, rfl, hW⟩
              have hd9 : D 9 = true := hdeps ⟨9, .data⟩ (by simp) rfl
              have e87 := ev_get (frC_in (v := .pointer (some ⟨bs, 3, none⟩)) hd9 (show 87 < a0.tmps.size by rw [hsz]; decide) (vs := VL18 tb gb m vc bs i g kk ln co lc b) (by simp [VL18]) (VL18_nd _ _ _ _ _ _ _ _ _ _ _ _))
              have z0 := hW.bel.cell s3
              refine ob_val rfl (v := .int .i64 co) (by simp [execOp, go_sem, e87, z0]) ⟨b, frC_put hD (by simp [VL18]) (VL18_nd _ _ _ _ _ _ _ _ _ _ _ _) (VL18_nd' _ _ _ _ _ _ _ _ _ _ _ _), hW.step (VL18_st _ _ _ _) (Bel.refl W) (by simp [VL18_F])⟩
            · rintro D _ W hD hcl hdeps ⟨b, rfl, hW⟩
              have hd10 : D 10 = true := hdeps ⟨10, .data⟩ (by simp) rfl
              have e88 := ev_get (frC_in (v := .int .i64 co) hd10 (show 88 < a0.tmps.size by rw [hsz]; decide) (vs := VL18 tb gb m vc bs i g kk ln co lc b) (by simp [VL18]) (VL18_nd _ _ _ _ _ _ _ _ _ _ _ _))
              refine ob_val rfl (v := .int .u64 co) (by simp [execOp, go_sem, e88, wo]) ⟨b, frC_put hD (by simp [VL18]) (VL18_nd _ _ _ _ _ _ _ _ _ _ _ _) (VL18_nd' _ _ _ _ _ _ _ _ _ _ _ _), hW.step (VL18_st _ _ _ _) (Bel.refl W) (by simp [VL18_F])⟩
            · rintro D _ W hD hcl hdeps ⟨b, rfl, hW⟩
              have hd5 : D 5 = true := hdeps ⟨5, .data⟩ (by simp) rfl
              have e83 := ev_get (frC_in (v := ptr g) hd5 (show 83 < a0.tmps.size by rw [hsz]; decide) (vs := VL18 tb gb m vc bs i g kk ln co lc b) (by simp [VL18]) (VL18_nd _ _ _ _ _ _ _ _ _ _ _ _))
              have hd8 : D 8 = true := hdeps ⟨8, .data⟩ (by simp) rfl
              have e86 := ev_get (frC_in (v := .int .u64 ln) hd8 (show 86 < a0.tmps.size by rw [hsz]; decide) (vs := VL18 tb gb m vc bs i g kk ln co lc b) (by simp [VL18]) (VL18_nd _ _ _ _ _ _ _ _ _ _ _ _))
              have hd11 : D 11 = true := hdeps ⟨11, .data⟩ (by simp) rfl
              have e89 := ev_get (frC_in (v := .int .u64 co) hd11 (show 89 < a0.tmps.size by rw [hsz]; decide) (vs := VL18 tb gb m vc bs i g kk ln co lc b) (by simp [VL18]) (VL18_nd _ _ _ _ _ _ _ _ _ _ _ _))
              refine ob_enter rfl (v := .agg #[ptr g, .int .u32 lc]) (f := 14) (args := #[ptr g, .int .u64 ln, .int .u64 co]) (w' := W) (by simp [go_sem, e83, e86, e89]) ((HMK.out W).mono ?_)
              rintro e w2 ⟨rfl, hb2⟩
              exact ⟨rfl, b, frC_put hD (by simp [VL18]) (VL18_nd _ _ _ _ _ _ _ _ _ _ _ _) (VL18_nd' _ _ _ _ _ _ _ _ _ _ _ _), hW.step (VL18_st _ _ _ _) hb2 (by simp [VL18_F])⟩
            · rintro D _ W hD hcl hdeps ⟨b, rfl, hW⟩
              have hd0 : D 0 = true := hdeps ⟨0, .data⟩ (by simp) rfl
              have e78 := ev_get (frC_in (v := ptr tb) hd0 (show 78 < a0.tmps.size by rw [hsz]; decide) (vs := VL18 tb gb m vc bs i g kk ln co lc b) (by simp [VL18]) (VL18_nd _ _ _ _ _ _ _ _ _ _ _ _))
              have hd12 : D 12 = true := hdeps ⟨12, .data⟩ (by simp) rfl
              have e90 := ev_get (frC_in (v := .agg #[ptr g, .int .u32 lc]) hd12 (show 90 < a0.tmps.size by rw [hsz]; decide) (vs := VL18 tb gb m vc bs i g kk ln co lc b) (by simp [VL18]) (VL18_nd _ _ _ _ _ _ _ _ _ _ _ _))
              refine ob_enter rfl (v := .agg #[.int .i32 kk, .int .u32 lc]) (f := 13) (args := #[ptr tb, .agg #[ptr g, .int .u32 lc]]) (w' := W) (by simp [go_sem, e78, e90]) ((HXP.out W hW.bel).mono ?_)
              rintro e w2 ⟨rfl, hb2⟩
              exact ⟨rfl, b, frC_put hD (by simp [VL18]) (VL18_nd _ _ _ _ _ _ _ _ _ _ _ _) (VL18_nd' _ _ _ _ _ _ _ _ _ _ _ _), hW.step (VL18_st _ _ _ _) hb2 (by simp [VL18_F])⟩
            · rintro D _ W hD hcl hdeps ⟨b, rfl, hW⟩
              refine ob_val rfl (v := .pointer (some ⟨W.heap.size, 0, none⟩)) (w' := W.alloc (.cells #[.int .i32 0, .int .u32 0] 58)) (by simp [execOp, go_sem]) ?_
              have hb2 : Bel W (W.alloc (.cells #[.int .i32 0, .int .u32 0] 58)) := (Bel.refl W).alloc _
              have hn15 : D 15 = false := by cases h : D 15; rfl; have := hcl 15 _ rfl h ⟨14, .data⟩ (by simp) rfl; rw [hD] at this; cases this
              refine ⟨W.heap.size, by rw [show frC a0 D (VL18 tb gb m vc bs i g kk ln co lc b) = frC a0 D (VL18 tb gb m vc bs i g kk ln co lc (W.heap.size)) from by simp only [VL18, frC, hD, Bool.false_eq_true, if_false]]; exact frC_put hD (by simp [VL18]) (VL18_nd _ _ _ _ _ _ _ _ _ _ _ _) (VL18_nd' _ _ _ _ _ _ _ _ _ _ _ _), ?_⟩
              refine hW.new (VL18_st _ _ _ _) hb2 ?_
              intro f hf
              simp only [VL18_F, List.mem_cons, List.not_mem_nil, or_false] at hf
              rcases hf with rfl | rfl
              · exact .inl ⟨by simp, fun hg => ⟨hW.bel.size, _, _, Blk.new W _ [_, _]⟩⟩
              · exact .inl ⟨by simp, fun hg => absurd (hg 15 (by simp)) (by simp [hn15])⟩
            · rintro D _ W hD hcl hdeps ⟨b, rfl, hW⟩
              have hd14 : D 14 = true := hdeps ⟨14, .data⟩ (by simp) rfl
              have e18 := ev_get (frC_in (v := .pointer (some ⟨b, 0, none⟩)) hd14 (show 18 < a0.tmps.size by rw [hsz]; decide) (vs := VL18 tb gb m vc bs i g kk ln co lc b) (by simp [VL18]) (VL18_nd _ _ _ _ _ _ _ _ _ _ _ _))
              have hd13 : D 13 = true := hdeps ⟨13, .data⟩ (by simp) rfl
              have e91 := ev_get (frC_in (v := .agg #[.int .i32 kk, .int .u32 lc]) hd13 (show 91 < a0.tmps.size by rw [hsz]; decide) (vs := VL18 tb gb m vc bs i g kk ln co lc b) (by simp [VL18]) (VL18_nd _ _ _ _ _ _ _ _ _ _ _ _))
              obtain ⟨hle, y0, y1, hB⟩ := hW.get (k := 0) rfl (fun i hi => by simp at hi; subst hi; exact hd14)
              have y0 : W.cell? ⟨b, 0, none⟩ = some y0 := hB.cell 0
              have y1 : W.cell? ⟨b, 1, none⟩ = some y1 := hB.cell 1
              have z0 := hB.frozen 0
              have z1 := hB.frozen 1
              refine ob_skip rfl (w' := (W.setCell ⟨b, 0, none⟩ (.int .i32 kk)).setCell ⟨b, 1, none⟩ (.int .u32 lc)) (by simp [execOp, go_sem, e18, e91, y0, y1, z0, z1]) ⟨b, ?_, ?_⟩
              · rw [frC_also_out (by rw [VL18_idx]; decide)]
                rfl
              · refine ⟨bel_setI (bel_setI hW.bel (p := ⟨b, 0, none⟩) hle) (p := ⟨b, 1, none⟩) hle, fun x hx _ => ?_⟩
                simp only [VL18_F, List.mem_cons, List.not_mem_nil, or_false] at hx
                rcases hx with rfl | rfl
                · exact ⟨hle, _, _, (hB.set 0 (.int .i32 kk)).set 1 (.int .u32 lc)⟩
                · exact (hB.set 0 (.int .i32 kk)).set 1 (.int .u32 lc)
          · rintro D _ wc hall ⟨b, rfl, hW⟩
            have hf0 := hW.get (k := 0) rfl (fun i hi => hall i (by simp at hi; show i < 16; omega))
            have hf1 := hW.get (k := 1) rfl (fun i hi => hall i (by simp at hi; show i < 16; omega))
            have hbW := hW.bel
            rw [frC_all (fun e he => hall e.1 (by have h1 : e.1 ∈ (VL18 tb gb m vc bs i g kk ln co lc b).map (·.1) := List.mem_map.2 ⟨e, he, rfl⟩; rw [VL18_idx] at h1; simp at h1; show e.1 < 16; omega))]
            have HW := Lib.hid (And.intro hf1 (And.intro (HBW.out.1.on hbW) (HBW.out.2.bel hbW)))
            rw [HA0.out]
            simp only [VL18, List.foldr_cons, List.foldr_nil, Act.put, List.setIfInBounds_toArray, List.set_cons_succ, List.set_cons_zero]
            clear hf0 hf1 hbW hW hall HA0 so5 so6 so17 hsz HBW cg s1 s2 s3 HXP HMK j0 j1 wl wo
            have b0 : wc.cell? ⟨b, 0, none⟩ = some (.int .i32 kk) := HW.out.1.cell 0
            have b1 : wc.cell? ⟨b, 1, none⟩ = some (.int .u32 lc) := HW.out.1.cell 1
            have s0 : wc.cell? ⟨bs, 0, none⟩ = some (.int .i64 kd) := HW.out.2.2.cell 0
            have s1 : wc.cell? ⟨bs, 1, none⟩ = some (.int .i64 (i : Int)) := HW.out.2.2.cell 1
            have s2 : wc.cell? ⟨bs, 2, none⟩ = some (.int .i64 ln) := HW.out.2.2.cell 2
            have s3 : wc.cell? ⟨bs, 3, none⟩ = some (.int .i64 co) := HW.out.2.2.cell 3
            have s4 : wc.cell? ⟨bs, 4, none⟩ = some (.int .i64 va) := HW.out.2.2.cell 4
            have hLS := lineStep_any HW.out.2.1.ln hi HLC0.out.1 HLC0.out.2.1 ⟨kd, (i : Int), ln, co, va⟩ HLC0.out.2.2 hv
            unfold stepV xpos at hLS
            dsimp only at hLS
            rw [← HLC.out.2] at hLS
            have HLS := Lib.hid hLS; clear hLS
            go_wp2_with fail
            refine HLS.out.mono ?_
            rintro e w11 ⟨v, a, rfl, hA11, hLA, hL11, hk11⟩
            clear b0 b1 s0 s1 s2 s3 s4 HLS
            obtain ⟨nA, y1, y2, y3, rfl, hr1, hr2, hr3, hd12, hd13, hd23⟩ := hA11
            obtain ⟨hfb, hfl⟩ := Pl.lineA_files hLA (fun j hj => by obtain ⟨vd, bm, p, hM⟩ := HW.out.2.1.ln; exact hM.len hj)
            have hb12 : Bel w11 (w11.alloc (.cells #[.bool a.ok, .int .i64 a.val, y1, y2, y3] 33)) := (Bel.refl w11).alloc _
            have hBA := Blk.new w11 33 [.bool a.ok, .int .i64 a.val, y1, y2, y3]
            have hAR : AnsR (w11.alloc (.cells #[.bool a.ok, .int .i64 a.val, y1, y2, y3] 33)) wc.heap.size (.agg #[.bool a.ok, .int .i64 a.val, y1, y2, y3]) a :=
              ⟨nA, y1, y2, y3, rfl, own_bel hr1 hb12, own_bel hr2 hb12, own_bel hr3 hb12, hd12, hd13, hd23⟩
            have hRN := renamed_any hAR (own_bel (own_kt HW.out.2.1.rf hk11 (.inl (by decide))) hb12) (by omega) hfb (by omega)
            have HRN := Lib.hid hRN
            have HK12 := Lib.hid (And.intro (hk11.then hb12) (hL11.bel hb12))
            have HLA := Lib.hid hLA
            obtain ⟨_, _, rfl, _, _, _⟩ := own_form hr1
            obtain ⟨_, _, rfl, _, _, _⟩ := own_form hr2
            obtain ⟨_, _, rfl, _, _, _⟩ := own_form hr3
            clear hAR hRN hb12 hk11 hL11 hLA hfb hfl hr1 hr2 hr3 hd12 hd13 hd23 hBA
            go_wp2_with fail
            refine HRN.out.mono ?_
            rintro e w13 ⟨v', rfl, hA13, hk13⟩
            obtain ⟨nB, z1, z2, z3, rfl, hz1, hz2, hz3, _, _, _⟩ := hA13
            have HB13 := Lib.hid (HW.out.2.1.step (HK12.out.1.onto hk13 (Nat.le_refl _)) (HK12.out.2.out hk13))
            have hwc := HW.out.2.1.bel.size
            have HAI : Hid (AnsI w13 w.heap.size (({ a with files := a.files.map (· - 1) } : Pl.LAns), z1, z2, z3)) := Lib.hid
              ⟨nB, own_base hz1 (fun q hq => by have := (hz1.lt q hq).1; omega), own_base hz2 (fun q hq => by have := (hz2.lt q hq).1; omega), own_base hz3 (fun q hq => by have := (hz3.lt q hq).1; omega)⟩
            have hz13 := HB13.out.bel.size
            obtain ⟨za1, zc1, rfl, _, _, _⟩ := own_form hz1
            obtain ⟨za2, zc2, rfl, _, _, _⟩ := own_form hz2
            obtain ⟨za3, zc3, rfl, _, _, _⟩ := own_form hz3
            clear hk13 hz1 hz2 hz3 HW HRN HK12
            go_wp2_with (at_builtin; refine wpList_push elAns rfl _ _ rfl w.heap.size u15 L.length _ rfl HB13.out.ro [.bool a.ok, .int .i64 a.val, _, _, _] w13.heap.size rfl rfl rfl (by simp [Value.oneCell']) (by omega) (by omega) hz13 ?_)
            intro vo' w14 ho14 hg14 _
            have HE : Hid (LB w w14 tb x m BB F gs T (.slice (some ⟨gb, 0, none⟩) m vc) (.slice fx m fc) vo' (Pl.runD (fsOf R) (nsOf R) S (k + 1)) (L ++ [(({ a with files := a.files.map (· - 1) } : Pl.LAns), .slice za1 nB zc1, .slice za2 nB zc2, .slice za3 nB zc3)]) ∧ ∀ q s p, S[q]? = some s → (L ++ [(({ a with files := a.files.map (· - 1) } : Pl.LAns), .slice za1 nB zc1, .slice za2 nB zc2, .slice za3 nB zc3)])[q]? = some p → Pl.lineR (fsOf R) m (Pl.runD (fsOf R) (nsOf R) S q) s p.1) := Lib.hid (by
              have h1 := HB13.out.push HAI.out (by rw [hLk]; exact ho14) hg14
              rw [Pl.lineD_congr (HFN.out i hi).2 (HFN.out i hi).1] at h1
              refine ⟨?_, fun q s p hq hp => ?_⟩
              · rw [Pl.runD_succ _ _ HSTK.out]
                simpa using h1
              · by_cases hql : q < L.length
                · rw [List.getElem?_append_left hql] at hp
                  exact HAN.out q s p hq hp
                · have hqe : q = L.length := by
                    have := (List.getElem?_eq_some_iff.1 hp).1
                    simp at this; omega
                  subst hqe
                  rw [List.getElem?_append_right (Nat.le_refl _)] at hp
                  simp at hp
                  subst hp
                  rw [hLk, HSTK.out] at hq
                  injection hq with hq
                  subst hq
                  refine ⟨a, ?_, rfl⟩
                  rw [hLk]
                  have := Pl.lineA_congr hi (fun j hj => (HFN.out j hj).2) HLA.out
                  simpa using this)
            clear ho14 hg14 HB13 HAI HLA
            go_wp2
            go_roundw
            case rel => exact ⟨k + 1, _, by omega, by go_num, by simp [hLk], HE.out⟩
            case measure => simp [intOf]; omega
        · obtain rfl : k = n2 := by omega
          have hRD : LAnO wr w.heap.size _ (L.map (·.1)) := ⟨L, rfl, HB.out.ro, HB.out.ra⟩
          have hbl := HB.out.bel
          obtain ⟨oa, oc, rfl, _, _, _⟩ := own_form HB.out.ro
          have HFI : Hid (LAnO wr w.heap.size (.slice oa k oc) (L.map (·.1)) ∧ Pl.Runs (fsOf R) (nsOf R) gs.length S (L.map (·.1)) ∧ Bel w wr) := Lib.hid ⟨by first | exact hRD | (rw [← hLk]; exact hRD), ⟨by rw [List.length_map, hLk, HS.out.1], fun q s p hq hp => by
            rw [List.getElem?_map] at hp
            obtain ⟨p', hp', rfl⟩ := Option.map_eq_some_iff.1 hp
            rw [HM.out]; exact HAN.out q s p' hq hp'⟩, hbl⟩
          clear hRD hbl HAN HB
          go_wp2
          go_ret
          exact ⟨_, rfl, _, HFI.out⟩
theorem lines_any (a1 : Option Addr) (n1 c1 : Nat) (R : List Pl.Ent) (a2 : Option Addr) (n2 c2 : Nat) (S : List Pl.LStep) (w : World) (hR : Ents w a1 n1 R) (hS : LSt w a2 n2 S) (hok : RngOk R) (hs : ∀ s ∈ S, StepK n1 s) (hn : n1 ≤ 20) (hn2 : n2 ≤ 1000) :
    Calls Try.prog 9 #[.slice a1 n1 c1, .slice a2 n2 c2] w fun e w' => ∃ v A, e = .returned v ∧ LAnS w' v A ∧ Pl.Runs (fsOf R) (nsOf R) n1 S A ∧ Bel w w' :=
  (lines_own a1 n1 c1 R a2 n2 c2 S w hR hS hok hs hn hn2).mono fun _ _ ⟨v, A, h1, h2, h3⟩ => ⟨v, A, h1, h2.read, h3⟩
end Go.Proofs.Ytangceejmjklcaa
