/- impl.Back: positions made compact and told in full again. -/
import Derived.Test.YtbekmpmfkblgnaaBack1
namespace Go.Proofs.Ytbekmpmfkblgnaa
open Go.RowKit Go.BigFrame

/-- The values of the operations. -/
def VB12 (f q g : Nat) (lc : Int) (b : Nat) : List (Nat × Nat × Value) := [(0, 44, ptr f), (1, 45, ptr f), (2, 46, .pointer (some ⟨f, 0, none⟩)), (3, 47, .agg #[.int .i32 (q : Int), .int .u32 lc]), (4, 48, .agg #[ptr g, .int .u32 lc]), (5, 14, .pointer (some ⟨b, 0, none⟩))]
theorem VB12_slots (f q g : Nat) (lc : Int) (b : Nat) : (VB12 f q g lc b).map (·.2.1) = [44, 45, 46, 47, 48, 14] := rfl
theorem VB12_idx (f q g : Nat) (lc : Int) (b : Nat) : (VB12 f q g lc b).map (·.1) = [0, 1, 2, 3, 4, 5] := rfl
theorem VB12_nd (f q g : Nat) (lc : Int) (b : Nat) : ((VB12 f q g lc b).map (·.2.1)).Nodup := by rw [VB12_slots]; decide
theorem VB12_nd' (f q g : Nat) (lc : Int) (b : Nat) : ((VB12 f q g lc b).map (·.1)).Nodup := by rw [VB12_idx]; decide
theorem VB12_not6 (f q g : Nat) (lc : Int) (b : Nat) : 6 ∉ (VB12 f q g lc b).map (·.2.1) := by rw [VB12_slots]; decide
theorem VB12_not13 (f q g : Nat) (lc : Int) (b : Nat) : 13 ∉ (VB12 f q g lc b).map (·.2.1) := by rw [VB12_slots]; decide
/-- What the operations bring about. -/
def VB12_F (K g : Nat) (lc : Int) (b : Nat) : List Fact := [([5], fun W => K ≤ b ∧ ∃ u0 u1, Blk W b 65 [u0, u1]), ([5, 6], fun W => Blk W b 65 [ptr g, .int .u32 lc])]
theorem VB12_st (K g : Nat) (lc : Int) (b : Nat) : Stab (VB12_F K g lc b) := (Stab.cons (fun _ _ hb h => ⟨h.1, h.2.imp fun _ h => h.imp fun _ h => h.bel hb⟩) (Stab.cons (fun _ _ hb h => h.bel hb) Stab.nil))

theorem elXp : ElTy 87 77 2 8 := ElTy.mk' (z := .agg #[.int .i32 0, .int .u32 0]) Try.underlying87 (by kernel_rfl) rfl (by decide)

/-- The cells of the first k compact positions. -/
def xcells (ps : List PlaceD) (fs : List Nat) : Nat → List Value
  | 0 => []
  | k + 1 => xcells ps fs k ++ [.int .i32 (idx (regK fs k) (fs.getD k 0)), .int .u32 ((ps.getD k ⟨0, 0, 0, 0, 0⟩).line * 4096 + (ps.getD k ⟨0, 0, 0, 0, 0⟩).col * 16)]
theorem xcells_length (ps : List PlaceD) (fs : List Nat) : ∀ k, (xcells ps fs k).length = k * 2
  | 0 => rfl
  | k + 1 => by simp [xcells, xcells_length ps fs k]; omega
theorem xcells_at (ps : List PlaceD) (fs : List Nat) : ∀ (k j : Nat), j < k → (xcells ps fs k)[j * 2]? = some (.int .i32 (idx (regK fs j) (fs.getD j 0))) ∧ (xcells ps fs k)[j * 2 + 1]? = some (.int .u32 ((ps.getD j ⟨0, 0, 0, 0, 0⟩).line * 4096 + (ps.getD j ⟨0, 0, 0, 0, 0⟩).col * 16))
  | k + 1, j, h => by
    show (xcells ps fs k ++ _)[j * 2]? = _ ∧ (xcells ps fs k ++ _)[j * 2 + 1]? = _
    by_cases e : j < k
    · rw [List.getElem?_append_left (by rw [xcells_length]; omega), List.getElem?_append_left (by rw [xcells_length]; omega)]
      exact xcells_at ps fs k j e
    · obtain rfl : j = k := by omega
      rw [List.getElem?_append_right (by rw [xcells_length]; omega), List.getElem?_append_right (by rw [xcells_length]; omega), xcells_length]
      simp
/-- What is told: the names, and the places. -/
def ncells (nms : List ByteArray) (fs : List Nat) (k : Nat) : List Value := ((fs.take k).map fun i => nms.getD i ByteArray.empty).map Value.string
theorem ncells_succ {nms : List ByteArray} {fs : List Nat} {k i : Nat} (h : fs[k]? = some i) : ncells nms fs (k + 1) = ncells nms fs k ++ [.string (nms.getD i ByteArray.empty)] := by
  unfold ncells; rw [List.take_add_one, h]; simp
def ocells (ps : List PlaceD) : Nat → List Value
  | 0 => []
  | k + 1 => ocells ps k ++ [.int .i64 0, .int .i64 (ps.getD k ⟨0, 0, 0, 0, 0⟩).line, .int .i64 (ps.getD k ⟨0, 0, 0, 0, 0⟩).col, .int .i64 0, .int .i64 0]
theorem ocells_length (ps : List PlaceD) : ∀ k, (ocells ps k).length = k * 5
  | 0 => rfl
  | k + 1 => by simp [ocells, ocells_length ps k]; omega

theorem regK_mem (fs : List Nat) (k i : Nat) (h : fs[k]? = some i) : ∀ m, k < m → m ≤ fs.length → i ∈ regK fs m ∧ idx (regK fs k) i = regIx (regK fs m) i + 1
  | 0, hk, _ => absurd hk (by omega)
  | m + 1, hk, hm => by
    have hg := List.getElem?_eq_getElem (show m < fs.length by omega)
    rw [regK_succ fs m _ hg]
    by_cases e : k = m
    · subst e
      rw [h] at hg
      injection hg with hg
      rw [← hg]
      exact ⟨regAdd_mem _ _, rfl⟩
    · obtain ⟨h1, h2⟩ := regK_mem fs k i h m (by omega) (by omega)
      exact ⟨regAdd_keeps h1, by rw [regIx_old _ h1]; exact h2⟩

/-- What the second loop keeps. -/
structure BackAt (w W : World) (f : Nat) (gs : List Nat) (nms : List ByteArray) (reg S : List Nat) (ps : List PlaceD) (fs : List Nat) (u t o : Value) (m j : Nat) : Prop where
  rg : RegAt w W f gs nms reg S
  xs : W.ownsRow w.heap.size 77 2 u m (xcells ps fs m)
  ts : W.ownsRow w.heap.size 9 1 t j (ncells nms fs j)
  os : W.ownsRow w.heap.size 23 5 o j (ocells ps j)
theorem own_far {W W' : World} {b1 b2 : Nat} {e1 e2 : TypeId} {s1 s2 n1 n2 : Nat} {v1 v2 : Value} {x1 x2 : List Value} (h1 : W.ownsRow b1 e1 s1 v1 n1 x1) (h2 : W.ownsRow b2 e2 s2 v2 n2 x2) (hne : e1 ≠ e2) (hg : W.grownBy W' v2.ownBlock) : W'.ownsRow b1 e1 s1 v1 n1 x1 := by
  refine h1.kept hg ?_
  cases hv : v1.ownBlock with
  | none => exact .inl rfl
  | some q => exact .inr (fun e => own_own_ne2 h1 h2 hne q hv e.symm)
theorem BackAt.on {w W W' : World} {f : Nat} {gs : List Nat} {nms : List ByteArray} {reg S : List Nat} {ps : List PlaceD} {fs : List Nat} {u t o : Value} {m j : Nat} (h : BackAt w W f gs nms reg S ps fs u t o m j) (hb : Bel W W') : BackAt w W' f gs nms reg S ps fs u t o m j :=
  ⟨h.rg.on hb, own_bel h.xs hb, own_bel h.ts hb, own_bel h.os hb⟩

set_option maxRecDepth 100000 in
set_option maxHeartbeats 8000000 in
theorem back_any (a2 : Option Addr) (m cap2 : Nat) (ps : List PlaceD) (a : Option Addr) (n cap : Nat) (nms : List ByteArray) (fs : List Nat) (w : World) (hp : Places w a2 m ps) (h : Strs w a n nms) (hn : n ≤ 500) (hnd : nms.Nodup) (hm : m ≤ 100) (hok : PlOk n ps fs) :
    Calls Try.prog 27 #[.slice a2 m cap2, .slice a n cap] w fun e w' => ∃ t o, e = .returned (.tuple #[t, o]) ∧ w'.ownsRow w.heap.size 9 1 t m (ncells nms fs m) ∧ w'.ownsRow w.heap.size 23 5 o m (ocells ps m) ∧ Bel w w' := by
  have HH := Lib.hid h; clear h
  have HP := Lib.hid hp; clear hp
  have HOK := Lib.hid hok; clear hok
  have hfl : fs.length = m := by rw [HOK.out.1, HP.out.1]
  have HFL := Lib.hid hfl; clear hfl
  go_enter Try.func27, Try.ntmps27
  go_wp2_with fail
  refine (newFiles_any a n cap nms _ HH.out (by omega)).mono ?_
  rintro e w1 ⟨f, gs, rfl, hnf, hb1⟩
  obtain ⟨hF, hge⟩ := hnf.files hnd (by rw [HH.out.1]; omega)
  have hgl : gs.length = n := by obtain ⟨v, h, _⟩ := hF; rw [h.2.1.1, HH.out.1]
  have HGL := Lib.hid hgl; clear hgl
  have hz1 := hb1.size
  have HR0 : Hid (RegAt w (w1.alloc (.cells #[] 77)) f gs nms (regK fs 0) [] ∧ (w1.alloc (.cells #[] 77)).ownsRow w.heap.size 77 2 (.slice (some ⟨w1.heap.size, 0, none⟩) 0 0) 0 (xcells ps fs 0)) := Lib.hid (by
    rw [regK_zero]; exact ⟨(RegAt.mk hF (by simpa using hge) hb1).on ((Bel.refl w1).alloc _), owns_empty _ _ _ _ _ rfl hz1⟩)
  clear hF hge hnf hb1 hz1
  go_wp2
  go_loopw [7, 20] (fun u i wr => ∃ (k : Nat) (S : List Nat), k ≤ m ∧ i = .int .i64 k ∧ RegAt w wr f gs nms (regK fs k) S ∧ wr.ownsRow w.heap.size 77 2 u k (xcells ps fs k)) (fun _ i _ => m - (intOf i).toNat)
  case atStart => exact ⟨0, _, Nat.zero_le _, rfl, HR0.out⟩
  case round =>
    obtain ⟨k, S, hk, rfl, hR, hU⟩ := hrel
    have HR := Lib.hid hR; clear hR HR0
    have HU := Lib.hid hU; clear hU
    by_cases hlt : k < m
    · obtain ⟨b, o, rfl, hcell⟩ := HP.out.2 (by omega)
      obtain ⟨p, hpk⟩ : ∃ e, ps[k]? = some e := ⟨_, List.getElem?_eq_getElem (by rw [HP.out.1]; exact hlt)⟩
      obtain ⟨i, hik⟩ : ∃ e, fs[k]? = some e := ⟨_, List.getElem?_eq_getElem (by rw [HFL.out]; exact hlt)⟩
      obtain ⟨q0, q1, q2, q3, q4, q5⟩ := HOK.out.2 k p i hpk hik
      obtain ⟨c0, c1, c2, c3, c4⟩ := hcell k p hpk
      replace c0 := HR.out.bel.cell c0
      replace c1 := HR.out.bel.cell c1
      replace c2 := HR.out.bel.cell c2
      replace c3 := HR.out.bel.cell c3
      replace c4 := HR.out.bel.cell c4
      have HS := Lib.hid (regK_succ fs k i hik)
      have HX : Hid (xcells ps fs (k + 1) = xcells ps fs k ++ [.int .i32 (idx (regK fs k) i), .int .u32 (p.line * 4096 + p.col * 16)]) := Lib.hid (by
        show xcells ps fs k ++ _ = _
        rw [List.getD_eq_getElem?_getD, hik, List.getD_eq_getElem?_getD, hpk]; rfl)
      clear hcell hpk hik
      obtain ⟨pf, pl, pc, psx, px⟩ := p
      simp only at q0 q2 q3 q4 q5 c0 c1 c2 c3 c4 HX
      subst q0
      have hba := (Bel.refl wr).alloc (.cells #[.int .i64 (i : Int), .int .i64 pl, .int .i64 pc, .int .i64 psx, .int .i64 px] 23)
      have HRA := Lib.hid (And.intro (HR.out.on hba) (own_bel HU.out hba))
      clear hba
      go_wp2_with fail
      refine (at_files f gs nms (regK fs k) S i pl pc _ HRA.out.1.fl (by rw [HGL.out]; omega) (by omega) (by omega) (by omega) (by omega)).mono ?_
      rintro e w2 ⟨S2, rfl, hF2, hS2, hk2, _⟩
      have hO2 := own_kept HRA.out.2 hk2 (HRA.out.1.fl.notMine HRA.out.2 (by decide) (by decide) (by decide))
      have HR2 : Hid (RegAt w w2 f gs nms (regK fs (k + 1)) S2 ∧ w2.ownsRow w.heap.size 77 2 u7 k (xcells ps fs k)) := Lib.hid (by rw [HS.out]; exact ⟨HRA.out.1.next hF2 hS2 hk2, hO2⟩)
      have hz2 := HR2.out.1.bel.size
      clear hF2 hS2 hk2 hO2 c0 c1 c2 c3 c4 HRA
      go_wp2_with (at_builtin; refine wpList_push elXp rfl _ _ rfl w.heap.size u7 k _ rfl HR2.out.2 [.int .i32 (idx (regK fs k) i), .int .u32 (pl * 4096 + pc * 16)] w2.heap.size rfl rfl rfl (by simp [Value.oneCell']) (by omega) (by omega) hz2 ?_)
      intro u3 w3 ho3 hg3 _
      have HR3 : Hid (RegAt w w3 f gs nms (regK fs (k + 1)) S2 ∧ w3.ownsRow w.heap.size 77 2 u3 (k + 1) (xcells ps fs (k + 1))) := Lib.hid (by
        rw [HX.out]
        exact ⟨⟨HR2.out.1.fl.grown HR2.out.2 hg3 (by decide) (by decide) (by decide), HR2.out.1.ge, HR2.out.1.bel.grown hg3 (fun q hq => (HR2.out.2.lt q hq).1)⟩, ho3⟩)
      clear ho3 hg3 HR2
      go_wp2
      go_roundw
      case rel => exact ⟨k + 1, S2, by omega, by go_num, HR3.out⟩
      case measure => simp [intOf]; omega
    · obtain rfl : k = m := by omega
      have hz := HR.out.bel.size
      have hE1 := owns_empty wr w.heap.size 9 1 _ rfl hz
      have hE2 := owns_empty (wr.alloc (.cells #[] 9)) w.heap.size 23 5 _ rfl (by simp; omega)
      rw [World.size_alloc] at hE2
      have hb2 : Bel wr ((wr.alloc (.cells #[] 9)).alloc (.cells #[] 23)) := ((Bel.refl wr).alloc _).alloc _
      have HBA : Hid (BackAt w ((wr.alloc (.cells #[] 9)).alloc (.cells #[] 23)) f gs nms (regK fs k) S ps fs u7 (.slice (some ⟨wr.heap.size, 0, none⟩) 0 0) (.slice (some ⟨wr.heap.size + 1, 0, none⟩) 0 0) k 0) :=
        Lib.hid ⟨HR.out.on hb2, own_bel HU.out hb2, hE1.alloc _, hE2⟩
      obtain ⟨ux, uc, rfl, _, _, _⟩ := own_form HU.out
      clear hE1 hE2 hb2 HR HU
      go_wp2
      generalize (wr.alloc (.cells #[] 9)).alloc (.cells #[] 23) = w8 at HBA ⊢
      go_loopw [10, 11, 40] (fun t o i wq => ∃ j : Nat, j ≤ k ∧ i = .int .i64 j ∧ BackAt w wq f gs nms (regK fs k) S ps fs (.slice ux k uc) t o k j) (fun _ _ i _ => k - (intOf i).toNat)
      case atStart => exact ⟨0, Nat.zero_le _, rfl, HBA.out⟩
      case round =>
        obtain ⟨j, hj, rfl, hB⟩ := hrel
        have HB := Lib.hid hB; clear hB HBA
        by_cases hlj : j < k
        · obtain ⟨_, _, hux, _, _, hxc⟩ := own_form HB.out.xs
          injection hux with hux1 hux2 hux3
          subst hux1 hux3
          obtain ⟨gx, rfl, hxg⟩ := hxc (by omega)
          obtain ⟨p, hpk⟩ : ∃ e, ps[j]? = some e := ⟨_, List.getElem?_eq_getElem (by rw [HP.out.1]; exact hlj)⟩
          obtain ⟨i, hik⟩ : ∃ e, fs[j]? = some e := ⟨_, List.getElem?_eq_getElem (by rw [HFL.out]; exact hlj)⟩
          obtain ⟨q0, q1, q2, q3, q4, q5⟩ := HOK.out.2 j p i hpk hik
          obtain ⟨hmem, hix⟩ := regK_mem fs j i hik k hlj (by rw [HFL.out]; exact Nat.le_refl _)
          obtain ⟨gv, L, cpv, q, cv0, cvq, hq0, hq1, hqe, hBg⟩ := HB.out.rg.fl.at hmem
          have hx0 := hxg _ _ (xcells_at ps fs k j hlj).1
          have hx1 := hxg _ _ (xcells_at ps fs k j hlj).2
          rw [List.getD_eq_getElem?_getD, hik] at hx0
          rw [List.getD_eq_getElem?_getD, hpk] at hx1
          simp only [Option.getD_some] at hx0 hx1
          rw [hix, hqe] at hx0
          have HN := Lib.hid (ncells_succ (nms := nms) hik)
          have HO : Hid (ocells ps (j + 1) = ocells ps j ++ [.int .i64 0, .int .i64 p.line, .int .i64 p.col, .int .i64 0, .int .i64 0]) := Lib.hid (by
            show ocells ps j ++ _ = _
            rw [List.getD_eq_getElem?_getD, hpk]; rfl)
          clear hxg hxc hpk hik hmem hix hqe
          generalize gs.getD i 0 = g at cvq hBg
          generalize nms.getD i ByteArray.empty = nm at hBg HN
          generalize regIx (regK fs k) i = fi at hBg
          obtain ⟨pf, pl, pc, psx, px⟩ := p
          simp only at q0 q2 q3 q4 q5 hx1 HO
          have hl1 : (pl * 4096 + pc * 16) / 4096 = pl := by omega
          have hl2 : (pl * 4096 + pc * 16) / 16 % 256 = pc := by omega
          have hl3 : 0 ≤ pl * 4096 + pc * 16 ∧ pl * 4096 + pc * 16 < 4294967296 := by omega
          generalize hlc : pl * 4096 + pc * 16 = lc at hx1 hl1 hl2 hl3
          have hba := (Bel.refl wr).alloc (.cells #[.int .i32 (q : Int), .int .u32 lc] 77)
          have hBx := Blk.new wr 77 [.int .i32 (q : Int), .int .u32 lc]
          have HBb := Lib.hid (And.intro (HB.out.on hba) (hBg.bel hba))
          replace cv0 := hba.cell cv0
          replace cvq := hba.cell cvq
          clear hba hBg HB q0 q1
          go_upto_region 12 with (fail)
          change Blk (wr.alloc (.cells #[.int .i32 (q : Int), .int .u32 lc] 77)) _ _ _ at hBx
          generalize wr.alloc (.cells #[.int .i32 (q : Int), .int .u32 lc] 77) = wb at hBx HBb cv0 cvq ⊢
          have x0 : wb.cell? ⟨wr.heap.size, 0, none⟩ = some (.int .i32 (q : Int)) := hBx.cell 0
          have x1 : wb.cell? ⟨wr.heap.size, 1, none⟩ = some (.int .u32 lc) := hBx.cell 1
          clear hBx hx0 hx1
          refine act_name (fun a0 ha0 => ?_)
          have so6 : a0.eval (.tmp 6) = ptr f := by rw [ha0]; rfl
          have so13 : a0.eval (.tmp 13) = .pointer (some ⟨wr.heap.size, 0, none⟩) := by rw [ha0]; rfl
          have hsz : a0.tmps.size = 69 := by rw [ha0]; rfl
          have HA0 := Lib.hid ha0; clear ha0
          refine region_obs3 (fun D a' W => ∃ (b : Nat), a' = frC a0 D (VB12 f q g lc b) ∧ WG wb (VB12_F wb.heap.size g lc b) D W) (by kernel_rfl) (by kernel_rfl) ⟨0, (frC_none _ _).symm, WG.start _ (by simp [VB12_F])⟩ ?_ ?_
          · refine ⟨?_, ?_, ?_, ?_, ?_, ?_, ?_, trivial⟩
            · rintro D _ W hD hcl hdeps ⟨b, rfl, hW⟩
              have e6 := ev_get ((frC_out (a0 := a0) (D := D) (VB12_not6 f q g lc b)).trans so6)
              refine ob_val rfl (v := ptr f) (by simp [execOp, go_sem, e6]) ⟨b, frC_put hD (by simp [VB12]) (VB12_nd _ _ _ _ _) (VB12_nd' _ _ _ _ _), hW.step (VB12_st _ _ _ _) (Bel.refl W) (by simp [VB12_F])⟩
            · rintro D _ W hD hcl hdeps ⟨b, rfl, hW⟩
              have hd0 : D 0 = true := hdeps ⟨0, .data⟩ (by simp) rfl
              have e44 := ev_get (frC_in (v := ptr f) hd0 (show 44 < a0.tmps.size by rw [hsz]; decide) (vs := VB12 f q g lc b) (by simp [VB12]) (VB12_nd _ _ _ _ _))
              refine ob_val rfl (v := ptr f) (by simp [execOp, go_sem, e44]) ⟨b, frC_put hD (by simp [VB12]) (VB12_nd _ _ _ _ _) (VB12_nd' _ _ _ _ _), hW.step (VB12_st _ _ _ _) (Bel.refl W) (by simp [VB12_F])⟩
            · rintro D _ W hD hcl hdeps ⟨b, rfl, hW⟩
              have hd1 : D 1 = true := hdeps ⟨1, .data⟩ (by simp) rfl
              have e45 := ev_get (frC_in (v := ptr f) hd1 (show 45 < a0.tmps.size by rw [hsz]; decide) (vs := VB12 f q g lc b) (by simp [VB12]) (VB12_nd _ _ _ _ _))
              refine ob_val rfl (v := .pointer (some ⟨f, 0, none⟩)) (by simp [execOp, go_sem, e45]) ⟨b, frC_put hD (by simp [VB12]) (VB12_nd _ _ _ _ _) (VB12_nd' _ _ _ _ _), hW.step (VB12_st _ _ _ _) (Bel.refl W) (by simp [VB12_F])⟩
            · rintro D _ W hD hcl hdeps ⟨b, rfl, hW⟩
              have e13 := ev_get ((frC_out (a0 := a0) (D := D) (VB12_not13 f q g lc b)).trans so13)
              have z0 := hW.bel.cell x0
              have z1 := hW.bel.cell x1
              refine ob_val rfl (v := .agg #[.int .i32 (q : Int), .int .u32 lc]) (by simp [execOp, go_sem, e13, z0, z1]) ⟨b, frC_put hD (by simp [VB12]) (VB12_nd _ _ _ _ _) (VB12_nd' _ _ _ _ _), hW.step (VB12_st _ _ _ _) (Bel.refl W) (by simp [VB12_F])⟩
            · rintro D _ W hD hcl hdeps ⟨b, rfl, hW⟩
              have hd2 : D 2 = true := hdeps ⟨2, .data⟩ (by simp) rfl
              have e46 := ev_get (frC_in (v := .pointer (some ⟨f, 0, none⟩)) hd2 (show 46 < a0.tmps.size by rw [hsz]; decide) (vs := VB12 f q g lc b) (by simp [VB12]) (VB12_nd _ _ _ _ _))
              have hd3 : D 3 = true := hdeps ⟨3, .data⟩ (by simp) rfl
              have e47 := ev_get (frC_in (v := .agg #[.int .i32 (q : Int), .int .u32 lc]) hd3 (show 47 < a0.tmps.size by rw [hsz]; decide) (vs := VB12 f q g lc b) (by simp [VB12]) (VB12_nd _ _ _ _ _))
              refine ob_enter rfl (v := .agg #[ptr g, .int .u32 lc]) (f := 51) (args := #[ptr f, .agg #[.int .i32 (q : Int), .int .u32 lc]]) (w' := W) (by simp [go_sem, e46, e47]) ((tabPos_any f gv L cpv q g lc W (hW.bel.cell cv0) (hW.bel.cell cvq) hq0 hq1).mono ?_)
              rintro e w2 ⟨rfl, hb2⟩
              exact ⟨rfl, b, frC_put hD (by simp [VB12]) (VB12_nd _ _ _ _ _) (VB12_nd' _ _ _ _ _), hW.step (VB12_st _ _ _ _) hb2 (by simp [VB12_F])⟩
            · rintro D _ W hD hcl hdeps ⟨b, rfl, hW⟩
              refine ob_val rfl (v := .pointer (some ⟨W.heap.size, 0, none⟩)) (w' := W.alloc (.cells #[.pointer none, .int .u32 0] 65)) (by simp [execOp, go_sem]) ?_
              have hb2 : Bel W (W.alloc (.cells #[.pointer none, .int .u32 0] 65)) := (Bel.refl W).alloc _
              have hn6 : D 6 = false := by cases h : D 6; rfl; have := hcl 6 _ rfl h ⟨5, .data⟩ (by simp) rfl; rw [hD] at this; cases this
              refine ⟨W.heap.size, by rw [show frC a0 D (VB12 f q g lc b) = frC a0 D (VB12 f q g lc (W.heap.size)) from by simp only [VB12, frC, hD, Bool.false_eq_true, if_false]]; exact frC_put hD (by simp [VB12]) (VB12_nd _ _ _ _ _) (VB12_nd' _ _ _ _ _), ?_⟩
              refine hW.new (VB12_st _ _ _ _) hb2 ?_
              intro f hf
              simp only [VB12_F, List.mem_cons, List.not_mem_nil, or_false] at hf
              rcases hf with rfl | rfl
              · exact .inl ⟨by simp, fun hg => ⟨hW.bel.size, _, _, Blk.new W _ [_, _]⟩⟩
              · exact .inl ⟨by simp, fun hg => absurd (hg 6 (by simp)) (by simp [hn6])⟩
            · rintro D _ W hD hcl hdeps ⟨b, rfl, hW⟩
              have hd5 : D 5 = true := hdeps ⟨5, .data⟩ (by simp) rfl
              have e14 := ev_get (frC_in (v := .pointer (some ⟨b, 0, none⟩)) hd5 (show 14 < a0.tmps.size by rw [hsz]; decide) (vs := VB12 f q g lc b) (by simp [VB12]) (VB12_nd _ _ _ _ _))
              have hd4 : D 4 = true := hdeps ⟨4, .data⟩ (by simp) rfl
              have e48 := ev_get (frC_in (v := .agg #[ptr g, .int .u32 lc]) hd4 (show 48 < a0.tmps.size by rw [hsz]; decide) (vs := VB12 f q g lc b) (by simp [VB12]) (VB12_nd _ _ _ _ _))
              obtain ⟨hle, u0, u1, hB⟩ := hW.get (k := 0) rfl (fun i hi => by simp at hi; subst hi; exact hd5)
              have y0 : W.cell? ⟨b, 0, none⟩ = some u0 := hB.cell 0
              have y1 : W.cell? ⟨b, 1, none⟩ = some u1 := hB.cell 1
              have z0 := hB.frozen 0
              have z1 := hB.frozen 1
              refine ob_skip rfl (w' := (W.setCell ⟨b, 0, none⟩ (ptr g)).setCell ⟨b, 1, none⟩ (.int .u32 lc)) (by simp [execOp, go_sem, e14, e48, y0, y1, z0, z1]) ⟨b, ?_, ?_⟩
              · rw [frC_also_out (by rw [VB12_idx]; decide)]
                rfl
              · refine ⟨bel_setI (bel_setI hW.bel (p := ⟨b, 0, none⟩) hle) (p := ⟨b, 1, none⟩) hle, fun x hx _ => ?_⟩
                simp only [VB12_F, List.mem_cons, List.not_mem_nil, or_false] at hx
                rcases hx with rfl | rfl
                · exact ⟨hle, _, _, (hB.set 0 (ptr g)).set 1 (.int .u32 lc)⟩
                · exact (hB.set 0 (ptr g)).set 1 (.int .u32 lc)
          · rintro D _ wc hall ⟨b, rfl, hW⟩
            have hf0 := hW.get (k := 0) rfl (fun i hi => hall i (by simp at hi; show i < 7; omega))
            have hf1 := hW.get (k := 1) rfl (fun i hi => hall i (by simp at hi; show i < 7; omega))
            have hbW := hW.bel
            rw [frC_all (fun e he => hall e.1 (by have h1 : e.1 ∈ (VB12 f q g lc b).map (·.1) := List.mem_map.2 ⟨e, he, rfl⟩; rw [VB12_idx] at h1; simp at h1; show e.1 < 7; omega))]
            have HW := Lib.hid (And.intro hf1 (And.intro (HBb.out.1.on hbW) (HBb.out.2.bel hbW)))
            rw [HA0.out]
            simp only [VB12, List.foldr_cons, List.foldr_nil, Act.put, List.setIfInBounds_toArray, List.set_cons_succ, List.set_cons_zero]
            clear hf0 hf1 hbW hW hall HA0 so6 so13 hsz HBb cv0 cvq x0 x1 hq0 hq1
            have b0 : wc.cell? ⟨b, 0, none⟩ = some (ptr g) := HW.out.1.cell 0
            have b1 : wc.cell? ⟨b, 1, none⟩ = some (.int .u32 lc) := HW.out.1.cell 1
            go_wp2_with fail
            refine (fileName_any g lc fi nm _ HW.out.2.2).mono ?_
            rintro e w4 ⟨rfl, hb4⟩
            have HW4 := Lib.hid (And.intro (Blk.bel HW.out.1 hb4) (HW.out.2.1.on hb4))
            have hz4 := HW4.out.2.rg.bel.size
            clear hb4 HW b0 b1
            go_wp2_with (at_builtin; refine wpList_push append_strs rfl _ _ rfl w.heap.size u10 j _ rfl HW4.out.2.ts [.string nm] w4.heap.size rfl rfl rfl (by simp [Value.oneCell']) (by omega) (by omega) hz4 ?_)
            intro t5 w5 ho5 hg5 _
            have hs := HW4.out.2
            have HW5 : Hid (Blk w5 b 65 [ptr g, .int .u32 lc] ∧ RegAt w w5 f gs nms (regK fs k) S ∧ w5.ownsRow w.heap.size 77 2 (.slice (some ⟨gx, 0, none⟩) k uc) k (xcells ps fs k) ∧ w5.ownsRow w.heap.size 9 1 t5 (j + 1) (ncells nms fs (j + 1)) ∧ w5.ownsRow w.heap.size 23 5 u11 j (ocells ps j)) := Lib.hid (by
              refine ⟨Blk.grown HW4.out.1 hg5 (fun e => own_ne hs.ts HW4.out.1 (by decide) e.symm), ⟨hs.rg.fl.grown hs.ts hg5 (by decide) (by decide) (by decide), hs.rg.ge, hs.rg.bel.grown hg5 (fun q hq => (hs.ts.lt q hq).1)⟩, own_far hs.xs hs.ts (by decide) hg5, ?_, own_far hs.os hs.ts (by decide) hg5⟩
              rw [HN.out]; exact ho5)
            clear hs ho5 hg5 HW4
            have HL := Lib.hid (fun W => line_any lc W hl3.1 hl3.2)
            have HC := Lib.hid (fun W => col_any lc W hl3.1 hl3.2)
            rw [hl1] at HL
            rw [hl2] at HC
            have v1 : IntKind.i64.wrap pl = pl := IntWalk.i64_in _ (by omega)
            have v2 : IntKind.i64.wrap pc = pc := IntWalk.i64_in _ (by omega)
            have d1 : w5.cell? ⟨b, 1, none⟩ = some (.int .u32 lc) := HW5.out.1.cell 1
            clear hlc hl1 hl2 hl3
            go_upto_region 14 with (fail)
            have HW6 := Lib.hid HW5.out.2; clear HW5
            have hz6 := HW6.out.1.bel.size
            go_region_law
              (first
                | (refine step_app el40 (by rfl) _ _ (by rfl) w.heap.size u11 j (ocells ps j) (by rfl) ((own_bel HW6.out.2.2.2 (Bel.refl w5).drew).alloc _) w5.heap.size [.int .i64 0, .int .i64 pl, .int .i64 pc, .int .i64 0, .int .i64 0] (by rfl) (Blk.new w5.drew _ [.int .i64 0, .int .i64 pl, .int .i64 pc, .int .i64 0, .int .i64 0]) (by rfl) (by simp [Value.oneCell']) (by omega) (by omega) (by simp; omega) ?_; intro g7 cap7 w7 ho7 hg7 hat7 hlt7)
                | (go_simp; go_at_call 44; refine (HL.out _).mono ?_; rintro e w' ⟨rfl, rfl⟩)
                | (go_simp; go_at_call 45; refine (HC.out _).mono ?_; rintro e w' ⟨rfl, rfl⟩))
            all_goals (
              have HB7 : Hid (BackAt w w7 f gs nms (regK fs k) S ps fs (.slice (some ⟨gx, 0, none⟩) k uc) t5 (.slice (some ⟨g7, 0, none⟩) (j + 1) cap7) k (j + 1)) := Lib.hid (by
                obtain ⟨h1', h2', h3', h4'⟩ := HW6.out
                have hba := ((Bel.refl w5).drew).alloc (.cells #[.int .i64 0, .int .i64 pl, .int .i64 pc, .int .i64 0, .int .i64 0] 23)
                have h1 := h1'.on hba
                have h2 := own_bel h2' hba
                have h3 := own_bel h3' hba
                have h4 := own_bel h4' hba
                refine ⟨⟨h1.fl.grown h4 hg7 (by decide) (by decide) (by decide), h1.ge, h1.bel.grown hg7 (fun q hq => (h4.lt q hq).1)⟩, own_far h2 h4 (by decide) hg7, own_far h3 h4 (by decide) hg7, ?_⟩
                rw [HO.out]; exact ho7)
              clear ho7 hg7 HW6
              go_wp2
              go_roundw
              case rel => exact ⟨j + 1, by omega, by go_num, HB7.out⟩
              case measure => simp [intOf]; omega)
        · obtain rfl : j = k := by omega
          have hh := HB.out
          obtain ⟨t1, t2, rfl, _, _, _⟩ := own_form hh.ts
          obtain ⟨o1, o2, rfl, _, _, _⟩ := own_form hh.os
          have HR1 := Lib.hid (And.intro hh.ts (And.intro hh.os hh.rg.bel))
          clear hh
          go_wp2
          go_ret2
          exact ⟨_, _, rfl, HR1.out⟩
end Go.Proofs.Ytbekmpmfkblgnaa
