/- impl.InFull: two positions in full. -/
import Derived.Test.YtbekmpmfkblgnaaFull1
namespace Go.Proofs.Ytbekmpmfkblgnaa
open Go.RowKit Go.BigFrame

/-- The values of the operations. -/
def VF2 (f ga n cv Hp ip gp : Nat) (lp cp : Int) (bp : Nat) : List (Nat × Nat × Value) := [(0, 13, ptr f), (1, 14, ptr f), (2, 15, .pointer (some ⟨f, 3, none⟩)), (3, 16, .slice (some ⟨ga, 0, none⟩) n cv), (4, 17, .pointer (some ⟨Hp, 0, none⟩)), (5, 18, .int .i64 (ip : Int)), (6, 19, .pointer (some ⟨ga, ip, none⟩)), (7, 20, ptr gp), (8, 21, .pointer (some ⟨Hp, 1, none⟩)), (9, 22, .int .i64 lp), (10, 23, .int .u64 lp), (11, 24, .pointer (some ⟨Hp, 2, none⟩)), (12, 25, .int .i64 cp), (13, 26, .int .u64 cp), (14, 27, .agg #[ptr gp, .int .u32 (lp * 4096 + cp * 16)]), (15, 9, .pointer (some ⟨bp, 0, none⟩))]
theorem VF2_slots (f ga n cv Hp ip gp : Nat) (lp cp : Int) (bp : Nat) : (VF2 f ga n cv Hp ip gp lp cp bp).map (·.2.1) = [13, 14, 15, 16, 17, 18, 19, 20, 21, 22, 23, 24, 25, 26, 27, 9] := rfl
theorem VF2_idx (f ga n cv Hp ip gp : Nat) (lp cp : Int) (bp : Nat) : (VF2 f ga n cv Hp ip gp lp cp bp).map (·.1) = [0, 1, 2, 3, 4, 5, 6, 7, 8, 9, 10, 11, 12, 13, 14, 15] := rfl
theorem VF2_nd (f ga n cv Hp ip gp : Nat) (lp cp : Int) (bp : Nat) : ((VF2 f ga n cv Hp ip gp lp cp bp).map (·.2.1)).Nodup := by rw [VF2_slots]; decide
theorem VF2_nd' (f ga n cv Hp ip gp : Nat) (lp cp : Int) (bp : Nat) : ((VF2 f ga n cv Hp ip gp lp cp bp).map (·.1)).Nodup := by rw [VF2_idx]; decide
theorem VF2_not3 (f ga n cv Hp ip gp : Nat) (lp cp : Int) (bp : Nat) : 3 ∉ (VF2 f ga n cv Hp ip gp lp cp bp).map (·.2.1) := by rw [VF2_slots]; decide
theorem VF2_not8 (f ga n cv Hp ip gp : Nat) (lp cp : Int) (bp : Nat) : 8 ∉ (VF2 f ga n cv Hp ip gp lp cp bp).map (·.2.1) := by rw [VF2_slots]; decide
/-- What the operations bring about. -/
def VF2_F (K gp : Nat) (lp cp : Int) (bp : Nat) : List Fact := [([15], fun W => K ≤ bp ∧ ∃ u0 u1, Blk W bp 65 [u0, u1]), ([15, 16], fun W => Blk W bp 65 [ptr gp, .int .u32 (lp * 4096 + cp * 16)])]
theorem VF2_st (K gp : Nat) (lp cp : Int) (bp : Nat) : Stab (VF2_F K gp lp cp bp) := (Stab.cons (fun _ _ hb h => ⟨h.1, h.2.imp fun _ h => h.imp fun _ h => h.bel hb⟩) (Stab.cons (fun _ _ hb h => h.bel hb) Stab.nil))

/-- The values of the operations. -/
def VF3 (f ga n cv Hq iq gq : Nat) (lq cq : Int) (bq : Nat) : List (Nat × Nat × Value) := [(0, 28, ptr f), (1, 29, ptr f), (2, 30, .pointer (some ⟨f, 3, none⟩)), (3, 31, .slice (some ⟨ga, 0, none⟩) n cv), (4, 32, .pointer (some ⟨Hq, 0, none⟩)), (5, 33, .int .i64 (iq : Int)), (6, 34, .pointer (some ⟨ga, iq, none⟩)), (7, 35, ptr gq), (8, 36, .pointer (some ⟨Hq, 1, none⟩)), (9, 37, .int .i64 lq), (10, 38, .int .u64 lq), (11, 39, .pointer (some ⟨Hq, 2, none⟩)), (12, 40, .int .i64 cq), (13, 41, .int .u64 cq), (14, 42, .agg #[ptr gq, .int .u32 (lq * 4096 + cq * 16)]), (15, 10, .pointer (some ⟨bq, 0, none⟩))]
theorem VF3_slots (f ga n cv Hq iq gq : Nat) (lq cq : Int) (bq : Nat) : (VF3 f ga n cv Hq iq gq lq cq bq).map (·.2.1) = [28, 29, 30, 31, 32, 33, 34, 35, 36, 37, 38, 39, 40, 41, 42, 10] := rfl
theorem VF3_idx (f ga n cv Hq iq gq : Nat) (lq cq : Int) (bq : Nat) : (VF3 f ga n cv Hq iq gq lq cq bq).map (·.1) = [0, 1, 2, 3, 4, 5, 6, 7, 8, 9, 10, 11, 12, 13, 14, 15] := rfl
theorem VF3_nd (f ga n cv Hq iq gq : Nat) (lq cq : Int) (bq : Nat) : ((VF3 f ga n cv Hq iq gq lq cq bq).map (·.2.1)).Nodup := by rw [VF3_slots]; decide
theorem VF3_nd' (f ga n cv Hq iq gq : Nat) (lq cq : Int) (bq : Nat) : ((VF3 f ga n cv Hq iq gq lq cq bq).map (·.1)).Nodup := by rw [VF3_idx]; decide
theorem VF3_not4 (f ga n cv Hq iq gq : Nat) (lq cq : Int) (bq : Nat) : 4 ∉ (VF3 f ga n cv Hq iq gq lq cq bq).map (·.2.1) := by rw [VF3_slots]; decide
theorem VF3_not8 (f ga n cv Hq iq gq : Nat) (lq cq : Int) (bq : Nat) : 8 ∉ (VF3 f ga n cv Hq iq gq lq cq bq).map (·.2.1) := by rw [VF3_slots]; decide
/-- What the operations bring about. -/
def VF3_F (K gq : Nat) (lq cq : Int) (bq : Nat) : List Fact := [([15], fun W => K ≤ bq ∧ ∃ u0 u1, Blk W bq 65 [u0, u1]), ([15, 16], fun W => Blk W bq 65 [ptr gq, .int .u32 (lq * 4096 + cq * 16)])]
theorem VF3_st (K gq : Nat) (lq cq : Int) (bq : Nat) : Stab (VF3_F K gq lq cq bq) := (Stab.cons (fun _ _ hb h => ⟨h.1, h.2.imp fun _ h => h.imp fun _ h => h.bel hb⟩) (Stab.cons (fun _ _ hb h => h.bel hb) Stab.nil))

theorem pbox_two (w : World) (p q : PlaceD) : PBox ((w.alloc (.cells #[.int .i64 p.file, .int .i64 p.line, .int .i64 p.col, .int .i64 p.stmt, .int .i64 p.logue] 23)).alloc (.cells #[.int .i64 q.file, .int .i64 q.line, .int .i64 q.col, .int .i64 q.stmt, .int .i64 q.logue] 23)) w.heap.size p ∧
    PBox ((w.alloc (.cells #[.int .i64 p.file, .int .i64 p.line, .int .i64 p.col, .int .i64 p.stmt, .int .i64 p.logue] 23)).alloc (.cells #[.int .i64 q.file, .int .i64 q.line, .int .i64 q.col, .int .i64 q.stmt, .int .i64 q.logue] 23)) (w.heap.size + 1) q :=
  ⟨(PBox.new w p _ rfl).bel ((Bel.refl _).alloc _), PBox.new _ q _ (by simp)⟩

set_option maxRecDepth 100000 in
set_option maxHeartbeats 8000000 in
theorem inFull_any (ip iq : Nat) (lp cp sp xp lq cq sq xq : Int) (a : Option Addr) (n cap : Nat) (nms : List ByteArray) (np nq : ByteArray) (w : World) (h : Strs w a n nms) (hn : n ≤ 1000) (hp : nms[ip]? = some np) (hq : nms[iq]? = some nq)
    (h0 : 1 ≤ lp) (h1 : lp ≤ 1000000) (h2 : 1 ≤ cp) (h3 : cp ≤ 250) (k0 : 1 ≤ lq) (k1 : lq ≤ 1000000) (k2 : 1 ≤ cq) (k3 : cq ≤ 250) :
    Calls Try.prog 17 #[placeV ⟨ip, lp, cp, sp, xp⟩, placeV ⟨iq, lq, cq, sq, xq⟩, .slice a n cap] w fun e w' => e = .returned (.tuple #[.bool (fullB np nq (lp * 4096 + cp * 16) (lq * 4096 + cq * 16)), .bool (fullB nq np (lq * 4096 + cq * 16) (lp * 4096 + cp * 16))]) ∧ Bel w w' := by
  have HH := Lib.hid h; clear h
  have HPQ := Lib.hid (And.intro hp hq); clear hp hq
  obtain ⟨hPp, hPq⟩ := pbox_two w ⟨ip, lp, cp, sp, xp⟩ ⟨iq, lq, cq, sq, xq⟩
  have hbA : Bel w ((w.alloc (.cells #[.int .i64 ip, .int .i64 lp, .int .i64 cp, .int .i64 sp, .int .i64 xp] 23)).alloc (.cells #[.int .i64 iq, .int .i64 lq, .int .i64 cq, .int .i64 sq, .int .i64 xq] 23)) := ((Bel.refl w).alloc _).alloc _
  have HPB := Lib.hid (And.intro hPp (And.intro hPq hbA)); clear hPp hPq hbA
  go_enter Try.func17, Try.ntmps17
  go_wp2_with fail
  refine (newFiles_any a n cap nms _ (HH.out.bel HPB.out.2.2) hn).mono ?_
  rintro e wb ⟨f, gs, rfl, ⟨v, _, hblk, hown, _, hbases⟩, hb1⟩
  have hgl : gs.length = n := by rw [hbases.1, HH.out.1]
  have hip : ip < n := by have := (List.getElem?_eq_some_iff.1 HPQ.out.1).1; rw [HH.out.1] at this; exact this
  have hiq : iq < n := by have := (List.getElem?_eq_some_iff.1 HPQ.out.2).1; rw [HH.out.1] at this; exact this
  rw [hgl] at hown
  obtain ⟨av, cv, rfl, _, _, hcell⟩ := own_form hown
  obtain ⟨ga, rfl, hcg⟩ := hcell (by omega)
  obtain ⟨gp, hgp⟩ : ∃ g, gs[ip]? = some g := ⟨_, List.getElem?_eq_getElem (by omega)⟩
  obtain ⟨gq, hgq⟩ : ∃ g, gs[iq]? = some g := ⟨_, List.getElem?_eq_getElem (by omega)⟩
  have cgp := hcg ip (ptr gp) (by rw [List.getElem?_map, hgp]; rfl)
  have cgq := hcg iq (ptr gq) (by rw [List.getElem?_map, hgq]; rfl)
  have HGP := Lib.hid (And.intro (hbases.2.2 ip gp np hgp HPQ.out.1) (hbases.2.2 iq gq nq hgq HPQ.out.2))
  have c3 : wb.cell? ⟨f, 3, none⟩ = some (.slice (some ⟨ga, 0, none⟩) n cv) := hblk.cell 3
  obtain ⟨d0p, d1p, d2p, _, _⟩ := (HPB.out.1.bel hb1).all
  obtain ⟨d0q, d1q, d2q, _, _⟩ := (HPB.out.2.1.bel hb1).all
  have HBW := Lib.hid (HPB.out.2.2.trans hb1)
  clear hblk hown hbases hb1 hcell hcg HPB hgp hgq hgl
  simp only at d0p d1p d2p d0q d1q d2q
  obtain ⟨Hq, hHq⟩ : ∃ H, H = w.heap.size + 1 := ⟨_, rfl⟩
  obtain ⟨Hp, hHp⟩ : ∃ H, H = w.heap.size := ⟨_, rfl⟩
  rw [← hHq] at d0q d1q d2q
  rw [← hHp] at d0p d1p d2p
  have hlp : IntKind.u64.wrap lp = lp := IntWalk.u64_in _ (by omega)
  have hcp : IntKind.u64.wrap cp = cp := IntWalk.u64_in _ (by omega)
  have hlq : IntKind.u64.wrap lq = lq := IntWalk.u64_in _ (by omega)
  have hcq : IntKind.u64.wrap cq = cq := IntWalk.u64_in _ (by omega)
  have j0p : (0 : Int) ≤ (ip : Int) := by omega
  have j1p : (ip : Int) < (n : Int) := by omega
  have j0q : (0 : Int) ≤ (iq : Int) := by omega
  have j1q : (iq : Int) < (n : Int) := by omega
  go_upto_region 2 with (fail)
  refine act_name (fun a0 ha0 => ?_)
  have so8 : a0.eval (.tmp 8) = ptr f := by rw [ha0]; rfl
  have so3 : a0.eval (.tmp 3) = .pointer (some ⟨Hp, 0, none⟩) := by rw [ha0, hHp]; rfl
  have hsz : a0.tmps.size = 49 := by rw [ha0]; rfl
  have HA0 := Lib.hid ha0; clear ha0
  refine region_obs3 (fun D a' W => ∃ (bp : Nat), a' = frC a0 D (VF2 f ga n cv Hp ip gp lp cp bp) ∧ WG wb (VF2_F wb.heap.size gp lp cp bp) D W) (by kernel_rfl) (by kernel_rfl) ⟨0, (frC_none _ _).symm, WG.start _ (by simp [VF2_F])⟩ ?_ ?_
  · refine ⟨?_, ?_, ?_, ?_, ?_, ?_, ?_, ?_, ?_, ?_, ?_, ?_, ?_, ?_, ?_, ?_, ?_, trivial⟩
    · rintro D _ W hD hcl hdeps ⟨bp, rfl, hW⟩
      have e8 := ev_get ((frC_out (a0 := a0) (D := D) (VF2_not8 f ga n cv Hp ip gp lp cp bp)).trans so8)
      refine ob_val rfl (v := ptr f) (by simp [execOp, go_sem, e8]) ⟨bp, frC_put hD (by simp [VF2]) (VF2_nd _ _ _ _ _ _ _ _ _ _) (VF2_nd' _ _ _ _ _ _ _ _ _ _), hW.step (VF2_st _ _ _ _ _) (Bel.refl W) (by simp [VF2_F])⟩
    · rintro D _ W hD hcl hdeps ⟨bp, rfl, hW⟩
      have hd0 : D 0 = true := hdeps ⟨0, .data⟩ (by simp) rfl
      have e13 := ev_get (frC_in (v := ptr f) hd0 (show 13 < a0.tmps.size by rw [hsz]; decide) (vs := VF2 f ga n cv Hp ip gp lp cp bp) (by simp [VF2]) (VF2_nd _ _ _ _ _ _ _ _ _ _))
      refine ob_val rfl (v := ptr f) (by simp [execOp, go_sem, e13]) ⟨bp, frC_put hD (by simp [VF2]) (VF2_nd _ _ _ _ _ _ _ _ _ _) (VF2_nd' _ _ _ _ _ _ _ _ _ _), hW.step (VF2_st _ _ _ _ _) (Bel.refl W) (by simp [VF2_F])⟩
    · rintro D _ W hD hcl hdeps ⟨bp, rfl, hW⟩
      have hd1 : D 1 = true := hdeps ⟨1, .data⟩ (by simp) rfl
      have e14 := ev_get (frC_in (v := ptr f) hd1 (show 14 < a0.tmps.size by rw [hsz]; decide) (vs := VF2 f ga n cv Hp ip gp lp cp bp) (by simp [VF2]) (VF2_nd _ _ _ _ _ _ _ _ _ _))
      refine ob_val rfl (v := .pointer (some ⟨f, 3, none⟩)) (by simp [execOp, go_sem, e14]) ⟨bp, frC_put hD (by simp [VF2]) (VF2_nd _ _ _ _ _ _ _ _ _ _) (VF2_nd' _ _ _ _ _ _ _ _ _ _), hW.step (VF2_st _ _ _ _ _) (Bel.refl W) (by simp [VF2_F])⟩
    · rintro D _ W hD hcl hdeps ⟨bp, rfl, hW⟩
      have hd2 : D 2 = true := hdeps ⟨2, .data⟩ (by simp) rfl
      have e15 := ev_get (frC_in (v := .pointer (some ⟨f, 3, none⟩)) hd2 (show 15 < a0.tmps.size by rw [hsz]; decide) (vs := VF2 f ga n cv Hp ip gp lp cp bp) (by simp [VF2]) (VF2_nd _ _ _ _ _ _ _ _ _ _))
      have z0 := hW.bel.cell c3
      refine ob_val rfl (v := .slice (some ⟨ga, 0, none⟩) n cv) (by simp [execOp, go_sem, e15, z0]) ⟨bp, frC_put hD (by simp [VF2]) (VF2_nd _ _ _ _ _ _ _ _ _ _) (VF2_nd' _ _ _ _ _ _ _ _ _ _), hW.step (VF2_st _ _ _ _ _) (Bel.refl W) (by simp [VF2_F])⟩
    · rintro D _ W hD hcl hdeps ⟨bp, rfl, hW⟩
      have e3 := ev_get ((frC_out (a0 := a0) (D := D) (VF2_not3 f ga n cv Hp ip gp lp cp bp)).trans so3)
      refine ob_val rfl (v := .pointer (some ⟨Hp, 0, none⟩)) (by simp [execOp, go_sem, e3]) ⟨bp, frC_put hD (by simp [VF2]) (VF2_nd _ _ _ _ _ _ _ _ _ _) (VF2_nd' _ _ _ _ _ _ _ _ _ _), hW.step (VF2_st _ _ _ _ _) (Bel.refl W) (by simp [VF2_F])⟩
    · rintro D _ W hD hcl hdeps ⟨bp, rfl, hW⟩
      have hd4 : D 4 = true := hdeps ⟨4, .data⟩ (by simp) rfl
      have e17 := ev_get (frC_in (v := .pointer (some ⟨Hp, 0, none⟩)) hd4 (show 17 < a0.tmps.size by rw [hsz]; decide) (vs := VF2 f ga n cv Hp ip gp lp cp bp) (by simp [VF2]) (VF2_nd _ _ _ _ _ _ _ _ _ _))
      have z0 := hW.bel.cell d0p
      refine ob_val rfl (v := .int .i64 (ip : Int)) (by simp [execOp, go_sem, e17, z0]) ⟨bp, frC_put hD (by simp [VF2]) (VF2_nd _ _ _ _ _ _ _ _ _ _) (VF2_nd' _ _ _ _ _ _ _ _ _ _), hW.step (VF2_st _ _ _ _ _) (Bel.refl W) (by simp [VF2_F])⟩
    · rintro D _ W hD hcl hdeps ⟨bp, rfl, hW⟩
      have hd3 : D 3 = true := hdeps ⟨3, .data⟩ (by simp) rfl
      have e16 := ev_get (frC_in (v := .slice (some ⟨ga, 0, none⟩) n cv) hd3 (show 16 < a0.tmps.size by rw [hsz]; decide) (vs := VF2 f ga n cv Hp ip gp lp cp bp) (by simp [VF2]) (VF2_nd _ _ _ _ _ _ _ _ _ _))
      have hd5 : D 5 = true := hdeps ⟨5, .data⟩ (by simp) rfl
      have e18 := ev_get (frC_in (v := .int .i64 (ip : Int)) hd5 (show 18 < a0.tmps.size by rw [hsz]; decide) (vs := VF2 f ga n cv Hp ip gp lp cp bp) (by simp [VF2]) (VF2_nd _ _ _ _ _ _ _ _ _ _))
      refine ob_val rfl (v := .pointer (some ⟨ga, ip, none⟩)) (by simp [execOp, go_sem, e16, e18, j0p, j1p]) ⟨bp, frC_put hD (by simp [VF2]) (VF2_nd _ _ _ _ _ _ _ _ _ _) (VF2_nd' _ _ _ _ _ _ _ _ _ _), hW.step (VF2_st _ _ _ _ _) (Bel.refl W) (by simp [VF2_F])⟩
    · rintro D _ W hD hcl hdeps ⟨bp, rfl, hW⟩
      have hd6 : D 6 = true := hdeps ⟨6, .data⟩ (by simp) rfl
      have e19 := ev_get (frC_in (v := .pointer (some ⟨ga, ip, none⟩)) hd6 (show 19 < a0.tmps.size by rw [hsz]; decide) (vs := VF2 f ga n cv Hp ip gp lp cp bp) (by simp [VF2]) (VF2_nd _ _ _ _ _ _ _ _ _ _))
      have z0 := hW.bel.cell cgp
      refine ob_val rfl (v := ptr gp) (by simp [execOp, go_sem, e19, z0]) ⟨bp, frC_put hD (by simp [VF2]) (VF2_nd _ _ _ _ _ _ _ _ _ _) (VF2_nd' _ _ _ _ _ _ _ _ _ _), hW.step (VF2_st _ _ _ _ _) (Bel.refl W) (by simp [VF2_F])⟩
    · rintro D _ W hD hcl hdeps ⟨bp, rfl, hW⟩
      have e3 := ev_get ((frC_out (a0 := a0) (D := D) (VF2_not3 f ga n cv Hp ip gp lp cp bp)).trans so3)
      refine ob_val rfl (v := .pointer (some ⟨Hp, 1, none⟩)) (by simp [execOp, go_sem, e3]) ⟨bp, frC_put hD (by simp [VF2]) (VF2_nd _ _ _ _ _ _ _ _ _ _) (VF2_nd' _ _ _ _ _ _ _ _ _ _), hW.step (VF2_st _ _ _ _ _) (Bel.refl W) (by simp [VF2_F])⟩
    · rintro D _ W hD hcl hdeps ⟨bp, rfl, hW⟩
      have hd8 : D 8 = true := hdeps ⟨8, .data⟩ (by simp) rfl
      have e21 := ev_get (frC_in (v := .pointer (some ⟨Hp, 1, none⟩)) hd8 (show 21 < a0.tmps.size by rw [hsz]; decide) (vs := VF2 f ga n cv Hp ip gp lp cp bp) (by simp [VF2]) (VF2_nd _ _ _ _ _ _ _ _ _ _))
      have z0 := hW.bel.cell d1p
      refine ob_val rfl (v := .int .i64 lp) (by simp [execOp, go_sem, e21, z0]) ⟨bp, frC_put hD (by simp [VF2]) (VF2_nd _ _ _ _ _ _ _ _ _ _) (VF2_nd' _ _ _ _ _ _ _ _ _ _), hW.step (VF2_st _ _ _ _ _) (Bel.refl W) (by simp [VF2_F])⟩
    · rintro D _ W hD hcl hdeps ⟨bp, rfl, hW⟩
      have hd9 : D 9 = true := hdeps ⟨9, .data⟩ (by simp) rfl
      have e22 := ev_get (frC_in (v := .int .i64 lp) hd9 (show 22 < a0.tmps.size by rw [hsz]; decide) (vs := VF2 f ga n cv Hp ip gp lp cp bp) (by simp [VF2]) (VF2_nd _ _ _ _ _ _ _ _ _ _))
      refine ob_val rfl (v := .int .u64 lp) (by simp [execOp, go_sem, e22, hlp]) ⟨bp, frC_put hD (by simp [VF2]) (VF2_nd _ _ _ _ _ _ _ _ _ _) (VF2_nd' _ _ _ _ _ _ _ _ _ _), hW.step (VF2_st _ _ _ _ _) (Bel.refl W) (by simp [VF2_F])⟩
    · rintro D _ W hD hcl hdeps ⟨bp, rfl, hW⟩
      have e3 := ev_get ((frC_out (a0 := a0) (D := D) (VF2_not3 f ga n cv Hp ip gp lp cp bp)).trans so3)
      refine ob_val rfl (v := .pointer (some ⟨Hp, 2, none⟩)) (by simp [execOp, go_sem, e3]) ⟨bp, frC_put hD (by simp [VF2]) (VF2_nd _ _ _ _ _ _ _ _ _ _) (VF2_nd' _ _ _ _ _ _ _ _ _ _), hW.step (VF2_st _ _ _ _ _) (Bel.refl W) (by simp [VF2_F])⟩
    · rintro D _ W hD hcl hdeps ⟨bp, rfl, hW⟩
      have hd11 : D 11 = true := hdeps ⟨11, .data⟩ (by simp) rfl
      have e24 := ev_get (frC_in (v := .pointer (some ⟨Hp, 2, none⟩)) hd11 (show 24 < a0.tmps.size by rw [hsz]; decide) (vs := VF2 f ga n cv Hp ip gp lp cp bp) (by simp [VF2]) (VF2_nd _ _ _ _ _ _ _ _ _ _))
      have z0 := hW.bel.cell d2p
      refine ob_val rfl (v := .int .i64 cp) (by simp [execOp, go_sem, e24, z0]) ⟨bp, frC_put hD (by simp [VF2]) (VF2_nd _ _ _ _ _ _ _ _ _ _) (VF2_nd' _ _ _ _ _ _ _ _ _ _), hW.step (VF2_st _ _ _ _ _) (Bel.refl W) (by simp [VF2_F])⟩
    · rintro D _ W hD hcl hdeps ⟨bp, rfl, hW⟩
      have hd12 : D 12 = true := hdeps ⟨12, .data⟩ (by simp) rfl
      have e25 := ev_get (frC_in (v := .int .i64 cp) hd12 (show 25 < a0.tmps.size by rw [hsz]; decide) (vs := VF2 f ga n cv Hp ip gp lp cp bp) (by simp [VF2]) (VF2_nd _ _ _ _ _ _ _ _ _ _))
      refine ob_val rfl (v := .int .u64 cp) (by simp [execOp, go_sem, e25, hcp]) ⟨bp, frC_put hD (by simp [VF2]) (VF2_nd _ _ _ _ _ _ _ _ _ _) (VF2_nd' _ _ _ _ _ _ _ _ _ _), hW.step (VF2_st _ _ _ _ _) (Bel.refl W) (by simp [VF2_F])⟩
    · rintro D _ W hD hcl hdeps ⟨bp, rfl, hW⟩
      have hd7 : D 7 = true := hdeps ⟨7, .data⟩ (by simp) rfl
      have e20 := ev_get (frC_in (v := ptr gp) hd7 (show 20 < a0.tmps.size by rw [hsz]; decide) (vs := VF2 f ga n cv Hp ip gp lp cp bp) (by simp [VF2]) (VF2_nd _ _ _ _ _ _ _ _ _ _))
      have hd10 : D 10 = true := hdeps ⟨10, .data⟩ (by simp) rfl
      have e23 := ev_get (frC_in (v := .int .u64 lp) hd10 (show 23 < a0.tmps.size by rw [hsz]; decide) (vs := VF2 f ga n cv Hp ip gp lp cp bp) (by simp [VF2]) (VF2_nd _ _ _ _ _ _ _ _ _ _))
      have hd13 : D 13 = true := hdeps ⟨13, .data⟩ (by simp) rfl
      have e26 := ev_get (frC_in (v := .int .u64 cp) hd13 (show 26 < a0.tmps.size by rw [hsz]; decide) (vs := VF2 f ga n cv Hp ip gp lp cp bp) (by simp [VF2]) (VF2_nd _ _ _ _ _ _ _ _ _ _))
      refine ob_enter rfl (v := .agg #[ptr gp, .int .u32 (lp * 4096 + cp * 16)]) (f := 32) (args := #[ptr gp, .int .u64 lp, .int .u64 cp]) (w' := W) (by simp [go_sem, e20, e23, e26]) ((makePos_any (ptr gp) lp cp W ⟨_, rfl⟩ (by omega) (by omega) (by omega) (by omega)).mono ?_)
      rintro e w2 ⟨rfl, hb2⟩
      exact ⟨rfl, bp, frC_put hD (by simp [VF2]) (VF2_nd _ _ _ _ _ _ _ _ _ _) (VF2_nd' _ _ _ _ _ _ _ _ _ _), hW.step (VF2_st _ _ _ _ _) hb2 (by simp [VF2_F])⟩
    · rintro D _ W hD hcl hdeps ⟨bp, rfl, hW⟩
      refine ob_val rfl (v := .pointer (some ⟨W.heap.size, 0, none⟩)) (w' := W.alloc (.cells #[.pointer none, .int .u32 0] 65)) (by simp [execOp, go_sem]) ?_
      have hb2 : Bel W (W.alloc (.cells #[.pointer none, .int .u32 0] 65)) := (Bel.refl W).alloc _
      have hn16 : D 16 = false := by cases h : D 16; rfl; have := hcl 16 _ rfl h ⟨15, .data⟩ (by simp) rfl; rw [hD] at this; cases this
      refine ⟨W.heap.size, by rw [show frC a0 D (VF2 f ga n cv Hp ip gp lp cp bp) = frC a0 D (VF2 f ga n cv Hp ip gp lp cp (W.heap.size)) from by simp only [VF2, frC, hD, Bool.false_eq_true, if_false]]; exact frC_put hD (by simp [VF2]) (VF2_nd _ _ _ _ _ _ _ _ _ _) (VF2_nd' _ _ _ _ _ _ _ _ _ _), ?_⟩
      refine hW.new (VF2_st _ _ _ _ _) hb2 ?_
      intro f hf
      simp only [VF2_F, List.mem_cons, List.not_mem_nil, or_false] at hf
      rcases hf with rfl | rfl
      · exact .inl ⟨by simp, fun hg => ⟨hW.bel.size, _, _, Blk.new W _ [_, _]⟩⟩
      · exact .inl ⟨by simp, fun hg => absurd (hg 16 (by simp)) (by simp [hn16])⟩
    · rintro D _ W hD hcl hdeps ⟨bp, rfl, hW⟩
      have hd15 : D 15 = true := hdeps ⟨15, .data⟩ (by simp) rfl
      have e9 := ev_get (frC_in (v := .pointer (some ⟨bp, 0, none⟩)) hd15 (show 9 < a0.tmps.size by rw [hsz]; decide) (vs := VF2 f ga n cv Hp ip gp lp cp bp) (by simp [VF2]) (VF2_nd _ _ _ _ _ _ _ _ _ _))
      have hd14 : D 14 = true := hdeps ⟨14, .data⟩ (by simp) rfl
      have e27 := ev_get (frC_in (v := .agg #[ptr gp, .int .u32 (lp * 4096 + cp * 16)]) hd14 (show 27 < a0.tmps.size by rw [hsz]; decide) (vs := VF2 f ga n cv Hp ip gp lp cp bp) (by simp [VF2]) (VF2_nd _ _ _ _ _ _ _ _ _ _))
      obtain ⟨hle, u0, u1, hB⟩ := hW.get (k := 0) rfl (fun i hi => by simp at hi; subst hi; exact hd15)
      have y0 : W.cell? ⟨bp, 0, none⟩ = some u0 := hB.cell 0
      have y1 : W.cell? ⟨bp, 1, none⟩ = some u1 := hB.cell 1
      have z0 := hB.frozen 0
      have z1 := hB.frozen 1
      refine ob_skip rfl (w' := (W.setCell ⟨bp, 0, none⟩ (ptr gp)).setCell ⟨bp, 1, none⟩ (.int .u32 (lp * 4096 + cp * 16))) (by simp [execOp, go_sem, e9, e27, y0, y1, z0, z1]) ⟨bp, ?_, ?_⟩
      · rw [frC_also_out (by rw [VF2_idx]; decide)]
        rfl
      · refine ⟨bel_setI (bel_setI hW.bel (p := ⟨bp, 0, none⟩) hle) (p := ⟨bp, 1, none⟩) hle, fun x hx _ => ?_⟩
        simp only [VF2_F, List.mem_cons, List.not_mem_nil, or_false] at hx
        rcases hx with rfl | rfl
        · exact ⟨hle, _, _, (hB.set 0 (ptr gp)).set 1 (.int .u32 (lp * 4096 + cp * 16))⟩
        · exact (hB.set 0 (ptr gp)).set 1 (.int .u32 (lp * 4096 + cp * 16))
  · rintro D _ wc hall ⟨bp, rfl, hW⟩
    have hf0 := hW.get (k := 0) rfl (fun i hi => hall i (by simp at hi; show i < 17; omega))
    have hf1 := hW.get (k := 1) rfl (fun i hi => hall i (by simp at hi; show i < 17; omega))
    have hbW := hW.bel
    rw [frC_all (fun e he => hall e.1 (by have h1 : e.1 ∈ (VF2 f ga n cv Hp ip gp lp cp bp).map (·.1) := List.mem_map.2 ⟨e, he, rfl⟩; rw [VF2_idx] at h1; simp at h1; show e.1 < 17; omega))]
    have HW := Lib.hid (And.intro hf1 hbW)
    rw [HA0.out]
    simp only [VF2, List.foldr_cons, List.foldr_nil, Act.put, List.setIfInBounds_toArray, List.set_cons_succ, List.set_cons_zero]
    clear hf0 hf1 hbW hW hall HA0 so8 so3 hsz
    obtain ⟨hwp, hbp⟩ := HW.out
    have HWP := Lib.hid hwp
    clear HW hwp
    replace c3 := hbp.cell c3
    replace cgq := hbp.cell cgq
    replace d0q := hbp.cell d0q
    replace d1q := hbp.cell d1q
    replace d2q := hbp.cell d2q
    have HBC := Lib.hid hbp; clear hbp hip hiq d0p d1p d2p cgp j0p j1p hlp hcp
    go_upto_region 3 with (fail)
    refine act_name (fun a0 ha0 => ?_)
    have so8 : a0.eval (.tmp 8) = ptr f := by rw [ha0]; rfl
    have so4 : a0.eval (.tmp 4) = .pointer (some ⟨Hq, 0, none⟩) := by rw [ha0, hHq]; rfl
    have hsz : a0.tmps.size = 49 := by rw [ha0]; rfl
    have HA0 := Lib.hid ha0; clear ha0
    refine region_obs3 (fun D a' W => ∃ (bq : Nat), a' = frC a0 D (VF3 f ga n cv Hq iq gq lq cq bq) ∧ WG wc (VF3_F wc.heap.size gq lq cq bq) D W) (by kernel_rfl) (by kernel_rfl) ⟨0, (frC_none _ _).symm, WG.start _ (by simp [VF3_F])⟩ ?_ ?_
    · refine ⟨?_, ?_, ?_, ?_, ?_, ?_, ?_, ?_, ?_, ?_, ?_, ?_, ?_, ?_, ?_, ?_, ?_, trivial⟩
      · rintro D _ W hD hcl hdeps ⟨bq, rfl, hW⟩
        have e8 := ev_get ((frC_out (a0 := a0) (D := D) (VF3_not8 f ga n cv Hq iq gq lq cq bq)).trans so8)
        refine ob_val rfl (v := ptr f) (by simp [execOp, go_sem, e8]) ⟨bq, frC_put hD (by simp [VF3]) (VF3_nd _ _ _ _ _ _ _ _ _ _) (VF3_nd' _ _ _ _ _ _ _ _ _ _), hW.step (VF3_st _ _ _ _ _) (Bel.refl W) (by simp [VF3_F])⟩
      · rintro D _ W hD hcl hdeps ⟨bq, rfl, hW⟩
        have hd0 : D 0 = true := hdeps ⟨0, .data⟩ (by simp) rfl
        have e28 := ev_get (frC_in (v := ptr f) hd0 (show 28 < a0.tmps.size by rw [hsz]; decide) (vs := VF3 f ga n cv Hq iq gq lq cq bq) (by simp [VF3]) (VF3_nd _ _ _ _ _ _ _ _ _ _))
        refine ob_val rfl (v := ptr f) (by simp [execOp, go_sem, e28]) ⟨bq, frC_put hD (by simp [VF3]) (VF3_nd _ _ _ _ _ _ _ _ _ _) (VF3_nd' _ _ _ _ _ _ _ _ _ _), hW.step (VF3_st _ _ _ _ _) (Bel.refl W) (by simp [VF3_F])⟩
      · rintro D _ W hD hcl hdeps ⟨bq, rfl, hW⟩
        have hd1 : D 1 = true := hdeps ⟨1, .data⟩ (by simp) rfl
        have e29 := ev_get (frC_in (v := ptr f) hd1 (show 29 < a0.tmps.size by rw [hsz]; decide) (vs := VF3 f ga n cv Hq iq gq lq cq bq) (by simp [VF3]) (VF3_nd _ _ _ _ _ _ _ _ _ _))
        refine ob_val rfl (v := .pointer (some ⟨f, 3, none⟩)) (by simp [execOp, go_sem, e29]) ⟨bq, frC_put hD (by simp [VF3]) (VF3_nd _ _ _ _ _ _ _ _ _ _) (VF3_nd' _ _ _ _ _ _ _ _ _ _), hW.step (VF3_st _ _ _ _ _) (Bel.refl W) (by simp [VF3_F])⟩
      · rintro D _ W hD hcl hdeps ⟨bq, rfl, hW⟩
        have hd2 : D 2 = true := hdeps ⟨2, .data⟩ (by simp) rfl
        have e30 := ev_get (frC_in (v := .pointer (some ⟨f, 3, none⟩)) hd2 (show 30 < a0.tmps.size by rw [hsz]; decide) (vs := VF3 f ga n cv Hq iq gq lq cq bq) (by simp [VF3]) (VF3_nd _ _ _ _ _ _ _ _ _ _))
        have z0 := hW.bel.cell c3
        refine ob_val rfl (v := .slice (some ⟨ga, 0, none⟩) n cv) (by simp [execOp, go_sem, e30, z0]) ⟨bq, frC_put hD (by simp [VF3]) (VF3_nd _ _ _ _ _ _ _ _ _ _) (VF3_nd' _ _ _ _ _ _ _ _ _ _), hW.step (VF3_st _ _ _ _ _) (Bel.refl W) (by simp [VF3_F])⟩
      · rintro D _ W hD hcl hdeps ⟨bq, rfl, hW⟩
        have e4 := ev_get ((frC_out (a0 := a0) (D := D) (VF3_not4 f ga n cv Hq iq gq lq cq bq)).trans so4)
        refine ob_val rfl (v := .pointer (some ⟨Hq, 0, none⟩)) (by simp [execOp, go_sem, e4]) ⟨bq, frC_put hD (by simp [VF3]) (VF3_nd _ _ _ _ _ _ _ _ _ _) (VF3_nd' _ _ _ _ _ _ _ _ _ _), hW.step (VF3_st _ _ _ _ _) (Bel.refl W) (by simp [VF3_F])⟩
      · rintro D _ W hD hcl hdeps ⟨bq, rfl, hW⟩
        have hd4 : D 4 = true := hdeps ⟨4, .data⟩ (by simp) rfl
        have e32 := ev_get (frC_in (v := .pointer (some ⟨Hq, 0, none⟩)) hd4 (show 32 < a0.tmps.size by rw [hsz]; decide) (vs := VF3 f ga n cv Hq iq gq lq cq bq) (by simp [VF3]) (VF3_nd _ _ _ _ _ _ _ _ _ _))
        have z0 := hW.bel.cell d0q
        refine ob_val rfl (v := .int .i64 (iq : Int)) (by simp [execOp, go_sem, e32, z0]) ⟨bq, frC_put hD (by simp [VF3]) (VF3_nd _ _ _ _ _ _ _ _ _ _) (VF3_nd' _ _ _ _ _ _ _ _ _ _), hW.step (VF3_st _ _ _ _ _) (Bel.refl W) (by simp [VF3_F])⟩
      · rintro D _ W hD hcl hdeps ⟨bq, rfl, hW⟩
        have hd3 : D 3 = true := hdeps ⟨3, .data⟩ (by simp) rfl
        have e31 := ev_get (frC_in (v := .slice (some ⟨ga, 0, none⟩) n cv) hd3 (show 31 < a0.tmps.size by rw [hsz]; decide) (vs := VF3 f ga n cv Hq iq gq lq cq bq) (by simp [VF3]) (VF3_nd _ _ _ _ _ _ _ _ _ _))
        have hd5 : D 5 = true := hdeps ⟨5, .data⟩ (by simp) rfl
        have e33 := ev_get (frC_in (v := .int .i64 (iq : Int)) hd5 (show 33 < a0.tmps.size by rw [hsz]; decide) (vs := VF3 f ga n cv Hq iq gq lq cq bq) (by simp [VF3]) (VF3_nd _ _ _ _ _ _ _ _ _ _))
        refine ob_val rfl (v := .pointer (some ⟨ga, iq, none⟩)) (by simp [execOp, go_sem, e31, e33, j0q, j1q]) ⟨bq, frC_put hD (by simp [VF3]) (VF3_nd _ _ _ _ _ _ _ _ _ _) (VF3_nd' _ _ _ _ _ _ _ _ _ _), hW.step (VF3_st _ _ _ _ _) (Bel.refl W) (by simp [VF3_F])⟩
      · rintro D _ W hD hcl hdeps ⟨bq, rfl, hW⟩
        have hd6 : D 6 = true := hdeps ⟨6, .data⟩ (by simp) rfl
        have e34 := ev_get (frC_in (v := .pointer (some ⟨ga, iq, none⟩)) hd6 (show 34 < a0.tmps.size by rw [hsz]; decide) (vs := VF3 f ga n cv Hq iq gq lq cq bq) (by simp [VF3]) (VF3_nd _ _ _ _ _ _ _ _ _ _))
        have z0 := hW.bel.cell cgq
        refine ob_val rfl (v := ptr gq) (by simp [execOp, go_sem, e34, z0]) ⟨bq, frC_put hD (by simp [VF3]) (VF3_nd _ _ _ _ _ _ _ _ _ _) (VF3_nd' _ _ _ _ _ _ _ _ _ _), hW.step (VF3_st _ _ _ _ _) (Bel.refl W) (by simp [VF3_F])⟩
      · rintro D _ W hD hcl hdeps ⟨bq, rfl, hW⟩
        have e4 := ev_get ((frC_out (a0 := a0) (D := D) (VF3_not4 f ga n cv Hq iq gq lq cq bq)).trans so4)
        refine ob_val rfl (v := .pointer (some ⟨Hq, 1, none⟩)) (by simp [execOp, go_sem, e4]) ⟨bq, frC_put hD (by simp [VF3]) (VF3_nd _ _ _ _ _ _ _ _ _ _) (VF3_nd' _ _ _ _ _ _ _ _ _ _), hW.step (VF3_st _ _ _ _ _) (Bel.refl W) (by simp [VF3_F])⟩
      · rintro D _ W hD hcl hdeps ⟨bq, rfl, hW⟩
        have hd8 : D 8 = true := hdeps ⟨8, .data⟩ (by simp) rfl
        have e36 := ev_get (frC_in (v := .pointer (some ⟨Hq, 1, none⟩)) hd8 (show 36 < a0.tmps.size by rw [hsz]; decide) (vs := VF3 f ga n cv Hq iq gq lq cq bq) (by simp [VF3]) (VF3_nd _ _ _ _ _ _ _ _ _ _))
        have z0 := hW.bel.cell d1q
        refine ob_val rfl (v := .int .i64 lq) (by simp [execOp, go_sem, e36, z0]) ⟨bq, frC_put hD (by simp [VF3]) (VF3_nd _ _ _ _ _ _ _ _ _ _) (VF3_nd' _ _ _ _ _ _ _ _ _ _), hW.step (VF3_st _ _ _ _ _) (Bel.refl W) (by simp [VF3_F])⟩
      · rintro D _ W hD hcl hdeps ⟨bq, rfl, hW⟩
        have hd9 : D 9 = true := hdeps ⟨9, .data⟩ (by simp) rfl
        have e37 := ev_get (frC_in (v := .int .i64 lq) hd9 (show 37 < a0.tmps.size by rw [hsz]; decide) (vs := VF3 f ga n cv Hq iq gq lq cq bq) (by simp [VF3]) (VF3_nd _ _ _ _ _ _ _ _ _ _))
        refine ob_val rfl (v := .int .u64 lq) (by simp [execOp, go_sem, e37, hlq]) ⟨bq, frC_put hD (by simp [VF3]) (VF3_nd _ _ _ _ _ _ _ _ _ _) (VF3_nd' _ _ _ _ _ _ _ _ _ _), hW.step (VF3_st _ _ _ _ _) (Bel.refl W) (by simp [VF3_F])⟩
      · rintro D _ W hD hcl hdeps ⟨bq, rfl, hW⟩
        have e4 := ev_get ((frC_out (a0 := a0) (D := D) (VF3_not4 f ga n cv Hq iq gq lq cq bq)).trans so4)
        refine ob_val rfl (v := .pointer (some ⟨Hq, 2, none⟩)) (by simp [execOp, go_sem, e4]) ⟨bq, frC_put hD (by simp [VF3]) (VF3_nd _ _ _ _ _ _ _ _ _ _) (VF3_nd' _ _ _ _ _ _ _ _ _ _), hW.step (VF3_st _ _ _ _ _) (Bel.refl W) (by simp [VF3_F])⟩
      · rintro D _ W hD hcl hdeps ⟨bq, rfl, hW⟩
        have hd11 : D 11 = true := hdeps ⟨11, .data⟩ (by simp) rfl
        have e39 := ev_get (frC_in (v := .pointer (some ⟨Hq, 2, none⟩)) hd11 (show 39 < a0.tmps.size by rw [hsz]; decide) (vs := VF3 f ga n cv Hq iq gq lq cq bq) (by simp [VF3]) (VF3_nd _ _ _ _ _ _ _ _ _ _))
        have z0 := hW.bel.cell d2q
        refine ob_val rfl (v := .int .i64 cq) (by simp [execOp, go_sem, e39, z0]) ⟨bq, frC_put hD (by simp [VF3]) (VF3_nd _ _ _ _ _ _ _ _ _ _) (VF3_nd' _ _ _ _ _ _ _ _ _ _), hW.step (VF3_st _ _ _ _ _) (Bel.refl W) (by simp [VF3_F])⟩
      · rintro D _ W hD hcl hdeps ⟨bq, rfl, hW⟩
        have hd12 : D 12 = true := hdeps ⟨12, .data⟩ (by simp) rfl
        have e40 := ev_get (frC_in (v := .int .i64 cq) hd12 (show 40 < a0.tmps.size by rw [hsz]; decide) (vs := VF3 f ga n cv Hq iq gq lq cq bq) (by simp [VF3]) (VF3_nd _ _ _ _ _ _ _ _ _ _))
        refine ob_val rfl (v := .int .u64 cq) (by simp [execOp, go_sem, e40, hcq]) ⟨bq, frC_put hD (by simp [VF3]) (VF3_nd _ _ _ _ _ _ _ _ _ _) (VF3_nd' _ _ _ _ _ _ _ _ _ _), hW.step (VF3_st _ _ _ _ _) (Bel.refl W) (by simp [VF3_F])⟩
      · rintro D _ W hD hcl hdeps ⟨bq, rfl, hW⟩
        have hd7 : D 7 = true := hdeps ⟨7, .data⟩ (by simp) rfl
        have e35 := ev_get (frC_in (v := ptr gq) hd7 (show 35 < a0.tmps.size by rw [hsz]; decide) (vs := VF3 f ga n cv Hq iq gq lq cq bq) (by simp [VF3]) (VF3_nd _ _ _ _ _ _ _ _ _ _))
        have hd10 : D 10 = true := hdeps ⟨10, .data⟩ (by simp) rfl
        have e38 := ev_get (frC_in (v := .int .u64 lq) hd10 (show 38 < a0.tmps.size by rw [hsz]; decide) (vs := VF3 f ga n cv Hq iq gq lq cq bq) (by simp [VF3]) (VF3_nd _ _ _ _ _ _ _ _ _ _))
        have hd13 : D 13 = true := hdeps ⟨13, .data⟩ (by simp) rfl
        have e41 := ev_get (frC_in (v := .int .u64 cq) hd13 (show 41 < a0.tmps.size by rw [hsz]; decide) (vs := VF3 f ga n cv Hq iq gq lq cq bq) (by simp [VF3]) (VF3_nd _ _ _ _ _ _ _ _ _ _))
        refine ob_enter rfl (v := .agg #[ptr gq, .int .u32 (lq * 4096 + cq * 16)]) (f := 32) (args := #[ptr gq, .int .u64 lq, .int .u64 cq]) (w' := W) (by simp [go_sem, e35, e38, e41]) ((makePos_any (ptr gq) lq cq W ⟨_, rfl⟩ (by omega) (by omega) (by omega) (by omega)).mono ?_)
        rintro e w2 ⟨rfl, hb2⟩
        exact ⟨rfl, bq, frC_put hD (by simp [VF3]) (VF3_nd _ _ _ _ _ _ _ _ _ _) (VF3_nd' _ _ _ _ _ _ _ _ _ _), hW.step (VF3_st _ _ _ _ _) hb2 (by simp [VF3_F])⟩
      · rintro D _ W hD hcl hdeps ⟨bq, rfl, hW⟩
        refine ob_val rfl (v := .pointer (some ⟨W.heap.size, 0, none⟩)) (w' := W.alloc (.cells #[.pointer none, .int .u32 0] 65)) (by simp [execOp, go_sem]) ?_
        have hb2 : Bel W (W.alloc (.cells #[.pointer none, .int .u32 0] 65)) := (Bel.refl W).alloc _
        have hn16 : D 16 = false := by cases h : D 16; rfl; have := hcl 16 _ rfl h ⟨15, .data⟩ (by simp) rfl; rw [hD] at this; cases this
        refine ⟨W.heap.size, by rw [show frC a0 D (VF3 f ga n cv Hq iq gq lq cq bq) = frC a0 D (VF3 f ga n cv Hq iq gq lq cq (W.heap.size)) from by simp only [VF3, frC, hD, Bool.false_eq_true, if_false]]; exact frC_put hD (by simp [VF3]) (VF3_nd _ _ _ _ _ _ _ _ _ _) (VF3_nd' _ _ _ _ _ _ _ _ _ _), ?_⟩
        refine hW.new (VF3_st _ _ _ _ _) hb2 ?_
        intro f hf
        simp only [VF3_F, List.mem_cons, List.not_mem_nil, or_false] at hf
        rcases hf with rfl | rfl
        · exact .inl ⟨by simp, fun hg => ⟨hW.bel.size, _, _, Blk.new W _ [_, _]⟩⟩
        · exact .inl ⟨by simp, fun hg => absurd (hg 16 (by simp)) (by simp [hn16])⟩
      · rintro D _ W hD hcl hdeps ⟨bq, rfl, hW⟩
        have hd15 : D 15 = true := hdeps ⟨15, .data⟩ (by simp) rfl
        have e10 := ev_get (frC_in (v := .pointer (some ⟨bq, 0, none⟩)) hd15 (show 10 < a0.tmps.size by rw [hsz]; decide) (vs := VF3 f ga n cv Hq iq gq lq cq bq) (by simp [VF3]) (VF3_nd _ _ _ _ _ _ _ _ _ _))
        have hd14 : D 14 = true := hdeps ⟨14, .data⟩ (by simp) rfl
        have e42 := ev_get (frC_in (v := .agg #[ptr gq, .int .u32 (lq * 4096 + cq * 16)]) hd14 (show 42 < a0.tmps.size by rw [hsz]; decide) (vs := VF3 f ga n cv Hq iq gq lq cq bq) (by simp [VF3]) (VF3_nd _ _ _ _ _ _ _ _ _ _))
        obtain ⟨hle, u0, u1, hB⟩ := hW.get (k := 0) rfl (fun i hi => by simp at hi; subst hi; exact hd15)
        have y0 : W.cell? ⟨bq, 0, none⟩ = some u0 := hB.cell 0
        have y1 : W.cell? ⟨bq, 1, none⟩ = some u1 := hB.cell 1
        have z0 := hB.frozen 0
        have z1 := hB.frozen 1
        refine ob_skip rfl (w' := (W.setCell ⟨bq, 0, none⟩ (ptr gq)).setCell ⟨bq, 1, none⟩ (.int .u32 (lq * 4096 + cq * 16))) (by simp [execOp, go_sem, e10, e42, y0, y1, z0, z1]) ⟨bq, ?_, ?_⟩
        · rw [frC_also_out (by rw [VF3_idx]; decide)]
          rfl
        · refine ⟨bel_setI (bel_setI hW.bel (p := ⟨bq, 0, none⟩) hle) (p := ⟨bq, 1, none⟩) hle, fun x hx _ => ?_⟩
          simp only [VF3_F, List.mem_cons, List.not_mem_nil, or_false] at hx
          rcases hx with rfl | rfl
          · exact ⟨hle, _, _, (hB.set 0 (ptr gq)).set 1 (.int .u32 (lq * 4096 + cq * 16))⟩
          · exact (hB.set 0 (ptr gq)).set 1 (.int .u32 (lq * 4096 + cq * 16))
    · rintro D _ wd hall ⟨bq, rfl, hW⟩
      have hf0 := hW.get (k := 0) rfl (fun i hi => hall i (by simp at hi; show i < 17; omega))
      have hf1 := hW.get (k := 1) rfl (fun i hi => hall i (by simp at hi; show i < 17; omega))
      have hbW := hW.bel
      rw [frC_all (fun e he => hall e.1 (by have h1 : e.1 ∈ (VF3 f ga n cv Hq iq gq lq cq bq).map (·.1) := List.mem_map.2 ⟨e, he, rfl⟩; rw [VF3_idx] at h1; simp at h1; show e.1 < 17; omega))]
      have HW := Lib.hid (And.intro hf1 (And.intro (HWP.out.bel hbW) (And.intro ((HGP.out.1.bel HBC.out).bel hbW) (And.intro ((HGP.out.2.bel HBC.out).bel hbW) ((HBW.out.trans HBC.out).trans hbW)))))
      rw [HA0.out]
      simp only [VF3, List.foldr_cons, List.foldr_nil, Act.put, List.setIfInBounds_toArray, List.set_cons_succ, List.set_cons_zero]
      clear hf0 hf1 hbW hW hall HA0 so8 so4 hsz
      obtain ⟨x1, x2, x3, x4, x5⟩ := HW.out
      have p0 : wd.cell? ⟨bp, 0, none⟩ = some (ptr gp) := x2.cell 0
      have p1 : wd.cell? ⟨bp, 1, none⟩ = some (.int .u32 (lp * 4096 + cp * 16)) := x2.cell 1
      have q0 : wd.cell? ⟨bq, 0, none⟩ = some (ptr gq) := x1.cell 0
      have q1 : wd.cell? ⟨bq, 1, none⟩ = some (.int .u32 (lq * 4096 + cq * 16)) := x1.cell 1
      have HG := Lib.hid (And.intro x3 x4)
      have HB := Lib.hid x5
      clear x1 x2 x3 x4 x5 HW HWP HGP c3 cgq d0q d1q d2q j0q j1q hlq hcq HBC HBW h0 h1 h2 h3 k0 k1 k2 k3
      go_upto_region 4 with (fail)
      obtain ⟨p0, p1, q0, q1⟩ := And.intro (Later.cell p0) (And.intro (Later.cell p1) (And.intro (Later.cell q0) (Later.cell q1)))
      refine region_later (by kernel_rfl) (by kernel_rfl) ?_
      repeat (go_big_quiet_step (first
        | (go_at_call 33; exact call_later _ (fullBefore_any gp gq (lp * 4096 + cp * 16) (lq * 4096 + cq * 16) (-1) (-1) np nq _ (HG.out.1.bel (Later.bel _)) (HG.out.2.bel (Later.bel _))))
        | (go_at_call 34; exact call_later _ (fullAfter_any gp gq (lp * 4096 + cp * 16) (lq * 4096 + cq * 16) (-1) (-1) np nq _ (HG.out.1.bel (Later.bel _)) (HG.out.2.bel (Later.bel _))))))
      refine wpQuiet_nil ?_
      intro _ hw'
      obtain ⟨z, hz⟩ := hw'
      subst hz
      have hbz := Lib.hid (HB.out.trans z.bel)
      clear p0 p1 q0 q1 HG HB
      generalize z.at = W2 at hbz ⊢
      go_wp2
      go_returns
      exact ⟨rfl, hbz.out⟩
end Go.Proofs.Ytbekmpmfkblgnaa
