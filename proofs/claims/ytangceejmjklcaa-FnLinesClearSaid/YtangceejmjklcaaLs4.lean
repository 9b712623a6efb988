/- spec.PutLine. -/
import Derived.Test.YtangceejmjklcaaLs3
namespace Go.Proofs.Ytangceejmjklcaa
open Go.RowKit Go.BigFrame

/-- The worlds of PutLine's statement. -/
structure PI (w0 : World) (f n x : Int) (m : Nat) (xs : List Value) (D : Nat → Bool) (u : Value) (b : Nat) (v : Value) (W : World) : Prop where
  bel : Bel w0 W
  row : D 5 = true → D 8 = false → W.ownsRow w0.heap.size 37 3 u m xs
  blk : D 7 = true → D 8 = false → Blk W b 37 [.int .i64 f, .int .i64 n, .int .i64 x]
  new : D 8 = true → W.ownsRow w0.heap.size 37 3 v (m + 1) (xs ++ [.int .i64 f, .int .i64 n, .int .i64 x])
section
variable {w0 W W' : World} {f n x : Int} {m b : Nat} {xs : List Value} {u v : Value} {D : Nat → Bool}
theorem PI.quiet (h : PI w0 f n x m xs D u b v W) {k : Nat} (hk : k ∉ [5, 7, 8]) : PI w0 f n x m xs (also D k) u b v W := by
  simp only [List.mem_cons, List.not_mem_nil, or_false, not_or] at hk
  obtain ⟨h5, h7, h8⟩ := hk
  refine ⟨h.bel, ?_, ?_, ?_⟩
  · rw [also_ne (Ne.symm h5), also_ne (Ne.symm h8)]; exact h.row
  · rw [also_ne (Ne.symm h7), also_ne (Ne.symm h8)]; exact h.blk
  · rw [also_ne (Ne.symm h8)]; exact h.new
theorem PI.call (h : PI w0 f n x m xs D u b v W) {u' : Value} (ho : W'.ownsRow W.heap.size 37 3 u' m xs) (hb : Bel W W') : PI w0 f n x m xs (also D 5) u' b v W' := by
  have hz := h.bel.size
  refine ⟨h.bel.trans hb, fun _ _ => own_base ho (fun k hk => by have := (ho.lt k hk).1; omega), ?_, ?_⟩
  · rw [also_ne (by decide), also_ne (by decide)]; exact fun h1 h2 => (h.blk h1 h2).bel hb
  · rw [also_ne (by decide)]; exact fun h1 => own_bel (h.new h1) hb
theorem PI.box (h : PI w0 f n x m xs D u b v W) : PI w0 f n x m xs (also D 7) u W.heap.size v (W.alloc (.cells #[.int .i64 f, .int .i64 n, .int .i64 x] 37)) := by
  have hb : Bel W (W.alloc (.cells #[.int .i64 f, .int .i64 n, .int .i64 x] 37)) := (Bel.refl W).alloc _
  refine ⟨h.bel.trans hb, ?_, fun _ _ => Blk.new W _ [_, _, _], ?_⟩
  · rw [also_ne (by decide), also_ne (by decide)]; exact fun h1 h2 => own_bel (h.row h1 h2) hb
  · rw [also_ne (by decide)]; exact fun h1 => own_bel (h.new h1) hb
theorem PI.ap (h : PI w0 f n x m xs D u b v W) (h5 : D 5 = true) (h8 : D 8 = false) {v' : Value} (ho : W'.ownsRow w0.heap.size 37 3 v' (m + 1) (xs ++ [.int .i64 f, .int .i64 n, .int .i64 x])) (hg : W.grownBy W' u.ownBlock) : PI w0 f n x m xs (also D 8) u b v' W' := by
  refine ⟨h.bel.grown hg (fun q hq => ((h.row h5 h8).lt q hq).1), ?_, ?_, fun _ => ho⟩
  · rw [also_self]; exact fun _ h => by cases h
  · rw [also_self]; exact fun _ h => by cases h
end
/-- The values of the operations. -/
def VP1 (bx : Nat) (v0 : Value) (f n x : Int) (u : Value) (b : Nat) (v : Value) : List (Nat × Nat × Value) := [(0, 5, v0), (1, 6, .pointer (some ⟨bx, 0, none⟩)), (2, 7, .int .i64 f), (3, 8, .pointer (some ⟨bx, 1, none⟩)), (4, 9, .int .i64 n), (5, 10, u), (6, 11, .agg #[.int .i64 f, .int .i64 n, .int .i64 x]), (7, 12, .slice (some ⟨b, 0, none⟩) 1 1), (8, 13, v), (9, 4, v)]
theorem VP1_slots (bx : Nat) (v0 : Value) (f n x : Int) (u : Value) (b : Nat) (v : Value) : (VP1 bx v0 f n x u b v).map (·.2.1) = [5, 6, 7, 8, 9, 10, 11, 12, 13, 4] := rfl
theorem VP1_idx (bx : Nat) (v0 : Value) (f n x : Int) (u : Value) (b : Nat) (v : Value) : (VP1 bx v0 f n x u b v).map (·.1) = [0, 1, 2, 3, 4, 5, 6, 7, 8, 9] := rfl
theorem VP1_nd (bx : Nat) (v0 : Value) (f n x : Int) (u : Value) (b : Nat) (v : Value) : ((VP1 bx v0 f n x u b v).map (·.2.1)).Nodup := by rw [VP1_slots]; decide
theorem VP1_nd' (bx : Nat) (v0 : Value) (f n x : Int) (u : Value) (b : Nat) (v : Value) : ((VP1 bx v0 f n x u b v).map (·.1)).Nodup := by rw [VP1_idx]; decide
theorem VP1_not0 (bx : Nat) (v0 : Value) (f n x : Int) (u : Value) (b : Nat) (v : Value) : 0 ∉ (VP1 bx v0 f n x u b v).map (·.2.1) := by rw [VP1_slots]; decide
theorem VP1_not3 (bx : Nat) (v0 : Value) (f n x : Int) (u : Value) (b : Nat) (v : Value) : 3 ∉ (VP1 bx v0 f n x u b v).map (·.2.1) := by rw [VP1_slots]; decide

set_option maxRecDepth 100000 in
set_option maxHeartbeats 4000000 in
theorem putLine_any (v0 : Value) (l : List Pl.LnE) (f n x : Int) (w : World) (h : LnS w v0 l) (hn : l.length ≤ 1000000) :
    Calls Try.prog 20 #[v0, .agg #[.int .i64 f, .int .i64 n, .int .i64 x]] w fun e w' => ∃ u, e = .returned u ∧ w'.ownsRow w.heap.size 37 3 u (Pl.putL l ⟨f, n, x⟩).length (lnCells (Pl.putL l ⟨f, n, x⟩)) ∧ Bel w w' := by
  have hba : Bel w (w.alloc (.cells #[.int .i64 f, .int .i64 n, .int .i64 x] 37)) := (Bel.refl w).alloc _
  have hBx := Blk.new w 37 [.int .i64 f, .int .i64 n, .int .i64 x]
  change Blk (w.alloc (.cells #[.int .i64 f, .int .i64 n, .int .i64 x] 37)) _ _ _ at hBx
  have HV := Lib.hid (h.bel hba)
  have HBA := Lib.hid hba
  clear h hba
  obtain ⟨m, hm⟩ : ∃ m, m = (Pl.withoutL l f n).length := ⟨_, rfl⟩
  obtain ⟨xs, hxs⟩ : ∃ xs, xs = lnCells (Pl.withoutL l f n) := ⟨_, rfl⟩
  have hml : m ≤ 1000000 := by have := Pl.withoutL_length l f n; omega
  have HM := Lib.hid hm
  have HXS := Lib.hid hxs
  clear hm hxs
  go_enter Try.func20, Try.ntmps20
  go_upto_region 1 with (fail)
  generalize w.alloc (.cells #[.int .i64 f, .int .i64 n, .int .i64 x] 37) = wb at HV HBA hBx ⊢
  generalize hbx : w.heap.size = bx at hBx ⊢
  have HBX := Lib.hid hbx; clear hbx
  have y0 : wb.cell? ⟨bx, 0, none⟩ = some (.int .i64 f) := hBx.cell 0
  have y1 : wb.cell? ⟨bx, 1, none⟩ = some (.int .i64 n) := hBx.cell 1
  have y2 : wb.cell? ⟨bx, 2, none⟩ = some (.int .i64 x) := hBx.cell 2
  have HEI : Hid (PI wb f n x m xs (fun _ => false) (.bool false) 0 (.bool false) wb.drew) := Lib.hid ⟨(Bel.refl wb).drew, (fun h => by cases h), (fun h => by cases h), (fun h => by cases h)⟩
  refine act_name (fun a0 ha0 => ?_)
  have so0 : a0.eval (.tmp 0) = v0 := by rw [ha0]; rfl
  have so3 : a0.eval (.tmp 3) = .pointer (some ⟨bx, 0, none⟩) := by rw [ha0]; rfl
  have hsz : a0.tmps.size = 14 := by rw [ha0]; rfl
  have HA0 := Lib.hid ha0; clear ha0
  refine region_obs3 (fun D a' W => ∃ (u : Value) (b : Nat) (v : Value), a' = frC a0 D (VP1 bx v0 f n x u b v) ∧ PI wb f n x m xs D u b v W) (by kernel_rfl) (by kernel_rfl) ⟨.bool false, 0, .bool false, (frC_none _ _).symm, HEI.out⟩ ?_ ?_
  · refine ⟨?_, ?_, ?_, ?_, ?_, ?_, ?_, ?_, ?_, ?_, trivial⟩
    · rintro D _ W hD hcl hdeps ⟨u, b, v, rfl, hW⟩
      have e0 := ev_get ((frC_out (a0 := a0) (D := D) (VP1_not0 bx v0 f n x u b v)).trans so0)
      refine ob_val rfl (v := v0) (by simp [execOp, go_sem, e0]) ⟨u, b, v, frC_put hD (by simp [VP1]) (VP1_nd _ _ _ _ _ _ _ _) (VP1_nd' _ _ _ _ _ _ _ _), hW.quiet (by decide)⟩
    · rintro D _ W hD hcl hdeps ⟨u, b, v, rfl, hW⟩
      have e3 := ev_get ((frC_out (a0 := a0) (D := D) (VP1_not3 bx v0 f n x u b v)).trans so3)
      refine ob_val rfl (v := .pointer (some ⟨bx, 0, none⟩)) (by simp [execOp, go_sem, e3]) ⟨u, b, v, frC_put hD (by simp [VP1]) (VP1_nd _ _ _ _ _ _ _ _) (VP1_nd' _ _ _ _ _ _ _ _), hW.quiet (by decide)⟩
    · rintro D _ W hD hcl hdeps ⟨u, b, v, rfl, hW⟩
      have hd1 : D 1 = true := hdeps ⟨1, .data⟩ (by simp) rfl
      have e6 := ev_get (frC_in (v := .pointer (some ⟨bx, 0, none⟩)) hd1 (show 6 < a0.tmps.size by rw [hsz]; decide) (vs := VP1 bx v0 f n x u b v) (by simp [VP1]) (VP1_nd _ _ _ _ _ _ _ _))
      have z0 : W.cell? ⟨bx, 0, none⟩ = some (.int .i64 f) := hW.bel.cell y0
      refine ob_val rfl (v := .int .i64 f) (by simp [execOp, go_sem, e6, z0]) ⟨u, b, v, frC_put hD (by simp [VP1]) (VP1_nd _ _ _ _ _ _ _ _) (VP1_nd' _ _ _ _ _ _ _ _), hW.quiet (by decide)⟩
    · rintro D _ W hD hcl hdeps ⟨u, b, v, rfl, hW⟩
      have e3 := ev_get ((frC_out (a0 := a0) (D := D) (VP1_not3 bx v0 f n x u b v)).trans so3)
      refine ob_val rfl (v := .pointer (some ⟨bx, 1, none⟩)) (by simp [execOp, go_sem, e3]) ⟨u, b, v, frC_put hD (by simp [VP1]) (VP1_nd _ _ _ _ _ _ _ _) (VP1_nd' _ _ _ _ _ _ _ _), hW.quiet (by decide)⟩
    · rintro D _ W hD hcl hdeps ⟨u, b, v, rfl, hW⟩
      have hd3 : D 3 = true := hdeps ⟨3, .data⟩ (by simp) rfl
      have e8 := ev_get (frC_in (v := .pointer (some ⟨bx, 1, none⟩)) hd3 (show 8 < a0.tmps.size by rw [hsz]; decide) (vs := VP1 bx v0 f n x u b v) (by simp [VP1]) (VP1_nd _ _ _ _ _ _ _ _))
      have z1 : W.cell? ⟨bx, 1, none⟩ = some (.int .i64 n) := hW.bel.cell y1
      refine ob_val rfl (v := .int .i64 n) (by simp [execOp, go_sem, e8, z1]) ⟨u, b, v, frC_put hD (by simp [VP1]) (VP1_nd _ _ _ _ _ _ _ _) (VP1_nd' _ _ _ _ _ _ _ _), hW.quiet (by decide)⟩
    · rintro D _ W hD hcl hdeps ⟨u, b, v, rfl, hW⟩
      have hd0 : D 0 = true := hdeps ⟨0, .data⟩ (by simp) rfl
      have e5 := ev_get (frC_in (v := v0) hd0 (show 5 < a0.tmps.size by rw [hsz]; decide) (vs := VP1 bx v0 f n x u b v) (by simp [VP1]) (VP1_nd _ _ _ _ _ _ _ _))
      have hd2 : D 2 = true := hdeps ⟨2, .data⟩ (by simp) rfl
      have e7 := ev_get (frC_in (v := .int .i64 f) hd2 (show 7 < a0.tmps.size by rw [hsz]; decide) (vs := VP1 bx v0 f n x u b v) (by simp [VP1]) (VP1_nd _ _ _ _ _ _ _ _))
      have hd4 : D 4 = true := hdeps ⟨4, .data⟩ (by simp) rfl
      have e9 := ev_get (frC_in (v := .int .i64 n) hd4 (show 9 < a0.tmps.size by rw [hsz]; decide) (vs := VP1 bx v0 f n x u b v) (by simp [VP1]) (VP1_nd _ _ _ _ _ _ _ _))
      refine ob_enter' rfl (f := 21) (args := #[v0, .int .i64 f, .int .i64 n]) (w' := W) (by simp [go_sem, e5, e7, e9]) ((withoutLine_any v0 l f n W (HV.out.bel hW.bel) hn).mono ?_)
      rintro e w2 ⟨u5, rfl, ho5, hb5⟩
      refine ⟨u5, rfl, u5, b, v, by rw [show frC a0 D (VP1 bx v0 f n x u b v) = frC a0 D (VP1 bx v0 f n x (u5) b v) from by simp only [VP1, frC, hD, Bool.false_eq_true, if_false]]; exact frC_put hD (by simp [VP1]) (VP1_nd _ _ _ _ _ _ _ _) (VP1_nd' _ _ _ _ _ _ _ _), ?_⟩
      exact hW.call (by rw [HM.out, HXS.out]; exact ho5) hb5
    · rintro D _ W hD hcl hdeps ⟨u, b, v, rfl, hW⟩
      have e3 := ev_get ((frC_out (a0 := a0) (D := D) (VP1_not3 bx v0 f n x u b v)).trans so3)
      have z0 : W.cell? ⟨bx, 0, none⟩ = some (.int .i64 f) := hW.bel.cell y0
      have z1 : W.cell? ⟨bx, 1, none⟩ = some (.int .i64 n) := hW.bel.cell y1
      have z2 : W.cell? ⟨bx, 2, none⟩ = some (.int .i64 x) := hW.bel.cell y2
      refine ob_val rfl (v := .agg #[.int .i64 f, .int .i64 n, .int .i64 x]) (by simp [execOp, go_sem, e3, z0, z1, z2]) ⟨u, b, v, frC_put hD (by simp [VP1]) (VP1_nd _ _ _ _ _ _ _ _) (VP1_nd' _ _ _ _ _ _ _ _), hW.quiet (by decide)⟩
    · rintro D _ W hD hcl hdeps ⟨u, b, v, rfl, hW⟩
      have hd6 : D 6 = true := hdeps ⟨6, .data⟩ (by simp) rfl
      have e11 := ev_get (frC_in (v := .agg #[.int .i64 f, .int .i64 n, .int .i64 x]) hd6 (show 11 < a0.tmps.size by rw [hsz]; decide) (vs := VP1 bx v0 f n x u b v) (by simp [VP1]) (VP1_nd _ _ _ _ _ _ _ _))
      refine ob_val rfl (v := .slice (some ⟨W.heap.size, 0, none⟩) 1 1) (w' := W.alloc (.cells #[.int .i64 f, .int .i64 n, .int .i64 x] 37)) (by simp [execOp, go_sem, e11]) ⟨u, W.heap.size, v, by rw [show frC a0 D (VP1 bx v0 f n x u b v) = frC a0 D (VP1 bx v0 f n x u (W.heap.size) v) from by simp only [VP1, frC, hD, Bool.false_eq_true, if_false]]; exact frC_put hD (by simp [VP1]) (VP1_nd _ _ _ _ _ _ _ _) (VP1_nd' _ _ _ _ _ _ _ _), hW.box⟩
    · rintro D _ W hD hcl hdeps ⟨u, b, v, rfl, hW⟩
      have hd5 : D 5 = true := hdeps ⟨5, .data⟩ (by simp) rfl
      have E10 := frC_in (v := u) hd5 (show 10 < a0.tmps.size by rw [hsz]; decide) (vs := VP1 bx v0 f n x u b v) (by simp [VP1]) (VP1_nd _ _ _ _ _ _ _ _)
      have hd7 : D 7 = true := hdeps ⟨7, .data⟩ (by simp) rfl
      have E12 := frC_in (v := .slice (some ⟨b, 0, none⟩) 1 1) hd7 (show 12 < a0.tmps.size by rw [hsz]; decide) (vs := VP1 bx v0 f n x u b v) (by simp [VP1]) (VP1_nd _ _ _ _ _ _ _ _)
      refine step_app elLn rfl (.tmp 10) (.tmp 12) rfl wb.heap.size u m xs E10 (hW.row hd5 hD) b [.int .i64 f, .int .i64 n, .int .i64 x] E12 (hW.blk hd7 hD) rfl (by simp [Value.oneCell']) (by omega) (by omega) hW.bel.size ?_
      intro g7 cap7 w7 ho7 hg7 _ _
      have hn9 : D 9 = false := by cases h : D 9; rfl; have := hcl 9 _ rfl h ⟨8, .data⟩ (by simp) rfl; rw [hD] at this; cases this
      exact ⟨u, b, .slice (some ⟨g7, 0, none⟩) (m + 1) cap7, by rw [show frC a0 D (VP1 bx v0 f n x u b v) = frC a0 D (VP1 bx v0 f n x u b (.slice (some ⟨g7, 0, none⟩) (m + 1) cap7)) from by simp only [VP1, frC, hD, hn9, Bool.false_eq_true, if_false]]; exact frC_put hD (by simp [VP1]) (VP1_nd _ _ _ _ _ _ _ _) (VP1_nd' _ _ _ _ _ _ _ _), hW.ap hd5 hD ho7 hg7⟩
    · rintro D _ W hD hcl hdeps ⟨u, b, v, rfl, hW⟩
      have hd8 : D 8 = true := hdeps ⟨8, .data⟩ (by simp) rfl
      have e13 := ev_get (frC_in (v := v) hd8 (show 13 < a0.tmps.size by rw [hsz]; decide) (vs := VP1 bx v0 f n x u b v) (by simp [VP1]) (VP1_nd _ _ _ _ _ _ _ _))
      refine ob_val rfl (v := v) (by simp [execOp, go_sem, e13]) ⟨u, b, v, frC_put hD (by simp [VP1]) (VP1_nd _ _ _ _ _ _ _ _) (VP1_nd' _ _ _ _ _ _ _ _), hW.quiet (by decide)⟩
  · rintro D _ W hall ⟨u, b, v, rfl, hW⟩
    rw [frC_all (fun e he => hall e.1 (by have h1 : e.1 ∈ (VP1 bx v0 f n x u b v).map (·.1) := List.mem_map.2 ⟨e, he, rfl⟩; rw [VP1_idx] at h1; simp at h1; show e.1 < 10; omega))]
    have HEN : Hid (W.ownsRow w.heap.size 37 3 v (Pl.putL l ⟨f, n, x⟩).length (lnCells (Pl.putL l ⟨f, n, x⟩)) ∧ Bel w W) := Lib.hid (by
      have h1 := hW.new (hall 8 (by decide))
      have hz := HBA.out.size
      refine ⟨own_base (own_eq h1 ?_ ?_) (fun k hk => by have := (h1.lt k hk).1; omega), HBA.out.trans hW.bel⟩
      · rw [HM.out]; simp [Pl.putL]
      · rw [HXS.out]; simp [Pl.putL, lnCells])
    obtain ⟨va, vc, rfl, _, _, _⟩ := own_form HEN.out.1
    rw [HA0.out]
    simp only [VP1, List.foldr_cons, List.foldr_nil, Act.put, List.setIfInBounds_toArray, List.set_cons_succ, List.set_cons_zero]
    clear hW hall HA0 so0 so3 hsz HEI y0 y1 y2 hBx
    go_wp2
    go_ret
    exact ⟨_, rfl, HEN.out⟩
end Go.Proofs.Ytangceejmjklcaa
