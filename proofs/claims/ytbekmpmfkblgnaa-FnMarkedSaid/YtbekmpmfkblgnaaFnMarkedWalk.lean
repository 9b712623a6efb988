/- The walk of FnMarked. -/
import Derived.Test.YtbekmpmfkblgnaaPosQ
import Derived.Test.YtbekmpmfkblgnaaInv3
import Derived.BigQuiet
namespace Go.Proofs.Ytbekmpmfkblgnaa
open Go.RowKit Go.BigFrame

/-- A slice value reads as cells. -/
def RowS (w : World) (v : Value) (n : Nat) (xs : List Value) : Prop := ∃ g cap, v = .slice (some ⟨g, 0, none⟩) n cap ∧ ∀ j u, xs[j]? = some u → w.cell? ⟨g, j, none⟩ = some u
theorem RowS.bel {w w' : World} {v : Value} {n : Nat} {xs : List Value} (h : RowS w v n xs) (hb : Bel w w') : RowS w' v n xs := by
  obtain ⟨g, cap, e, hc⟩ := h
  exact ⟨g, cap, e, fun j u hj => hb.cell (hc j u hj)⟩
theorem RowS.own {w : World} {base : Nat} {e : TypeId} {size n : Nat} {v : Value} {xs : List Value} (h : w.ownsRow base e size v (n + 1) xs) : RowS w v (n + 1) xs := by
  obtain ⟨a, c, rfl, _, _, hf⟩ := own_form h
  obtain ⟨g, rfl, hc⟩ := hf (by omega)
  exact ⟨g, c, rfl, hc⟩
theorem ents4 (w : World) (st lg : Int) : Ents (w.alloc (.cells #[.int .i64 st, .int .i64 0, .int .i64 4, .int .i64 lg, .int .i64 4, .int .i64 lg, .int .i64 st, .int .i64 0] 55)) (some ⟨w.heap.size, 0, none⟩) 4 [(st, 0), (4, lg), (4, lg), (st, 0)] := by
  refine ⟨rfl, fun _ => ⟨w.heap.size, 0, rfl, fun i e he => ?_⟩⟩
  have hb := Blk.new w 55 [.int .i64 st, .int .i64 0, .int .i64 4, .int .i64 lg, .int .i64 4, .int .i64 lg, .int .i64 st, .int .i64 0]
  rw [Nat.zero_add]
  refine ⟨(hb.cell _).trans ?_, (hb.cell _).trans ?_⟩ <;>
  (match i, he with
    | 0, he => simp at he; subst he; rfl
    | 1, he => simp at he; subst he; rfl
    | 2, he => simp at he; subst he; rfl
    | 3, he => simp at he; subst he; rfl)
theorem ents2 (w : World) (st lg : Int) : Ents (w.alloc (.cells #[.int .i64 4, .int .i64 lg, .int .i64 st, .int .i64 0] 55)) (some ⟨w.heap.size, 0, none⟩) 2 [(4, lg), (st, 0)] := by
  refine ⟨rfl, fun _ => ⟨w.heap.size, 0, rfl, fun i e he => ?_⟩⟩
  have hb := Blk.new w 55 [.int .i64 4, .int .i64 lg, .int .i64 st, .int .i64 0]
  rw [Nat.zero_add]
  refine ⟨(hb.cell _).trans ?_, (hb.cell _).trans ?_⟩ <;>
  (match i, he with
    | 0, he => simp at he; subst he; rfl
    | 1, he => simp at he; subst he; rfl)

/-- The values of the operations. -/
def VM4 (l c st lg : Int) (s1 : Nat) (v1 : Value) (s2 : Nat) (v2 : Value) : List (Nat × Nat × Value) := [(0, 38, .int .i64 l), (1, 39, .int .i64 c), (2, 40, .agg #[.int .i64 st, .int .i64 0]), (3, 41, .agg #[.int .i64 4, .int .i64 lg]), (4, 42, .agg #[.int .i64 4, .int .i64 lg]), (5, 43, .agg #[.int .i64 st, .int .i64 0]), (6, 44, .slice (some ⟨s1, 0, none⟩) 4 4), (7, 45, v1), (8, 46, .int .i64 l), (9, 47, .int .i64 c), (10, 48, .agg #[.int .i64 4, .int .i64 lg]), (11, 49, .agg #[.int .i64 st, .int .i64 0]), (12, 50, .slice (some ⟨s2, 0, none⟩) 2 2), (13, 51, v2), (14, 11, v1), (15, 12, v2)]
theorem VM4_slots (l c st lg : Int) (s1 : Nat) (v1 : Value) (s2 : Nat) (v2 : Value) : (VM4 l c st lg s1 v1 s2 v2).map (·.2.1) = [38, 39, 40, 41, 42, 43, 44, 45, 46, 47, 48, 49, 50, 51, 11, 12] := rfl
theorem VM4_idx (l c st lg : Int) (s1 : Nat) (v1 : Value) (s2 : Nat) (v2 : Value) : (VM4 l c st lg s1 v1 s2 v2).map (·.1) = [0, 1, 2, 3, 4, 5, 6, 7, 8, 9, 10, 11, 12, 13, 14, 15] := rfl
theorem VM4_nd (l c st lg : Int) (s1 : Nat) (v1 : Value) (s2 : Nat) (v2 : Value) : ((VM4 l c st lg s1 v1 s2 v2).map (·.2.1)).Nodup := by rw [VM4_slots]; decide
theorem VM4_nd' (l c st lg : Int) (s1 : Nat) (v1 : Value) (s2 : Nat) (v2 : Value) : ((VM4 l c st lg s1 v1 s2 v2).map (·.1)).Nodup := by rw [VM4_idx]; decide
theorem VM4_not0 (l c st lg : Int) (s1 : Nat) (v1 : Value) (s2 : Nat) (v2 : Value) : 0 ∉ (VM4 l c st lg s1 v1 s2 v2).map (·.2.1) := by rw [VM4_slots]; decide
theorem VM4_not1 (l c st lg : Int) (s1 : Nat) (v1 : Value) (s2 : Nat) (v2 : Value) : 1 ∉ (VM4 l c st lg s1 v1 s2 v2).map (·.2.1) := by rw [VM4_slots]; decide
theorem VM4_not9 (l c st lg : Int) (s1 : Nat) (v1 : Value) (s2 : Nat) (v2 : Value) : 9 ∉ (VM4 l c st lg s1 v1 s2 v2).map (·.2.1) := by rw [VM4_slots]; decide
theorem VM4_not10 (l c st lg : Int) (s1 : Nat) (v1 : Value) (s2 : Nat) (v2 : Value) : 10 ∉ (VM4 l c st lg s1 v1 s2 v2).map (·.2.1) := by rw [VM4_slots]; decide
/-- What the operations bring about. -/
def VM4_F (l c st lg : Int) (s1 : Nat) (v1 : Value) (s2 : Nat) (v2 : Value) : List Fact := [([6], fun W => Ents W (some ⟨s1, 0, none⟩) 4 [(st, 0), (4, lg), (4, lg), (st, 0)]), ([7], fun W => RowS W v1 5 (plTo (l * 4096 + c * 16) [(st, 0), (4, lg), (4, lg), (st, 0)] 4)), ([12], fun W => Ents W (some ⟨s2, 0, none⟩) 2 [(4, lg), (st, 0)]), ([13], fun W => RowS W v2 3 (plTo (l * 4096 + c * 16) [(4, lg), (st, 0)] 2))]
theorem VM4_st (l c st lg : Int) (s1 : Nat) (v1 : Value) (s2 : Nat) (v2 : Value) : Stab (VM4_F l c st lg s1 v1 s2 v2) := (Stab.cons (fun _ _ hb h => h.bel hb) (Stab.cons (fun _ _ hb h => h.bel hb) (Stab.cons (fun _ _ hb h => h.bel hb) (Stab.cons (fun _ _ hb h => h.bel hb) Stab.nil))))

theorem chg_stmt (st : Int) (s0 : 0 ≤ st) (s1 : st ≤ 2) : ∃ m : Int, 0 ≤ m ∧ m ≤ 2 ∧ ∀ y n, chg y st n = y / 4 * 4 + m := by
  by_cases a : st = 0
  · exact ⟨1, by omega, by omega, fun y n => by simp [chg, a]⟩
  · by_cases b : st = 1
    · exact ⟨2, by omega, by omega, fun y n => by simp [chg, b]⟩
    · have : st = 2 := by omega
      exact ⟨0, by omega, by omega, fun y n => by simp [chg, this]⟩
/-- The number behind both marks. -/
theorem marks_two (l c st lg : Int) (s0 : 0 ≤ st) (s1 : st ≤ 2) (g0 : 0 ≤ lg) (g1 : lg ≤ 2) :
    ∃ X : Int, chgs (l * 4096 + c * 16) [(st, 0), (4, lg), (4, lg), (st, 0)] 2 = X ∧ chgs (l * 4096 + c * 16) [(st, 0), (4, lg), (4, lg), (st, 0)] 3 = X ∧ chgs (l * 4096 + c * 16) [(st, 0), (4, lg), (4, lg), (st, 0)] 4 = X ∧ chgs (l * 4096 + c * 16) [(4, lg), (st, 0)] 2 = X := by
  obtain ⟨m, m0, m1, hm⟩ := chg_stmt st s0 s1
  have hl : ∀ y, chg y 4 lg = y / 16 * 16 + lg * 4 + y % 4 := fun y => by simp [chg]
  refine ⟨l * 4096 + c * 16 + lg * 4 + m, ?_, ?_, ?_, ?_⟩ <;> simp only [chgs, List.take_succ_cons, List.take_zero, List.foldl_cons, List.foldl_nil, hm, hl] <;> omega
/-- The cells of the rows told. -/
theorem marks_rows (l c st lg : Int) (s0 : 0 ≤ st) (s1 : st ≤ 2) (g0 : 0 ≤ lg) (g1 : lg ≤ 2) :
    ∃ a1 a2 a3 a4 : Int, (∀ j, j < 5 → ∀ i, 2 ≤ i → i ≤ 4 → (plTo (l * 4096 + c * 16) [(st, 0), (4, lg), (4, lg), (st, 0)] 4)[i * 5 + j]? = ([.int .i64 0, .int .i64 a1, .int .i64 a2, .int .i64 a3, .int .i64 a4] : List Value)[j]?) ∧
      (∀ j, j < 5 → (plTo (l * 4096 + c * 16) [(4, lg), (st, 0)] 2)[2 * 5 + j]? = ([.int .i64 0, .int .i64 a1, .int .i64 a2, .int .i64 a3, .int .i64 a4] : List Value)[j]?) := by
  obtain ⟨X, e2, e3, e4, f2⟩ := marks_two l c st lg s0 s1 g0 g1
  refine ⟨X / 4096, X / 16 % 256, X % 4, X / 4 % 4, fun j hj i i0 i1 => ?_, fun j hj => ?_⟩
  · rw [plTo_at _ _ 4 i i1 j hj]
    have : chgs (l * 4096 + c * 16) [(st, 0), (4, lg), (4, lg), (st, 0)] i = X := by
      have : i = 2 ∨ i = 3 ∨ i = 4 := by omega
      rcases this with rfl | rfl | rfl <;> assumption
    rw [this]; rfl
  · rw [plTo_at _ _ 2 2 (Nat.le_refl _) j hj, f2]; rfl

/-- A place is itself. -/
theorem eql_place (w : World) (a b c d e : Int) : (binOp .eql 23 (.agg #[.int .i64 a, .int .i64 b, .int .i64 c, .int .i64 d, .int .i64 e]) (.agg #[.int .i64 a, .int .i64 b, .int .i64 c, .int .i64 d, .int .i64 e])).run Try.prog w = .ok (.bool true) w := by
  simp [go_sem]
attribute [local go_sem ↓] eql_place

set_option maxRecDepth 100000 in
set_option maxHeartbeats 8000000 in
theorem fnMarked_in (l c st lg : Int) (w : World) (h0 : 1 ≤ l) (h1 : l ≤ 1000000) (h2 : 1 ≤ c) (h3 : c ≤ 250) (s0 : 0 ≤ st) (s1 : st ≤ 2) (g0 : 0 ≤ lg) (g1 : lg ≤ 2) :
    Calls Try.prog 13 #[.int .i64 l, .int .i64 c, .int .i64 st, .int .i64 lg] w fun e w' => e = .returned (.bool true) ∧ Bel w w' := by
  have HP := Lib.hid (fun W => placed_any ⟨0, l, c, 0, 0⟩ 1 W)
  rw [show placedB ⟨0, l, c, 0, 0⟩ 1 = true from by simp [placedB]; omega] at HP
  have HC := Lib.hid (fun W a n cap cs (h : Ents W a n cs) (hn : n ≤ 50) (hok : chgOk cs) => changedAll_any l c a n cap cs W h hn hok h0 h1 h2 h3)
  have HOK1 : Hid (chgOk [(st, 0), (4, lg), (4, lg), (st, 0)]) := Lib.hid (fun x hx => by
    simp at hx
    rcases hx with rfl | rfl | rfl | rfl <;> simp <;> omega)
  have HOK2 : Hid (chgOk [(4, lg), (st, 0)]) := Lib.hid (fun x hx => by
    simp at hx
    rcases hx with rfl | rfl <;> simp <;> omega)
  have HM := Lib.hid (marks_rows l c st lg s0 s1 g0 g1)
  have q0 : decide (st < 0) = false := by simp; omega
  have q1 : decide (2 < st) = false := by simp; omega
  have q2 : decide (lg < 0) = false := by simp; omega
  have q3 : decide (2 < lg) = false := by simp; omega
  clear h0 h1 h2 h3 s0 s1 g0 g1
  go_enter Try.func13, Try.ntmps13
  go_wp2_with fail
  refine (HP.out _).mono ?_
  rintro e w1 ⟨rfl, hb1⟩
  have hbA := (Blk.new w1 55 [.int .i64 st, .int .i64 0]).alloc (.cells #[.int .i64 4, .int .i64 lg] 55)
  have hbB := Blk.new (w1.alloc (.cells #[.int .i64 st, .int .i64 0] 55)) 55 [.int .i64 4, .int .i64 lg]
  have hb4 := (hb1.alloc (.cells #[.int .i64 st, .int .i64 0] 55)).alloc (.cells #[.int .i64 4, .int .i64 lg] 55)
  rw [World.size_alloc] at hbB
  clear hb1 HP
  go_upto_region 4 with (fail)
  change Blk ((w1.alloc (.cells #[.int .i64 st, .int .i64 0] 55)).alloc (.cells #[.int .i64 4, .int .i64 lg] 55)) _ _ _ at hbA
  change Blk ((w1.alloc (.cells #[.int .i64 st, .int .i64 0] 55)).alloc (.cells #[.int .i64 4, .int .i64 lg] 55)) _ _ _ at hbB
  generalize (w1.alloc (.cells #[.int .i64 st, .int .i64 0] 55)).alloc (.cells #[.int .i64 4, .int .i64 lg] 55) = w4 at hbA hbB hb4 ⊢
  have ca0 : w4.cell? ⟨w1.heap.size, 0, none⟩ = some (.int .i64 st) := hbA.cell 0
  have ca1 : w4.cell? ⟨w1.heap.size, 1, none⟩ = some (.int .i64 0) := hbA.cell 1
  have cb0 : w4.cell? ⟨w1.heap.size + 1, 0, none⟩ = some (.int .i64 4) := hbB.cell 0
  have cb1 : w4.cell? ⟨w1.heap.size + 1, 1, none⟩ = some (.int .i64 lg) := hbB.cell 1
  have HB4 := Lib.hid hb4
  clear hbA hbB hb4
  refine act_name (fun a0 ha0 => ?_)
  have so0 : a0.eval (.tmp 0) = .int .i64 l := by rw [ha0]; rfl
  have so1 : a0.eval (.tmp 1) = .int .i64 c := by rw [ha0]; rfl
  have so9 : a0.eval (.tmp 9) = .pointer (some ⟨w1.heap.size, 0, none⟩) := by rw [ha0]; rfl
  have so10 : a0.eval (.tmp 10) = .pointer (some ⟨w1.heap.size + 1, 0, none⟩) := by rw [ha0]; rfl
  have hsz : a0.tmps.size = 87 := by rw [ha0]; rfl
  have HA0 := Lib.hid ha0; clear ha0
  refine region_obs3 (fun D a' W => ∃ (s1 : Nat) (v1 : Value) (s2 : Nat) (v2 : Value), a' = frC a0 D (VM4 l c st lg s1 v1 s2 v2) ∧ WG w4 (VM4_F l c st lg s1 v1 s2 v2) D W) (by kernel_rfl) (by kernel_rfl) ⟨0, .int .i64 0, 0, .int .i64 0, (frC_none _ _).symm, WG.start _ (by simp [VM4_F])⟩ ?_ ?_
  · refine ⟨?_, ?_, ?_, ?_, ?_, ?_, ?_, ?_, ?_, ?_, ?_, ?_, ?_, ?_, ?_, ?_, trivial⟩
    · rintro D _ W hD hcl hdeps ⟨s1, v1, s2, v2, rfl, hW⟩
      have e0 := ev_get ((frC_out (a0 := a0) (D := D) (VM4_not0 l c st lg s1 v1 s2 v2)).trans so0)
      refine ob_val rfl (v := .int .i64 l) (by simp [execOp, go_sem, e0]) ⟨s1, v1, s2, v2, frC_put hD (by simp [VM4]) (VM4_nd _ _ _ _ _ _ _ _) (VM4_nd' _ _ _ _ _ _ _ _), hW.step (VM4_st _ _ _ _ _ _ _ _) (Bel.refl W) (by simp [VM4_F])⟩
    · rintro D _ W hD hcl hdeps ⟨s1, v1, s2, v2, rfl, hW⟩
      have e1 := ev_get ((frC_out (a0 := a0) (D := D) (VM4_not1 l c st lg s1 v1 s2 v2)).trans so1)
      refine ob_val rfl (v := .int .i64 c) (by simp [execOp, go_sem, e1]) ⟨s1, v1, s2, v2, frC_put hD (by simp [VM4]) (VM4_nd _ _ _ _ _ _ _ _) (VM4_nd' _ _ _ _ _ _ _ _), hW.step (VM4_st _ _ _ _ _ _ _ _) (Bel.refl W) (by simp [VM4_F])⟩
    · rintro D _ W hD hcl hdeps ⟨s1, v1, s2, v2, rfl, hW⟩
      have e9 := ev_get ((frC_out (a0 := a0) (D := D) (VM4_not9 l c st lg s1 v1 s2 v2)).trans so9)
      have z0 := hW.bel.cell ca0
      have z1 := hW.bel.cell ca1
      refine ob_val rfl (v := .agg #[.int .i64 st, .int .i64 0]) (by simp [execOp, go_sem, e9, z0, z1]) ⟨s1, v1, s2, v2, frC_put hD (by simp [VM4]) (VM4_nd _ _ _ _ _ _ _ _) (VM4_nd' _ _ _ _ _ _ _ _), hW.step (VM4_st _ _ _ _ _ _ _ _) (Bel.refl W) (by simp [VM4_F])⟩
    · rintro D _ W hD hcl hdeps ⟨s1, v1, s2, v2, rfl, hW⟩
      have e10 := ev_get ((frC_out (a0 := a0) (D := D) (VM4_not10 l c st lg s1 v1 s2 v2)).trans so10)
      have z0 := hW.bel.cell cb0
      have z1 := hW.bel.cell cb1
      refine ob_val rfl (v := .agg #[.int .i64 4, .int .i64 lg]) (by simp [execOp, go_sem, e10, z0, z1]) ⟨s1, v1, s2, v2, frC_put hD (by simp [VM4]) (VM4_nd _ _ _ _ _ _ _ _) (VM4_nd' _ _ _ _ _ _ _ _), hW.step (VM4_st _ _ _ _ _ _ _ _) (Bel.refl W) (by simp [VM4_F])⟩
    · rintro D _ W hD hcl hdeps ⟨s1, v1, s2, v2, rfl, hW⟩
      have e10 := ev_get ((frC_out (a0 := a0) (D := D) (VM4_not10 l c st lg s1 v1 s2 v2)).trans so10)
      have z0 := hW.bel.cell cb0
      have z1 := hW.bel.cell cb1
      refine ob_val rfl (v := .agg #[.int .i64 4, .int .i64 lg]) (by simp [execOp, go_sem, e10, z0, z1]) ⟨s1, v1, s2, v2, frC_put hD (by simp [VM4]) (VM4_nd _ _ _ _ _ _ _ _) (VM4_nd' _ _ _ _ _ _ _ _), hW.step (VM4_st _ _ _ _ _ _ _ _) (Bel.refl W) (by simp [VM4_F])⟩
    · rintro D _ W hD hcl hdeps ⟨s1, v1, s2, v2, rfl, hW⟩
      have e9 := ev_get ((frC_out (a0 := a0) (D := D) (VM4_not9 l c st lg s1 v1 s2 v2)).trans so9)
      have z0 := hW.bel.cell ca0
      have z1 := hW.bel.cell ca1
      refine ob_val rfl (v := .agg #[.int .i64 st, .int .i64 0]) (by simp [execOp, go_sem, e9, z0, z1]) ⟨s1, v1, s2, v2, frC_put hD (by simp [VM4]) (VM4_nd _ _ _ _ _ _ _ _) (VM4_nd' _ _ _ _ _ _ _ _), hW.step (VM4_st _ _ _ _ _ _ _ _) (Bel.refl W) (by simp [VM4_F])⟩
    · rintro D _ W hD hcl hdeps ⟨s1, v1, s2, v2, rfl, hW⟩
      have hd2 : D 2 = true := hdeps ⟨2, .data⟩ (by simp) rfl
      have e40 := ev_get (frC_in (v := .agg #[.int .i64 st, .int .i64 0]) hd2 (show 40 < a0.tmps.size by rw [hsz]; decide) (vs := VM4 l c st lg s1 v1 s2 v2) (by simp [VM4]) (VM4_nd _ _ _ _ _ _ _ _))
      have hd3 : D 3 = true := hdeps ⟨3, .data⟩ (by simp) rfl
      have e41 := ev_get (frC_in (v := .agg #[.int .i64 4, .int .i64 lg]) hd3 (show 41 < a0.tmps.size by rw [hsz]; decide) (vs := VM4 l c st lg s1 v1 s2 v2) (by simp [VM4]) (VM4_nd _ _ _ _ _ _ _ _))
      have hd4 : D 4 = true := hdeps ⟨4, .data⟩ (by simp) rfl
      have e42 := ev_get (frC_in (v := .agg #[.int .i64 4, .int .i64 lg]) hd4 (show 42 < a0.tmps.size by rw [hsz]; decide) (vs := VM4 l c st lg s1 v1 s2 v2) (by simp [VM4]) (VM4_nd _ _ _ _ _ _ _ _))
      have hd5 : D 5 = true := hdeps ⟨5, .data⟩ (by simp) rfl
      have e43 := ev_get (frC_in (v := .agg #[.int .i64 st, .int .i64 0]) hd5 (show 43 < a0.tmps.size by rw [hsz]; decide) (vs := VM4 l c st lg s1 v1 s2 v2) (by simp [VM4]) (VM4_nd _ _ _ _ _ _ _ _))
      refine ob_val rfl (v := .slice (some ⟨W.heap.size, 0, none⟩) 4 4) (w' := W.alloc (.cells #[.int .i64 st, .int .i64 0, .int .i64 4, .int .i64 lg, .int .i64 4, .int .i64 lg, .int .i64 st, .int .i64 0] 55)) (by simp [execOp, go_sem, e40, e41, e42, e43]) ?_
      have hb2 : Bel W (W.alloc (.cells #[.int .i64 st, .int .i64 0, .int .i64 4, .int .i64 lg, .int .i64 4, .int .i64 lg, .int .i64 st, .int .i64 0] 55)) := (Bel.refl W).alloc _
      refine ⟨W.heap.size, v1, s2, v2, by rw [show frC a0 D (VM4 l c st lg s1 v1 s2 v2) = frC a0 D (VM4 l c st lg (W.heap.size) v1 s2 v2) from by simp only [VM4, frC, hD, Bool.false_eq_true, if_false]]; exact frC_put hD (by simp [VM4]) (VM4_nd _ _ _ _ _ _ _ _) (VM4_nd' _ _ _ _ _ _ _ _), ?_⟩
      refine hW.new (VM4_st _ _ _ _ _ _ _ _) hb2 ?_
      intro f hf
      simp only [VM4_F, List.mem_cons, List.not_mem_nil, or_false] at hf
      rcases hf with rfl | rfl | rfl | rfl
      · exact .inl ⟨by simp, fun hg => ents4 W st lg⟩
      · exact .inr ⟨by simp, by simp [VM4_F]⟩
      · exact .inr ⟨by simp, by simp [VM4_F]⟩
      · exact .inr ⟨by simp, by simp [VM4_F]⟩
    · rintro D _ W hD hcl hdeps ⟨s1, v1, s2, v2, rfl, hW⟩
      have hd0 : D 0 = true := hdeps ⟨0, .data⟩ (by simp) rfl
      have e38 := ev_get (frC_in (v := .int .i64 l) hd0 (show 38 < a0.tmps.size by rw [hsz]; decide) (vs := VM4 l c st lg s1 v1 s2 v2) (by simp [VM4]) (VM4_nd _ _ _ _ _ _ _ _))
      have hd1 : D 1 = true := hdeps ⟨1, .data⟩ (by simp) rfl
      have e39 := ev_get (frC_in (v := .int .i64 c) hd1 (show 39 < a0.tmps.size by rw [hsz]; decide) (vs := VM4 l c st lg s1 v1 s2 v2) (by simp [VM4]) (VM4_nd _ _ _ _ _ _ _ _))
      have hd6 : D 6 = true := hdeps ⟨6, .data⟩ (by simp) rfl
      have e44 := ev_get (frC_in (v := .slice (some ⟨s1, 0, none⟩) 4 4) hd6 (show 44 < a0.tmps.size by rw [hsz]; decide) (vs := VM4 l c st lg s1 v1 s2 v2) (by simp [VM4]) (VM4_nd _ _ _ _ _ _ _ _))
      have hE := hW.get (k := 0) rfl (fun i hi => by simp at hi; subst hi; exact hd6)
      refine ob_enter' rfl (f := 29) (args := #[.int .i64 l, .int .i64 c, .slice (some ⟨s1, 0, none⟩) 4 4]) (w' := W) (by simp [go_sem, e38, e39, e44]) ((HC.out W _ 4 4 _ hE (by omega) HOK1.out).mono ?_)
      rintro e w2 ⟨u, rfl, ho, hb2⟩
      have hn14 : D 14 = false := by cases h : D 14; rfl; have := hcl 14 _ rfl h ⟨7, .data⟩ (by simp) rfl; rw [hD] at this; cases this
      refine ⟨u, rfl, s1, u, s2, v2, by rw [show frC a0 D (VM4 l c st lg s1 v1 s2 v2) = frC a0 D (VM4 l c st lg s1 (u) s2 v2) from by simp only [VM4, frC, hD, hn14, Bool.false_eq_true, if_false]]; exact frC_put hD (by simp [VM4]) (VM4_nd _ _ _ _ _ _ _ _) (VM4_nd' _ _ _ _ _ _ _ _), ?_⟩
      refine hW.new (VM4_st _ _ _ _ _ _ _ _) hb2 ?_
      intro f hf
      simp only [VM4_F, List.mem_cons, List.not_mem_nil, or_false] at hf
      rcases hf with rfl | rfl | rfl | rfl
      · exact .inr ⟨by simp, by simp [VM4_F]⟩
      · exact .inl ⟨by simp, fun hg => RowS.own ho⟩
      · exact .inr ⟨by simp, by simp [VM4_F]⟩
      · exact .inr ⟨by simp, by simp [VM4_F]⟩
    · rintro D _ W hD hcl hdeps ⟨s1, v1, s2, v2, rfl, hW⟩
      have e0 := ev_get ((frC_out (a0 := a0) (D := D) (VM4_not0 l c st lg s1 v1 s2 v2)).trans so0)
      refine ob_val rfl (v := .int .i64 l) (by simp [execOp, go_sem, e0]) ⟨s1, v1, s2, v2, frC_put hD (by simp [VM4]) (VM4_nd _ _ _ _ _ _ _ _) (VM4_nd' _ _ _ _ _ _ _ _), hW.step (VM4_st _ _ _ _ _ _ _ _) (Bel.refl W) (by simp [VM4_F])⟩
    · rintro D _ W hD hcl hdeps ⟨s1, v1, s2, v2, rfl, hW⟩
      have e1 := ev_get ((frC_out (a0 := a0) (D := D) (VM4_not1 l c st lg s1 v1 s2 v2)).trans so1)
      refine ob_val rfl (v := .int .i64 c) (by simp [execOp, go_sem, e1]) ⟨s1, v1, s2, v2, frC_put hD (by simp [VM4]) (VM4_nd _ _ _ _ _ _ _ _) (VM4_nd' _ _ _ _ _ _ _ _), hW.step (VM4_st _ _ _ _ _ _ _ _) (Bel.refl W) (by simp [VM4_F])⟩
    · rintro D _ W hD hcl hdeps ⟨s1, v1, s2, v2, rfl, hW⟩
      have e10 := ev_get ((frC_out (a0 := a0) (D := D) (VM4_not10 l c st lg s1 v1 s2 v2)).trans so10)
      have z0 := hW.bel.cell cb0
      have z1 := hW.bel.cell cb1
      refine ob_val rfl (v := .agg #[.int .i64 4, .int .i64 lg]) (by simp [execOp, go_sem, e10, z0, z1]) ⟨s1, v1, s2, v2, frC_put hD (by simp [VM4]) (VM4_nd _ _ _ _ _ _ _ _) (VM4_nd' _ _ _ _ _ _ _ _), hW.step (VM4_st _ _ _ _ _ _ _ _) (Bel.refl W) (by simp [VM4_F])⟩
    · rintro D _ W hD hcl hdeps ⟨s1, v1, s2, v2, rfl, hW⟩
      have e9 := ev_get ((frC_out (a0 := a0) (D := D) (VM4_not9 l c st lg s1 v1 s2 v2)).trans so9)
      have z0 := hW.bel.cell ca0
      have z1 := hW.bel.cell ca1
      refine ob_val rfl (v := .agg #[.int .i64 st, .int .i64 0]) (by simp [execOp, go_sem, e9, z0, z1]) ⟨s1, v1, s2, v2, frC_put hD (by simp [VM4]) (VM4_nd _ _ _ _ _ _ _ _) (VM4_nd' _ _ _ _ _ _ _ _), hW.step (VM4_st _ _ _ _ _ _ _ _) (Bel.refl W) (by simp [VM4_F])⟩
    · rintro D _ W hD hcl hdeps ⟨s1, v1, s2, v2, rfl, hW⟩
      have hd10 : D 10 = true := hdeps ⟨10, .data⟩ (by simp) rfl
      have e48 := ev_get (frC_in (v := .agg #[.int .i64 4, .int .i64 lg]) hd10 (show 48 < a0.tmps.size by rw [hsz]; decide) (vs := VM4 l c st lg s1 v1 s2 v2) (by simp [VM4]) (VM4_nd _ _ _ _ _ _ _ _))
      have hd11 : D 11 = true := hdeps ⟨11, .data⟩ (by simp) rfl
      have e49 := ev_get (frC_in (v := .agg #[.int .i64 st, .int .i64 0]) hd11 (show 49 < a0.tmps.size by rw [hsz]; decide) (vs := VM4 l c st lg s1 v1 s2 v2) (by simp [VM4]) (VM4_nd _ _ _ _ _ _ _ _))
      refine ob_val rfl (v := .slice (some ⟨W.heap.size, 0, none⟩) 2 2) (w' := W.alloc (.cells #[.int .i64 4, .int .i64 lg, .int .i64 st, .int .i64 0] 55)) (by simp [execOp, go_sem, e48, e49]) ?_
      have hb2 : Bel W (W.alloc (.cells #[.int .i64 4, .int .i64 lg, .int .i64 st, .int .i64 0] 55)) := (Bel.refl W).alloc _
      refine ⟨s1, v1, W.heap.size, v2, by rw [show frC a0 D (VM4 l c st lg s1 v1 s2 v2) = frC a0 D (VM4 l c st lg s1 v1 (W.heap.size) v2) from by simp only [VM4, frC, hD, Bool.false_eq_true, if_false]]; exact frC_put hD (by simp [VM4]) (VM4_nd _ _ _ _ _ _ _ _) (VM4_nd' _ _ _ _ _ _ _ _), ?_⟩
      refine hW.new (VM4_st _ _ _ _ _ _ _ _) hb2 ?_
      intro f hf
      simp only [VM4_F, List.mem_cons, List.not_mem_nil, or_false] at hf
      rcases hf with rfl | rfl | rfl | rfl
      · exact .inr ⟨by simp, by simp [VM4_F]⟩
      · exact .inr ⟨by simp, by simp [VM4_F]⟩
      · exact .inl ⟨by simp, fun hg => ents2 W st lg⟩
      · exact .inr ⟨by simp, by simp [VM4_F]⟩
    · rintro D _ W hD hcl hdeps ⟨s1, v1, s2, v2, rfl, hW⟩
      have hd8 : D 8 = true := hdeps ⟨8, .data⟩ (by simp) rfl
      have e46 := ev_get (frC_in (v := .int .i64 l) hd8 (show 46 < a0.tmps.size by rw [hsz]; decide) (vs := VM4 l c st lg s1 v1 s2 v2) (by simp [VM4]) (VM4_nd _ _ _ _ _ _ _ _))
      have hd9 : D 9 = true := hdeps ⟨9, .data⟩ (by simp) rfl
      have e47 := ev_get (frC_in (v := .int .i64 c) hd9 (show 47 < a0.tmps.size by rw [hsz]; decide) (vs := VM4 l c st lg s1 v1 s2 v2) (by simp [VM4]) (VM4_nd _ _ _ _ _ _ _ _))
      have hd12 : D 12 = true := hdeps ⟨12, .data⟩ (by simp) rfl
      have e50 := ev_get (frC_in (v := .slice (some ⟨s2, 0, none⟩) 2 2) hd12 (show 50 < a0.tmps.size by rw [hsz]; decide) (vs := VM4 l c st lg s1 v1 s2 v2) (by simp [VM4]) (VM4_nd _ _ _ _ _ _ _ _))
      have hE := hW.get (k := 2) rfl (fun i hi => by simp at hi; subst hi; exact hd12)
      refine ob_enter' rfl (f := 29) (args := #[.int .i64 l, .int .i64 c, .slice (some ⟨s2, 0, none⟩) 2 2]) (w' := W) (by simp [go_sem, e46, e47, e50]) ((HC.out W _ 2 2 _ hE (by omega) HOK2.out).mono ?_)
      rintro e w2 ⟨u, rfl, ho, hb2⟩
      have hn15 : D 15 = false := by cases h : D 15; rfl; have := hcl 15 _ rfl h ⟨13, .data⟩ (by simp) rfl; rw [hD] at this; cases this
      refine ⟨u, rfl, s1, v1, s2, u, by rw [show frC a0 D (VM4 l c st lg s1 v1 s2 v2) = frC a0 D (VM4 l c st lg s1 v1 s2 (u)) from by simp only [VM4, frC, hD, hn15, Bool.false_eq_true, if_false]]; exact frC_put hD (by simp [VM4]) (VM4_nd _ _ _ _ _ _ _ _) (VM4_nd' _ _ _ _ _ _ _ _), ?_⟩
      refine hW.new (VM4_st _ _ _ _ _ _ _ _) hb2 ?_
      intro f hf
      simp only [VM4_F, List.mem_cons, List.not_mem_nil, or_false] at hf
      rcases hf with rfl | rfl | rfl | rfl
      · exact .inr ⟨by simp, by simp [VM4_F]⟩
      · exact .inr ⟨by simp, by simp [VM4_F]⟩
      · exact .inr ⟨by simp, by simp [VM4_F]⟩
      · exact .inl ⟨by simp, fun hg => RowS.own ho⟩
    · rintro D _ W hD hcl hdeps ⟨s1, v1, s2, v2, rfl, hW⟩
      have hd7 : D 7 = true := hdeps ⟨7, .data⟩ (by simp) rfl
      have e45 := ev_get (frC_in (v := v1) hd7 (show 45 < a0.tmps.size by rw [hsz]; decide) (vs := VM4 l c st lg s1 v1 s2 v2) (by simp [VM4]) (VM4_nd _ _ _ _ _ _ _ _))
      refine ob_val rfl (v := v1) (by simp [execOp, go_sem, e45]) ⟨s1, v1, s2, v2, frC_put hD (by simp [VM4]) (VM4_nd _ _ _ _ _ _ _ _) (VM4_nd' _ _ _ _ _ _ _ _), hW.step (VM4_st _ _ _ _ _ _ _ _) (Bel.refl W) (by simp [VM4_F])⟩
    · rintro D _ W hD hcl hdeps ⟨s1, v1, s2, v2, rfl, hW⟩
      have hd13 : D 13 = true := hdeps ⟨13, .data⟩ (by simp) rfl
      have e51 := ev_get (frC_in (v := v2) hd13 (show 51 < a0.tmps.size by rw [hsz]; decide) (vs := VM4 l c st lg s1 v1 s2 v2) (by simp [VM4]) (VM4_nd _ _ _ _ _ _ _ _))
      refine ob_val rfl (v := v2) (by simp [execOp, go_sem, e51]) ⟨s1, v1, s2, v2, frC_put hD (by simp [VM4]) (VM4_nd _ _ _ _ _ _ _ _) (VM4_nd' _ _ _ _ _ _ _ _), hW.step (VM4_st _ _ _ _ _ _ _ _) (Bel.refl W) (by simp [VM4_F])⟩
  · rintro D _ W hall ⟨s1, v1, s2, v2, rfl, hW⟩
    have hf0 := hW.get (k := 0) rfl (fun i hi => hall i (by simp at hi; subst hi; decide))
    have hf1 := hW.get (k := 1) rfl (fun i hi => hall i (by simp at hi; subst hi; decide))
    have hf2 := hW.get (k := 2) rfl (fun i hi => hall i (by simp at hi; subst hi; decide))
    have hf3 := hW.get (k := 3) rfl (fun i hi => hall i (by simp at hi; subst hi; decide))
    have hbW := hW.bel
    rw [frC_all (fun e he => hall e.1 (by have h1 : e.1 ∈ (VM4 l c st lg s1 v1 s2 v2).map (·.1) := List.mem_map.2 ⟨e, he, rfl⟩; rw [VM4_idx] at h1; simp at h1; show e.1 < 16; omega))]
    have HW := Lib.hid (And.intro hf1 (And.intro hf3 (HB4.out.trans hbW)))
    rw [HA0.out]
    simp only [VM4, List.foldr_cons, List.foldr_nil, Act.put]
    clear hf0 hf1 hf2 hf3 hbW hW hall ca0 ca1 cb0 cb1 HC HOK1 HOK2 HA0 so0 so1 so9 so10 hsz
    obtain ⟨⟨g1, q1', rfl, c1⟩, ⟨g2, q2', rfl, c2⟩, hbw⟩ := HW.out
    obtain ⟨a1, a2, a3, a4, m1, m2⟩ := HM.out
    have HBW := Lib.hid hbw; clear hbw HW HM HB4
    have d0 := c1 10 _ (m1 0 (by omega) 2 (by omega) (by omega))
    have d1 := c1 11 _ (m1 1 (by omega) 2 (by omega) (by omega))
    have d2 := c1 12 _ (m1 2 (by omega) 2 (by omega) (by omega))
    have d3 := c1 13 _ (m1 3 (by omega) 2 (by omega) (by omega))
    have d4 := c1 14 _ (m1 4 (by omega) 2 (by omega) (by omega))
    have d5 := c1 15 _ (m1 0 (by omega) 3 (by omega) (by omega))
    have d6 := c1 16 _ (m1 1 (by omega) 3 (by omega) (by omega))
    have d7 := c1 17 _ (m1 2 (by omega) 3 (by omega) (by omega))
    have d8 := c1 18 _ (m1 3 (by omega) 3 (by omega) (by omega))
    have d9 := c1 19 _ (m1 4 (by omega) 3 (by omega) (by omega))
    have d10 := c1 20 _ (m1 0 (by omega) 4 (by omega) (by omega))
    have d11 := c1 21 _ (m1 1 (by omega) 4 (by omega) (by omega))
    have d12 := c1 22 _ (m1 2 (by omega) 4 (by omega) (by omega))
    have d13 := c1 23 _ (m1 3 (by omega) 4 (by omega) (by omega))
    have d14 := c1 24 _ (m1 4 (by omega) 4 (by omega) (by omega))
    have e0 := c2 10 _ (m2 0 (by omega))
    have e1 := c2 11 _ (m2 1 (by omega))
    have e2 := c2 12 _ (m2 2 (by omega))
    have e3 := c2 13 _ (m2 3 (by omega))
    have e4 := c2 14 _ (m2 4 (by omega))
    clear c1 c2 m1 m2
    go_upto_region 5 with (fail)
    go_quiet (fail)
    go_wp2
    go_ret
    exact ⟨rfl, HBW.out.drewN _⟩
set_option maxHeartbeats 1000000 in
theorem fnMarked_out0 (l c st lg : Int) (w : World)  (p0 : st < 0) (HP : Hid (∀ W, Calls Try.prog 16 #[placeV ⟨0, l, c, 0, 0⟩, .int .i64 1] W fun e w' => e = .returned (.bool true) ∧ Bel W w')) :
    Calls Try.prog 13 #[.int .i64 l, .int .i64 c, .int .i64 st, .int .i64 lg] w fun e w' => e = .returned (.bool true) ∧ Bel w w' := by
  have z0 : decide (st < 0) = true := by simp; omega
  go_enter Try.func13, Try.ntmps13
  go_wp2_with fail
  refine (HP.out _).mono ?_
  rintro e w1 ⟨rfl, hb1⟩
  go_wp2
  go_ret
  exact ⟨rfl, hb1⟩
set_option maxHeartbeats 1000000 in
theorem fnMarked_out1 (l c st lg : Int) (w : World) (_q0 : ¬ st < 0) (p1 : 2 < st) (HP : Hid (∀ W, Calls Try.prog 16 #[placeV ⟨0, l, c, 0, 0⟩, .int .i64 1] W fun e w' => e = .returned (.bool true) ∧ Bel W w')) :
    Calls Try.prog 13 #[.int .i64 l, .int .i64 c, .int .i64 st, .int .i64 lg] w fun e w' => e = .returned (.bool true) ∧ Bel w w' := by
  have z0 : decide (st < 0) = false := by simp; omega
  have z1 : decide (2 < st) = true := by simp; omega
  go_enter Try.func13, Try.ntmps13
  go_wp2_with fail
  refine (HP.out _).mono ?_
  rintro e w1 ⟨rfl, hb1⟩
  go_wp2
  go_ret
  exact ⟨rfl, hb1⟩
set_option maxHeartbeats 1000000 in
theorem fnMarked_out2 (l c st lg : Int) (w : World) (q0 : ¬ st < 0) (q1 : ¬ 2 < st) (p2 : lg < 0) (HP : Hid (∀ W, Calls Try.prog 16 #[placeV ⟨0, l, c, 0, 0⟩, .int .i64 1] W fun e w' => e = .returned (.bool true) ∧ Bel W w')) :
    Calls Try.prog 13 #[.int .i64 l, .int .i64 c, .int .i64 st, .int .i64 lg] w fun e w' => e = .returned (.bool true) ∧ Bel w w' := by
  have z0 : decide (st < 0) = false := by simp; omega
  have z1 : decide (2 < st) = false := by simp; omega
  have z2 : decide (lg < 0) = true := by simp; omega
  go_enter Try.func13, Try.ntmps13
  go_wp2_with fail
  refine (HP.out _).mono ?_
  rintro e w1 ⟨rfl, hb1⟩
  go_wp2
  go_ret
  exact ⟨rfl, hb1⟩
set_option maxHeartbeats 1000000 in
theorem fnMarked_out3 (l c st lg : Int) (w : World) (q0 : ¬ st < 0) (q1 : ¬ 2 < st) (_q2 : ¬ lg < 0) (p3 : 2 < lg) (HP : Hid (∀ W, Calls Try.prog 16 #[placeV ⟨0, l, c, 0, 0⟩, .int .i64 1] W fun e w' => e = .returned (.bool true) ∧ Bel W w')) :
    Calls Try.prog 13 #[.int .i64 l, .int .i64 c, .int .i64 st, .int .i64 lg] w fun e w' => e = .returned (.bool true) ∧ Bel w w' := by
  have z0 : decide (st < 0) = false := by simp; omega
  have z1 : decide (2 < st) = false := by simp; omega
  have z2 : decide (lg < 0) = false := by simp; omega
  have z3 : decide (2 < lg) = true := by simp; omega
  go_enter Try.func13, Try.ntmps13
  go_wp2_with fail
  refine (HP.out _).mono ?_
  rintro e w1 ⟨rfl, hb1⟩
  go_wp2
  go_ret
  exact ⟨rfl, hb1⟩
set_option maxHeartbeats 1000000 in
theorem fnMarked_out4 (l c st lg : Int) (w : World)  (HP : Hid (∀ W, Calls Try.prog 16 #[placeV ⟨0, l, c, 0, 0⟩, .int .i64 1] W fun e w' => e = .returned (.bool false) ∧ Bel W w')) :
    Calls Try.prog 13 #[.int .i64 l, .int .i64 c, .int .i64 st, .int .i64 lg] w fun e w' => e = .returned (.bool true) ∧ Bel w w' := by
  go_enter Try.func13, Try.ntmps13
  go_wp2_with fail
  refine (HP.out _).mono ?_
  rintro e w1 ⟨rfl, hb1⟩
  go_wp2
  go_ret
  exact ⟨rfl, hb1⟩
theorem law_FnMarked (w : World) (l : Int) (_l0 : -9223372036854775808 ≤ l) (_l1 : l ≤ 9223372036854775807) (c : Int) (_c0 : -9223372036854775808 ≤ c) (_c1 : c ≤ 9223372036854775807) (st : Int) (_s0 : -9223372036854775808 ≤ st) (_s1 : st ≤ 9223372036854775807) (lg : Int) (_g0 : -9223372036854775808 ≤ lg) (_g1 : lg ≤ 9223372036854775807) :
    Calls Try.prog 13 #[.int .i64 l, .int .i64 c, .int .i64 st, .int .i64 lg] w fun e w' => e = .returned (.bool true) ∧ Bel w w' := by
  have HP := Lib.hid (fun W => placed_any ⟨0, l, c, 0, 0⟩ 1 W)
  cases hp : placedB ⟨0, l, c, 0, 0⟩ 1
  · rw [hp] at HP
    exact fnMarked_out4 l c st lg w HP
  · rw [hp] at HP
    obtain ⟨_, _, p2, p3, p4, p5⟩ := placedB_true hp
    by_cases a0 : st < 0
    · exact fnMarked_out0 l c st lg w a0 HP
    by_cases a1 : 2 < st
    · exact fnMarked_out1 l c st lg w a0 a1 HP
    by_cases a2 : lg < 0
    · exact fnMarked_out2 l c st lg w a0 a1 a2 HP
    by_cases a3 : 2 < lg
    · exact fnMarked_out3 l c st lg w a0 a1 a2 a3 HP
    exact fnMarked_in l c st lg w p2 p3 p4 p5 (by omega) (by omega) (by omega) (by omega)
end Go.Proofs.Ytbekmpmfkblgnaa
