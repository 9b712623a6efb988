/- The walk of FnLinesHave. -/
import Derived.Test.YtangceejmjklcaaLsR
import Derived.BigQuiet
import Derived.BigRegion
namespace Go.Proofs.Ytangceejmjklcaa
open Go.RowKit Go.BigFrame
set_option linter.unusedVariables false
set_option linter.unusedSimpArgs false

/-- The values of the operations. -/
def VH4 (a1 a2 : Option Addr) (n1 c1 n2 c2 : Nat) (bx bY : Nat) (pf pl pc pv qf ql qc qv : Int) (b : Nat) (g : Nat) (cp : Nat) (kb : Bool) : List (Nat × Nat × Value) := [(0, 25, .slice a1 n1 c1), (1, 26, .slice a2 n2 c2), (2, 27, .slice a2 n2 c2), (3, 28, .int .i64 (n2 : Int)), (4, 29, .slice a2 n2 c2), (5, 30, .int .i64 (n2 : Int)), (6, 31, .slice a2 n2 n2), (7, 32, .agg #[.int .i64 2, .int .i64 pf, .int .i64 pl, .int .i64 pc, .int .i64 pv]), (8, 33, .agg #[.int .i64 2, .int .i64 qf, .int .i64 ql, .int .i64 qc, .int .i64 qv]), (9, 34, .slice (some ⟨b, 0, none⟩) 2 2), (10, 35, .slice (some ⟨g, 0, none⟩) (n2 + 2) cp), (11, 36, .bool kb), (12, 37, .bool (!kb))]
theorem VH4_slots (a1 a2 : Option Addr) (n1 c1 n2 c2 : Nat) (bx bY : Nat) (pf pl pc pv qf ql qc qv : Int) (b : Nat) (g : Nat) (cp : Nat) (kb : Bool) : (VH4 a1 a2 n1 c1 n2 c2 bx bY pf pl pc pv qf ql qc qv b g cp kb).map (·.2.1) = [25, 26, 27, 28, 29, 30, 31, 32, 33, 34, 35, 36, 37] := rfl
theorem VH4_idx (a1 a2 : Option Addr) (n1 c1 n2 c2 : Nat) (bx bY : Nat) (pf pl pc pv qf ql qc qv : Int) (b : Nat) (g : Nat) (cp : Nat) (kb : Bool) : (VH4 a1 a2 n1 c1 n2 c2 bx bY pf pl pc pv qf ql qc qv b g cp kb).map (·.1) = [0, 1, 2, 3, 4, 5, 6, 7, 8, 9, 10, 11, 12] := rfl
theorem VH4_nd (a1 a2 : Option Addr) (n1 c1 n2 c2 : Nat) (bx bY : Nat) (pf pl pc pv qf ql qc qv : Int) (b : Nat) (g : Nat) (cp : Nat) (kb : Bool) : ((VH4 a1 a2 n1 c1 n2 c2 bx bY pf pl pc pv qf ql qc qv b g cp kb).map (·.2.1)).Nodup := by rw [VH4_slots]; decide
theorem VH4_nd' (a1 a2 : Option Addr) (n1 c1 n2 c2 : Nat) (bx bY : Nat) (pf pl pc pv qf ql qc qv : Int) (b : Nat) (g : Nat) (cp : Nat) (kb : Bool) : ((VH4 a1 a2 n1 c1 n2 c2 bx bY pf pl pc pv qf ql qc qv b g cp kb).map (·.1)).Nodup := by rw [VH4_idx]; decide
theorem VH4_not0 (a1 a2 : Option Addr) (n1 c1 n2 c2 : Nat) (bx bY : Nat) (pf pl pc pv qf ql qc qv : Int) (b : Nat) (g : Nat) (cp : Nat) (kb : Bool) : 0 ∉ (VH4 a1 a2 n1 c1 n2 c2 bx bY pf pl pc pv qf ql qc qv b g cp kb).map (·.2.1) := by rw [VH4_slots]; decide
theorem VH4_not1 (a1 a2 : Option Addr) (n1 c1 n2 c2 : Nat) (bx bY : Nat) (pf pl pc pv qf ql qc qv : Int) (b : Nat) (g : Nat) (cp : Nat) (kb : Bool) : 1 ∉ (VH4 a1 a2 n1 c1 n2 c2 bx bY pf pl pc pv qf ql qc qv b g cp kb).map (·.2.1) := by rw [VH4_slots]; decide
theorem VH4_not6 (a1 a2 : Option Addr) (n1 c1 n2 c2 : Nat) (bx bY : Nat) (pf pl pc pv qf ql qc qv : Int) (b : Nat) (g : Nat) (cp : Nat) (kb : Bool) : 6 ∉ (VH4 a1 a2 n1 c1 n2 c2 bx bY pf pl pc pv qf ql qc qv b g cp kb).map (·.2.1) := by rw [VH4_slots]; decide
theorem VH4_not7 (a1 a2 : Option Addr) (n1 c1 n2 c2 : Nat) (bx bY : Nat) (pf pl pc pv qf ql qc qv : Int) (b : Nat) (g : Nat) (cp : Nat) (kb : Bool) : 7 ∉ (VH4 a1 a2 n1 c1 n2 c2 bx bY pf pl pc pv qf ql qc qv b g cp kb).map (·.2.1) := by rw [VH4_slots]; decide
/-- What the operations bring about. -/
def VH4_F (n m : Nat) (S T : List Pl.LStep) (R : List Pl.Ent) (b : Nat) (g : Nat) (cp : Nat) (kb : Bool) : List Fact := [([9], fun W => Blk W b 29 (lsCells T)), ([10], fun W => LSt W (some ⟨g, 0, none⟩) (n + m) (S ++ T)), ([11], fun _ => kb = true → KnownQ R (S ++ T))]
theorem VH4_st (n m : Nat) (S T : List Pl.LStep) (R : List Pl.Ent) (b : Nat) (g : Nat) (cp : Nat) (kb : Bool) : Stab (VH4_F n m S T R b g cp kb) := (Stab.cons (fun _ _ hb h => h.bel hb) (Stab.cons (fun _ _ hb h => h.bel hb) (Stab.cons (fun _ _ _ h => h) Stab.nil)))
/-- The values of the operations. -/
def VH8 (a1 a2 : Option Addr) (n1 c1 n2 c2 : Nat) (bx bY bu : Nat) (pf pl pc pv qf ql qc qv : Int) (b : Nat) (g : Nat) (cp : Nat) (ax : Option Addr) (al : Nat) (ac : Nat) (A : List Pl.LAns) : List (Nat × Nat × Value) := [(0, 40, .slice a1 n1 c1), (1, 41, .slice a2 n2 c2), (2, 42, .slice a2 n2 c2), (3, 43, .int .i64 (n2 : Int)), (4, 44, .slice a2 n2 c2), (5, 45, .int .i64 (n2 : Int)), (6, 46, .slice a2 n2 n2), (7, 47, .agg #[.int .i64 2, .int .i64 qf, .int .i64 ql, .int .i64 qc, .int .i64 qv]), (8, 48, .agg #[.int .i64 8, .int .i64 pf, .int .i64 pl, .int .i64 pc, .int .i64 pv]), (9, 49, .agg #[.int .i64 2, .int .i64 pf, .int .i64 pl, .int .i64 pc, .int .i64 pv]), (10, 50, .agg #[.int .i64 2, .int .i64 qf, .int .i64 ql, .int .i64 qc, .int .i64 qv]), (11, 51, .slice (some ⟨b, 0, none⟩) 4 4), (12, 52, .slice (some ⟨g, 0, none⟩) (n2 + 4) cp), (13, 53, .slice ax al ac), (14, 10, .slice ax al ac)]
theorem VH8_slots (a1 a2 : Option Addr) (n1 c1 n2 c2 : Nat) (bx bY bu : Nat) (pf pl pc pv qf ql qc qv : Int) (b : Nat) (g : Nat) (cp : Nat) (ax : Option Addr) (al : Nat) (ac : Nat) (A : List Pl.LAns) : (VH8 a1 a2 n1 c1 n2 c2 bx bY bu pf pl pc pv qf ql qc qv b g cp ax al ac A).map (·.2.1) = [40, 41, 42, 43, 44, 45, 46, 47, 48, 49, 50, 51, 52, 53, 10] := rfl
theorem VH8_idx (a1 a2 : Option Addr) (n1 c1 n2 c2 : Nat) (bx bY bu : Nat) (pf pl pc pv qf ql qc qv : Int) (b : Nat) (g : Nat) (cp : Nat) (ax : Option Addr) (al : Nat) (ac : Nat) (A : List Pl.LAns) : (VH8 a1 a2 n1 c1 n2 c2 bx bY bu pf pl pc pv qf ql qc qv b g cp ax al ac A).map (·.1) = [0, 1, 2, 3, 4, 5, 6, 7, 8, 9, 10, 11, 12, 13, 14] := rfl
theorem VH8_nd (a1 a2 : Option Addr) (n1 c1 n2 c2 : Nat) (bx bY bu : Nat) (pf pl pc pv qf ql qc qv : Int) (b : Nat) (g : Nat) (cp : Nat) (ax : Option Addr) (al : Nat) (ac : Nat) (A : List Pl.LAns) : ((VH8 a1 a2 n1 c1 n2 c2 bx bY bu pf pl pc pv qf ql qc qv b g cp ax al ac A).map (·.2.1)).Nodup := by rw [VH8_slots]; decide
theorem VH8_nd' (a1 a2 : Option Addr) (n1 c1 n2 c2 : Nat) (bx bY bu : Nat) (pf pl pc pv qf ql qc qv : Int) (b : Nat) (g : Nat) (cp : Nat) (ax : Option Addr) (al : Nat) (ac : Nat) (A : List Pl.LAns) : ((VH8 a1 a2 n1 c1 n2 c2 bx bY bu pf pl pc pv qf ql qc qv b g cp ax al ac A).map (·.1)).Nodup := by rw [VH8_idx]; decide
theorem VH8_not0 (a1 a2 : Option Addr) (n1 c1 n2 c2 : Nat) (bx bY bu : Nat) (pf pl pc pv qf ql qc qv : Int) (b : Nat) (g : Nat) (cp : Nat) (ax : Option Addr) (al : Nat) (ac : Nat) (A : List Pl.LAns) : 0 ∉ (VH8 a1 a2 n1 c1 n2 c2 bx bY bu pf pl pc pv qf ql qc qv b g cp ax al ac A).map (·.2.1) := by rw [VH8_slots]; decide
theorem VH8_not1 (a1 a2 : Option Addr) (n1 c1 n2 c2 : Nat) (bx bY bu : Nat) (pf pl pc pv qf ql qc qv : Int) (b : Nat) (g : Nat) (cp : Nat) (ax : Option Addr) (al : Nat) (ac : Nat) (A : List Pl.LAns) : 1 ∉ (VH8 a1 a2 n1 c1 n2 c2 bx bY bu pf pl pc pv qf ql qc qv b g cp ax al ac A).map (·.2.1) := by rw [VH8_slots]; decide
theorem VH8_not6 (a1 a2 : Option Addr) (n1 c1 n2 c2 : Nat) (bx bY bu : Nat) (pf pl pc pv qf ql qc qv : Int) (b : Nat) (g : Nat) (cp : Nat) (ax : Option Addr) (al : Nat) (ac : Nat) (A : List Pl.LAns) : 6 ∉ (VH8 a1 a2 n1 c1 n2 c2 bx bY bu pf pl pc pv qf ql qc qv b g cp ax al ac A).map (·.2.1) := by rw [VH8_slots]; decide
theorem VH8_not7 (a1 a2 : Option Addr) (n1 c1 n2 c2 : Nat) (bx bY bu : Nat) (pf pl pc pv qf ql qc qv : Int) (b : Nat) (g : Nat) (cp : Nat) (ax : Option Addr) (al : Nat) (ac : Nat) (A : List Pl.LAns) : 7 ∉ (VH8 a1 a2 n1 c1 n2 c2 bx bY bu pf pl pc pv qf ql qc qv b g cp ax al ac A).map (·.2.1) := by rw [VH8_slots]; decide
theorem VH8_not9 (a1 a2 : Option Addr) (n1 c1 n2 c2 : Nat) (bx bY bu : Nat) (pf pl pc pv qf ql qc qv : Int) (b : Nat) (g : Nat) (cp : Nat) (ax : Option Addr) (al : Nat) (ac : Nat) (A : List Pl.LAns) : 9 ∉ (VH8 a1 a2 n1 c1 n2 c2 bx bY bu pf pl pc pv qf ql qc qv b g cp ax al ac A).map (·.2.1) := by rw [VH8_slots]; decide
/-- What the operations bring about. -/
def VH8_F (n m : Nat) (S T : List Pl.LStep) (R : List Pl.Ent) (b : Nat) (g : Nat) (cp : Nat) (ax : Option Addr) (al : Nat) (ac : Nat) (A : List Pl.LAns) : List Fact := [([11], fun W => Blk W b 29 (lsCells T)), ([12], fun W => LSt W (some ⟨g, 0, none⟩) (n + m) (S ++ T)), ([13], fun W => LAnE W (.slice ax al ac) A ∧ al = A.length ∧ Pl.Runs (fsOf R) (nsOf R) R.length (S ++ T) A)]
theorem VH8_st (n m : Nat) (S T : List Pl.LStep) (R : List Pl.Ent) (b : Nat) (g : Nat) (cp : Nat) (ax : Option Addr) (al : Nat) (ac : Nat) (A : List Pl.LAns) : Stab (VH8_F n m S T R b g cp ax al ac A) := (Stab.cons (fun _ _ hb h => h.bel hb) (Stab.cons (fun _ _ hb h => h.bel hb) (Stab.cons (fun _ _ hb h => ⟨h.1.bel hb, h.2⟩) Stab.nil)))

set_option maxRecDepth 100000 in
set_option maxHeartbeats 8000000 in
theorem law_FnLinesHave (w : World) (a1 : Option Addr) (n1 c1 : Nat) (R : List Pl.Ent) (hR : Ents w a1 n1 R) (_nc1 : n1 ≤ c1) (_cm1 : c1 ≤ maxLen) (a2 : Option Addr) (n2 c2 : Nat) (S : List Pl.LStep) (hS : LSt w a2 n2 S) (NC : n2 ≤ c2) (_cm2 : c2 ≤ maxLen) (p : Pl.LStep) (_hp : LStepIn p) (q : Pl.LStep) (_hq : LStepIn q) :
    Calls Try.prog 5 #[.slice a1 n1 c1, .slice a2 n2 c2, stepV p, stepV q] w fun e w' => e = .returned (.bool true) ∧ Bel w w' := by
  obtain ⟨pk, pf, pl, pc, pv⟩ := p
  obtain ⟨qk, qf, ql, qc, qv⟩ := q
  unfold stepV
  dsimp only
  by_cases hz1 : 2147483647 < n1
  · go_enter Try.func5, Try.ntmps5
    go_wp2
    go_ret
    exact ⟨rfl, ((Bel.refl w).alloc _).alloc _⟩
  by_cases hz2 : 2147483647 < n2
  · go_enter Try.func5, Try.ntmps5
    go_wp2
    go_ret
    exact ⟨rfl, ((Bel.refl w).alloc _).alloc _⟩
  have HR := Lib.hid hR; clear hR
  have HS := Lib.hid hS; clear hS
  have HB1 : Hid (Blk ((w.alloc (.cells #[.int .i64 pk, .int .i64 pf, .int .i64 pl, .int .i64 pc, .int .i64 pv] 29)).alloc (.cells #[.int .i64 qk, .int .i64 qf, .int .i64 ql, .int .i64 qc, .int .i64 qv] 29)) w.heap.size 29 [.int .i64 pk, .int .i64 pf, .int .i64 pl, .int .i64 pc, .int .i64 pv] ∧ Blk ((w.alloc (.cells #[.int .i64 pk, .int .i64 pf, .int .i64 pl, .int .i64 pc, .int .i64 pv] 29)).alloc (.cells #[.int .i64 qk, .int .i64 qf, .int .i64 ql, .int .i64 qc, .int .i64 qv] 29)) (w.heap.size + 1) 29 [.int .i64 qk, .int .i64 qf, .int .i64 ql, .int .i64 qc, .int .i64 qv] ∧ Bel w ((w.alloc (.cells #[.int .i64 pk, .int .i64 pf, .int .i64 pl, .int .i64 pc, .int .i64 pv] 29)).alloc (.cells #[.int .i64 qk, .int .i64 qf, .int .i64 ql, .int .i64 qc, .int .i64 qv] 29))) := Lib.hid (by
    refine ⟨(Blk.new w 29 [_, _, _, _, _]).alloc _, ?_, ((Bel.refl w).alloc _).alloc _⟩
    have := Blk.new (w.alloc (.cells #[.int .i64 pk, .int .i64 pf, .int .i64 pl, .int .i64 pc, .int .i64 pv] 29)) 29 [.int .i64 qk, .int .i64 qf, .int .i64 ql, .int .i64 qc, .int .i64 qv]
    rwa [World.size_alloc] at this)
  go_enter Try.func5, Try.ntmps5
  go_upto_region 3 with (fail)
  generalize ((w.alloc (.cells #[.int .i64 pk, .int .i64 pf, .int .i64 pl, .int .i64 pc, .int .i64 pv] 29)).alloc (.cells #[.int .i64 qk, .int .i64 qf, .int .i64 ql, .int .i64 qc, .int .i64 qv] 29)) = w1 at HB1 ⊢
  generalize hbx : w.heap.size = bx at HB1 ⊢
  generalize hby : bx + 1 = bY at HB1 ⊢
  have HBX := Lib.hid (And.intro hbx hby)
  have hne : bx ≠ bY := by omega
  clear hbx hby
  have m0 : w1.cell? ⟨bx, 0, none⟩ = some (.int .i64 pk) := HB1.out.1.cell 0
  have f0 := HB1.out.1.frozen 0
  have m1 : w1.cell? ⟨bY, 0, none⟩ = some (.int .i64 qk) := HB1.out.2.1.cell 0
  have f1 := HB1.out.2.1.frozen 0
  have HB2 : Hid (Blk ((w1.setCell ⟨bx, 0, none⟩ (.int .i64 2)).setCell ⟨bY, 0, none⟩ (.int .i64 2)) bx 29 [.int .i64 2, .int .i64 pf, .int .i64 pl, .int .i64 pc, .int .i64 pv] ∧ Blk ((w1.setCell ⟨bx, 0, none⟩ (.int .i64 2)).setCell ⟨bY, 0, none⟩ (.int .i64 2)) bY 29 [.int .i64 2, .int .i64 qf, .int .i64 ql, .int .i64 qc, .int .i64 qv] ∧ Bel w ((w1.setCell ⟨bx, 0, none⟩ (.int .i64 2)).setCell ⟨bY, 0, none⟩ (.int .i64 2))) := Lib.hid
    ⟨(HB1.out.1.set 0 _).far hne _, (HB1.out.2.1.far (p := ⟨bx, 0, none⟩) (Ne.symm hne) _).set 0 _, Below.setCell (Below.setCell HB1.out.2.2 (p := ⟨bx, 0, none⟩) (by have := HBX.out; simp only; omega) _) (p := ⟨bY, 0, none⟩) (by have := HBX.out; simp only; omega) _⟩
  go_upto_region 4 with (fail)
  generalize ((w1.setCell ⟨bx, 0, none⟩ (.int .i64 2)).setCell ⟨bY, 0, none⟩ (.int .i64 2)) = wb at HB2 ⊢
  clear m0 f0 m1 f1 HB1 hne
  have s0 : wb.cell? ⟨bx, 0, none⟩ = some (.int .i64 2) := HB2.out.1.cell 0
  have s1 : wb.cell? ⟨bx, 1, none⟩ = some (.int .i64 pf) := HB2.out.1.cell 1
  have s2 : wb.cell? ⟨bx, 2, none⟩ = some (.int .i64 pl) := HB2.out.1.cell 2
  have s3 : wb.cell? ⟨bx, 3, none⟩ = some (.int .i64 pc) := HB2.out.1.cell 3
  have s4 : wb.cell? ⟨bx, 4, none⟩ = some (.int .i64 pv) := HB2.out.1.cell 4
  have t0 : wb.cell? ⟨bY, 0, none⟩ = some (.int .i64 2) := HB2.out.2.1.cell 0
  have t1 : wb.cell? ⟨bY, 1, none⟩ = some (.int .i64 qf) := HB2.out.2.1.cell 1
  have t2 : wb.cell? ⟨bY, 2, none⟩ = some (.int .i64 ql) := HB2.out.2.1.cell 2
  have t3 : wb.cell? ⟨bY, 3, none⟩ = some (.int .i64 qc) := HB2.out.2.1.cell 3
  have t4 : wb.cell? ⟨bY, 4, none⟩ = some (.int .i64 qv) := HB2.out.2.1.cell 4
  have HBW := Lib.hid HB2.out.2.2
  refine act_name (fun a0 ha0 => ?_)
  have so0 : a0.eval (.tmp 0) = .slice a1 n1 c1 := by rw [ha0]; rfl
  have so1 : a0.eval (.tmp 1) = .slice a2 n2 c2 := by rw [ha0]; rfl
  have so6 : a0.eval (.tmp 6) = .pointer (some ⟨bx, 0, none⟩) := by rw [ha0]; rfl
  have so7 : a0.eval (.tmp 7) = .pointer (some ⟨bY, 0, none⟩) := by rw [ha0]; rfl
  have hsz : a0.tmps.size = 115 := by rw [ha0]; rfl
  have HA0 := Lib.hid ha0; clear ha0
  refine region_obs3 (fun D a' W => ∃ (b : Nat) (g : Nat) (cp : Nat) (kb : Bool), a' = frC a0 D (VH4 a1 a2 n1 c1 n2 c2 bx bY pf pl pc pv qf ql qc qv b g cp kb) ∧ WG wb (VH4_F n2 2 S [⟨2, pf, pl, pc, pv⟩, ⟨2, qf, ql, qc, qv⟩] R b g cp kb) D W) (by kernel_rfl) (by kernel_rfl) ⟨0, 0, 0, false, (frC_none _ _).symm, WG.start _ (by simp [VH4_F])⟩ ?_ ?_
  · refine ⟨?_, ?_, ?_, ?_, ?_, ?_, ?_, ?_, ?_, ?_, ?_, ?_, ?_, trivial⟩
    · rintro D _ W hD hcl hdeps ⟨b, g, cp, kb, rfl, hW⟩
      have e0 := ev_get ((frC_out (a0 := a0) (D := D) (VH4_not0 a1 a2 n1 c1 n2 c2 bx bY pf pl pc pv qf ql qc qv b g cp kb)).trans so0)
      refine ob_val rfl (v := .slice a1 n1 c1) (by simp [execOp, go_sem, e0]) ⟨b, g, cp, kb, frC_put hD (by simp [VH4]) (VH4_nd _ _ _ _ _ _ _ _ _ _ _ _ _ _ _ _ _ _ _ _) (VH4_nd' _ _ _ _ _ _ _ _ _ _ _ _ _ _ _ _ _ _ _ _), hW.step (VH4_st _ _ _ _ _ _ _ _ _) (Bel.refl W) (by simp [VH4_F])⟩
    · rintro D _ W hD hcl hdeps ⟨b, g, cp, kb, rfl, hW⟩
      have e1 := ev_get ((frC_out (a0 := a0) (D := D) (VH4_not1 a1 a2 n1 c1 n2 c2 bx bY pf pl pc pv qf ql qc qv b g cp kb)).trans so1)
      refine ob_val rfl (v := .slice a2 n2 c2) (by simp [execOp, go_sem, e1]) ⟨b, g, cp, kb, frC_put hD (by simp [VH4]) (VH4_nd _ _ _ _ _ _ _ _ _ _ _ _ _ _ _ _ _ _ _ _) (VH4_nd' _ _ _ _ _ _ _ _ _ _ _ _ _ _ _ _ _ _ _ _), hW.step (VH4_st _ _ _ _ _ _ _ _ _) (Bel.refl W) (by simp [VH4_F])⟩
    · rintro D _ W hD hcl hdeps ⟨b, g, cp, kb, rfl, hW⟩
      have e1 := ev_get ((frC_out (a0 := a0) (D := D) (VH4_not1 a1 a2 n1 c1 n2 c2 bx bY pf pl pc pv qf ql qc qv b g cp kb)).trans so1)
      refine ob_val rfl (v := .slice a2 n2 c2) (by simp [execOp, go_sem, e1]) ⟨b, g, cp, kb, frC_put hD (by simp [VH4]) (VH4_nd _ _ _ _ _ _ _ _ _ _ _ _ _ _ _ _ _ _ _ _) (VH4_nd' _ _ _ _ _ _ _ _ _ _ _ _ _ _ _ _ _ _ _ _), hW.step (VH4_st _ _ _ _ _ _ _ _ _) (Bel.refl W) (by simp [VH4_F])⟩
    · rintro D _ W hD hcl hdeps ⟨b, g, cp, kb, rfl, hW⟩
      have hd2 : D 2 = true := hdeps ⟨2, .data⟩ (by simp) rfl
      have e27 := ev_get (frC_in (v := .slice a2 n2 c2) hd2 (show 27 < a0.tmps.size by rw [hsz]; decide) (vs := VH4 a1 a2 n1 c1 n2 c2 bx bY pf pl pc pv qf ql qc qv b g cp kb) (by simp [VH4]) (VH4_nd _ _ _ _ _ _ _ _ _ _ _ _ _ _ _ _ _ _ _ _))
      refine ob_val rfl (v := .int .i64 (n2 : Int)) (by simp [execOp, go_sem, e27]) ⟨b, g, cp, kb, frC_put hD (by simp [VH4]) (VH4_nd _ _ _ _ _ _ _ _ _ _ _ _ _ _ _ _ _ _ _ _) (VH4_nd' _ _ _ _ _ _ _ _ _ _ _ _ _ _ _ _ _ _ _ _), hW.step (VH4_st _ _ _ _ _ _ _ _ _) (Bel.refl W) (by simp [VH4_F])⟩
    · rintro D _ W hD hcl hdeps ⟨b, g, cp, kb, rfl, hW⟩
      have e1 := ev_get ((frC_out (a0 := a0) (D := D) (VH4_not1 a1 a2 n1 c1 n2 c2 bx bY pf pl pc pv qf ql qc qv b g cp kb)).trans so1)
      refine ob_val rfl (v := .slice a2 n2 c2) (by simp [execOp, go_sem, e1]) ⟨b, g, cp, kb, frC_put hD (by simp [VH4]) (VH4_nd _ _ _ _ _ _ _ _ _ _ _ _ _ _ _ _ _ _ _ _) (VH4_nd' _ _ _ _ _ _ _ _ _ _ _ _ _ _ _ _ _ _ _ _), hW.step (VH4_st _ _ _ _ _ _ _ _ _) (Bel.refl W) (by simp [VH4_F])⟩
    · rintro D _ W hD hcl hdeps ⟨b, g, cp, kb, rfl, hW⟩
      have hd4 : D 4 = true := hdeps ⟨4, .data⟩ (by simp) rfl
      have e29 := ev_get (frC_in (v := .slice a2 n2 c2) hd4 (show 29 < a0.tmps.size by rw [hsz]; decide) (vs := VH4 a1 a2 n1 c1 n2 c2 bx bY pf pl pc pv qf ql qc qv b g cp kb) (by simp [VH4]) (VH4_nd _ _ _ _ _ _ _ _ _ _ _ _ _ _ _ _ _ _ _ _))
      refine ob_val rfl (v := .int .i64 (n2 : Int)) (by simp [execOp, go_sem, e29]) ⟨b, g, cp, kb, frC_put hD (by simp [VH4]) (VH4_nd _ _ _ _ _ _ _ _ _ _ _ _ _ _ _ _ _ _ _ _) (VH4_nd' _ _ _ _ _ _ _ _ _ _ _ _ _ _ _ _ _ _ _ _), hW.step (VH4_st _ _ _ _ _ _ _ _ _) (Bel.refl W) (by simp [VH4_F])⟩
    · rintro D _ W hD hcl hdeps ⟨b, g, cp, kb, rfl, hW⟩
      have hd1 : D 1 = true := hdeps ⟨1, .data⟩ (by simp) rfl
      have E26 := frC_in (v := .slice a2 n2 c2) hd1 (show 26 < a0.tmps.size by rw [hsz]; decide) (vs := VH4 a1 a2 n1 c1 n2 c2 bx bY pf pl pc pv qf ql qc qv b g cp kb) (by simp [VH4]) (VH4_nd _ _ _ _ _ _ _ _ _ _ _ _ _ _ _ _ _ _ _ _)
      have hd3 : D 3 = true := hdeps ⟨3, .data⟩ (by simp) rfl
      have E28 := frC_in (v := .int .i64 (n2 : Int)) hd3 (show 28 < a0.tmps.size by rw [hsz]; decide) (vs := VH4 a1 a2 n1 c1 n2 c2 bx bY pf pl pc pv qf ql qc qv b g cp kb) (by simp [VH4]) (VH4_nd _ _ _ _ _ _ _ _ _ _ _ _ _ _ _ _ _ _ _ _)
      have hd5 : D 5 = true := hdeps ⟨5, .data⟩ (by simp) rfl
      have E30 := frC_in (v := .int .i64 (n2 : Int)) hd5 (show 30 < a0.tmps.size by rw [hsz]; decide) (vs := VH4 a1 a2 n1 c1 n2 c2 bx bY pf pl pc pv qf ql qc qv b g cp kb) (by simp [VH4]) (VH4_nd _ _ _ _ _ _ _ _ _ _ _ _ _ _ _ _ _ _ _ _)
      refine ob_val rfl (v := .slice a2 n2 n2) ?_ ⟨b, g, cp, kb, frC_put hD (by simp [VH4]) (VH4_nd _ _ _ _ _ _ _ _ _ _ _ _ _ _ _ _ _ _ _ _) (VH4_nd' _ _ _ _ _ _ _ _ _ _ _ _ _ _ _ _ _ _ _ _), hW.step (VH4_st _ _ _ _ _ _ _ _ _) (Bel.refl W) (by simp [VH4_F])⟩
      simp only [execOp, Sem.run_bind, E26, E28, E30, Option.map_some, Option.map_none, run_lslice W a2 n2 c2 NC, Result.andThen, Sem.run_pure]
    · rintro D _ W hD hcl hdeps ⟨b, g, cp, kb, rfl, hW⟩
      have e6 := ev_get ((frC_out (a0 := a0) (D := D) (VH4_not6 a1 a2 n1 c1 n2 c2 bx bY pf pl pc pv qf ql qc qv b g cp kb)).trans so6)
      have z0 := hW.bel.cell s0
      have z1 := hW.bel.cell s1
      have z2 := hW.bel.cell s2
      have z3 := hW.bel.cell s3
      have z4 := hW.bel.cell s4
      refine ob_val rfl (v := .agg #[.int .i64 2, .int .i64 pf, .int .i64 pl, .int .i64 pc, .int .i64 pv]) (by simp [execOp, go_sem, e6, z0, z1, z2, z3, z4]) ⟨b, g, cp, kb, frC_put hD (by simp [VH4]) (VH4_nd _ _ _ _ _ _ _ _ _ _ _ _ _ _ _ _ _ _ _ _) (VH4_nd' _ _ _ _ _ _ _ _ _ _ _ _ _ _ _ _ _ _ _ _), hW.step (VH4_st _ _ _ _ _ _ _ _ _) (Bel.refl W) (by simp [VH4_F])⟩
    · rintro D _ W hD hcl hdeps ⟨b, g, cp, kb, rfl, hW⟩
      have e7 := ev_get ((frC_out (a0 := a0) (D := D) (VH4_not7 a1 a2 n1 c1 n2 c2 bx bY pf pl pc pv qf ql qc qv b g cp kb)).trans so7)
      have z0 := hW.bel.cell t0
      have z1 := hW.bel.cell t1
      have z2 := hW.bel.cell t2
      have z3 := hW.bel.cell t3
      have z4 := hW.bel.cell t4
      refine ob_val rfl (v := .agg #[.int .i64 2, .int .i64 qf, .int .i64 ql, .int .i64 qc, .int .i64 qv]) (by simp [execOp, go_sem, e7, z0, z1, z2, z3, z4]) ⟨b, g, cp, kb, frC_put hD (by simp [VH4]) (VH4_nd _ _ _ _ _ _ _ _ _ _ _ _ _ _ _ _ _ _ _ _) (VH4_nd' _ _ _ _ _ _ _ _ _ _ _ _ _ _ _ _ _ _ _ _), hW.step (VH4_st _ _ _ _ _ _ _ _ _) (Bel.refl W) (by simp [VH4_F])⟩
    · rintro D _ W hD hcl hdeps ⟨b, g, cp, kb, rfl, hW⟩
      have hd7 : D 7 = true := hdeps ⟨7, .data⟩ (by simp) rfl
      have e32 := ev_get (frC_in (v := .agg #[.int .i64 2, .int .i64 pf, .int .i64 pl, .int .i64 pc, .int .i64 pv]) hd7 (show 32 < a0.tmps.size by rw [hsz]; decide) (vs := VH4 a1 a2 n1 c1 n2 c2 bx bY pf pl pc pv qf ql qc qv b g cp kb) (by simp [VH4]) (VH4_nd _ _ _ _ _ _ _ _ _ _ _ _ _ _ _ _ _ _ _ _))
      have hd8 : D 8 = true := hdeps ⟨8, .data⟩ (by simp) rfl
      have e33 := ev_get (frC_in (v := .agg #[.int .i64 2, .int .i64 qf, .int .i64 ql, .int .i64 qc, .int .i64 qv]) hd8 (show 33 < a0.tmps.size by rw [hsz]; decide) (vs := VH4 a1 a2 n1 c1 n2 c2 bx bY pf pl pc pv qf ql qc qv b g cp kb) (by simp [VH4]) (VH4_nd _ _ _ _ _ _ _ _ _ _ _ _ _ _ _ _ _ _ _ _))
      refine ob_val rfl (v := .slice (some ⟨W.heap.size, 0, none⟩) 2 2) (w' := W.alloc (.cells #[.int .i64 2, .int .i64 pf, .int .i64 pl, .int .i64 pc, .int .i64 pv, .int .i64 2, .int .i64 qf, .int .i64 ql, .int .i64 qc, .int .i64 qv] 29)) (by simp [execOp, go_sem, e32, e33]) ?_
      have hb2 : Bel W (W.alloc (.cells #[.int .i64 2, .int .i64 pf, .int .i64 pl, .int .i64 pc, .int .i64 pv, .int .i64 2, .int .i64 qf, .int .i64 ql, .int .i64 qc, .int .i64 qv] 29)) := (Bel.refl W).alloc _
      refine ⟨W.heap.size, g, cp, kb, by rw [show frC a0 D (VH4 a1 a2 n1 c1 n2 c2 bx bY pf pl pc pv qf ql qc qv b g cp kb) = frC a0 D (VH4 a1 a2 n1 c1 n2 c2 bx bY pf pl pc pv qf ql qc qv (W.heap.size) g cp kb) from by simp only [VH4, frC, hD, Bool.false_eq_true, if_false]]; exact frC_put hD (by simp [VH4]) (VH4_nd _ _ _ _ _ _ _ _ _ _ _ _ _ _ _ _ _ _ _ _) (VH4_nd' _ _ _ _ _ _ _ _ _ _ _ _ _ _ _ _ _ _ _ _), ?_⟩
      refine hW.new (VH4_st _ _ _ _ _ _ _ _ _) hb2 ?_
      intro f hf
      simp only [VH4_F, List.mem_cons, List.not_mem_nil, or_false] at hf
      rcases hf with rfl | rfl | rfl
      · exact .inl ⟨by simp, fun hg => Blk.new W _ [.int .i64 2, .int .i64 pf, .int .i64 pl, .int .i64 pc, .int .i64 pv, .int .i64 2, .int .i64 qf, .int .i64 ql, .int .i64 qc, .int .i64 qv]⟩
      · exact .inr ⟨by simp, by simp [VH4_F]⟩
      · exact .inr ⟨by simp, by simp [VH4_F]⟩
    · rintro D _ W hD hcl hdeps ⟨b, g, cp, kb, rfl, hW⟩
      have hd6 : D 6 = true := hdeps ⟨6, .data⟩ (by simp) rfl
      have E31 := frC_in (v := .slice a2 n2 n2) hd6 (show 31 < a0.tmps.size by rw [hsz]; decide) (vs := VH4 a1 a2 n1 c1 n2 c2 bx bY pf pl pc pv qf ql qc qv b g cp kb) (by simp [VH4]) (VH4_nd _ _ _ _ _ _ _ _ _ _ _ _ _ _ _ _ _ _ _ _)
      have hd9 : D 9 = true := hdeps ⟨9, .data⟩ (by simp) rfl
      have E34 := frC_in (v := .slice (some ⟨b, 0, none⟩) 2 2) hd9 (show 34 < a0.tmps.size by rw [hsz]; decide) (vs := VH4 a1 a2 n1 c1 n2 c2 bx bY pf pl pc pv qf ql qc qv b g cp kb) (by simp [VH4]) (VH4_nd _ _ _ _ _ _ _ _ _ _ _ _ _ _ _ _ _ _ _ _)
      have hbx := hW.get (k := 0) rfl (fun i hi => by simp at hi; subst hi; exact hd9)
      refine step_lcat rfl (.tmp 31) (.tmp 34) rfl a2 n2 S E31 (HS.out.bel (HBW.out.trans hW.bel)) b 2 [⟨2, pf, pl, pc, pv⟩, ⟨2, qf, ql, qc, qv⟩] E34 hbx rfl (by omega) (by omega) (by omega) ?_
      intro g7 cp7 w7 ho7 hb7
      refine ⟨b, g7, cp7, kb, by rw [show frC a0 D (VH4 a1 a2 n1 c1 n2 c2 bx bY pf pl pc pv qf ql qc qv b g cp kb) = frC a0 D (VH4 a1 a2 n1 c1 n2 c2 bx bY pf pl pc pv qf ql qc qv b (g7) (cp7) kb) from by simp only [VH4, frC, hD, Bool.false_eq_true, if_false]]; exact frC_put hD (by simp [VH4]) (VH4_nd _ _ _ _ _ _ _ _ _ _ _ _ _ _ _ _ _ _ _ _) (VH4_nd' _ _ _ _ _ _ _ _ _ _ _ _ _ _ _ _ _ _ _ _), ?_⟩
      refine hW.new (VH4_st _ _ _ _ _ _ _ _ _) hb7 ?_
      intro f hf
      simp only [VH4_F, List.mem_cons, List.not_mem_nil, or_false] at hf
      rcases hf with rfl | rfl | rfl
      · exact .inr ⟨by simp, by simp [VH4_F]⟩
      · exact .inl ⟨by simp, fun hg => ho7⟩
      · exact .inr ⟨by simp, by simp [VH4_F]⟩
    · rintro D _ W hD hcl hdeps ⟨b, g, cp, kb, rfl, hW⟩
      have hd0 : D 0 = true := hdeps ⟨0, .data⟩ (by simp) rfl
      have e25 := ev_get (frC_in (v := .slice a1 n1 c1) hd0 (show 25 < a0.tmps.size by rw [hsz]; decide) (vs := VH4 a1 a2 n1 c1 n2 c2 bx bY pf pl pc pv qf ql qc qv b g cp kb) (by simp [VH4]) (VH4_nd _ _ _ _ _ _ _ _ _ _ _ _ _ _ _ _ _ _ _ _))
      have hd10 : D 10 = true := hdeps ⟨10, .data⟩ (by simp) rfl
      have e35 := ev_get (frC_in (v := .slice (some ⟨g, 0, none⟩) (n2 + 2) cp) hd10 (show 35 < a0.tmps.size by rw [hsz]; decide) (vs := VH4 a1 a2 n1 c1 n2 c2 bx bY pf pl pc pv qf ql qc qv b g cp kb) (by simp [VH4]) (VH4_nd _ _ _ _ _ _ _ _ _ _ _ _ _ _ _ _ _ _ _ _))
      refine ob_enter' rfl (f := 8) (args := #[.slice a1 n1 c1, .slice (some ⟨g, 0, none⟩) (n2 + 2) cp]) (w' := W) (by simp [go_sem, e25, e35]) ((known_any a1 n1 c1 R (some ⟨g, 0, none⟩) (n2 + 2) cp (S ++ [⟨2, pf, pl, pc, pv⟩, ⟨2, qf, ql, qc, qv⟩]) W (ents_bel HR.out (HBW.out.trans hW.bel)) (hW.get (k := 1) rfl (fun i hi => by simp at hi; subst hi; exact hd10))).mono ?_)
      rintro e w2 ⟨kb2, rfl, hkq, hb2⟩
      have hn12 : D 12 = false := by cases h : D 12; rfl; have := hcl 12 _ rfl h ⟨11, .data⟩ (by simp) rfl; rw [hD] at this; cases this
      refine ⟨.bool kb2, rfl, b, g, cp, kb2, by rw [show frC a0 D (VH4 a1 a2 n1 c1 n2 c2 bx bY pf pl pc pv qf ql qc qv b g cp kb) = frC a0 D (VH4 a1 a2 n1 c1 n2 c2 bx bY pf pl pc pv qf ql qc qv b g cp (kb2)) from by simp only [VH4, frC, hD, hn12, Bool.false_eq_true, if_false]]; exact frC_put hD (by simp [VH4]) (VH4_nd _ _ _ _ _ _ _ _ _ _ _ _ _ _ _ _ _ _ _ _) (VH4_nd' _ _ _ _ _ _ _ _ _ _ _ _ _ _ _ _ _ _ _ _), ?_⟩
      refine hW.new (VH4_st _ _ _ _ _ _ _ _ _) hb2 ?_
      intro f hf
      simp only [VH4_F, List.mem_cons, List.not_mem_nil, or_false] at hf
      rcases hf with rfl | rfl | rfl
      · exact .inr ⟨by simp, by simp [VH4_F]⟩
      · exact .inr ⟨by simp, by simp [VH4_F]⟩
      · exact .inl ⟨by simp, fun hg => hkq⟩
    · rintro D _ W hD hcl hdeps ⟨b, g, cp, kb, rfl, hW⟩
      have hd11 : D 11 = true := hdeps ⟨11, .data⟩ (by simp) rfl
      have e36 := ev_get (frC_in (v := .bool kb) hd11 (show 36 < a0.tmps.size by rw [hsz]; decide) (vs := VH4 a1 a2 n1 c1 n2 c2 bx bY pf pl pc pv qf ql qc qv b g cp kb) (by simp [VH4]) (VH4_nd _ _ _ _ _ _ _ _ _ _ _ _ _ _ _ _ _ _ _ _))
      refine ob_val rfl (v := .bool (!kb)) (by simp [execOp, go_sem, e36]) ⟨b, g, cp, kb, frC_put hD (by simp [VH4]) (VH4_nd _ _ _ _ _ _ _ _ _ _ _ _ _ _ _ _ _ _ _ _) (VH4_nd' _ _ _ _ _ _ _ _ _ _ _ _ _ _ _ _ _ _ _ _), hW.step (VH4_st _ _ _ _ _ _ _ _ _) (Bel.refl W) (by simp [VH4_F])⟩
  · rintro D _ wc hall ⟨b, g, cp, kb, rfl, hW⟩
    have hf0 := hW.get (k := 0) rfl (fun i hi => hall i (by simp at hi; show i < 13; omega))
    have hf1 := hW.get (k := 1) rfl (fun i hi => hall i (by simp at hi; show i < 13; omega))
    have hf2 := hW.get (k := 2) rfl (fun i hi => hall i (by simp at hi; show i < 13; omega))
    have hbW := hW.bel
    rw [frC_all (fun e he => hall e.1 (by have h1 : e.1 ∈ (VH4 a1 a2 n1 c1 n2 c2 bx bY pf pl pc pv qf ql qc qv b g cp kb).map (·.1) := List.mem_map.2 ⟨e, he, rfl⟩; rw [VH4_idx] at h1; simp at h1; show e.1 < 13; omega))]
    have HK := Lib.hid hf2
    have HW := Lib.hid (And.intro (HBW.out.trans hbW) (And.intro (HB2.out.1.bel hbW) (HB2.out.2.1.bel hbW)))
    rw [HA0.out]
    simp only [VH4, List.foldr_cons, List.foldr_nil, Act.put, List.setIfInBounds_toArray, List.set_cons_succ, List.set_cons_zero]
    clear hf0 hf1 hf2 hbW hW hall HA0 so0 so1 so6 so7 hsz HB2 HBW s0 s1 s2 s3 s4 t0 t1 t2 t3 t4
    cases kb
    · clear HK
      go_wp2
      go_ret
      exact ⟨rfl, HW.out.1⟩
    have HQ := Lib.hid (HK.out rfl)
    clear HK
    have HRS := Lib.hid (And.intro HR.out.1 HS.out.1)
    have hn1 : n1 ≤ 20 := by have := HQ.out.nr; have := HRS.out.1; omega
    have hn2 : n2 ≤ 498 := by have h := HQ.out.ns; have := HRS.out.2; simp only [List.length_append, List.length_cons, List.length_nil] at h; omega
    have HPQ : Hid (StepK R.length ⟨2, pf, pl, pc, pv⟩ ∧ StepK R.length ⟨2, qf, ql, qc, qv⟩) := Lib.hid ⟨(HQ.out.so _ (by simp)).1, (HQ.out.so _ (by simp)).1⟩
    have HSO : Hid (∀ s ∈ S, StepK R.length s ∧ s.kind ≠ 8) := Lib.hid (fun s hs => HQ.out.so s (by simp [hs]))
    have s0 : wc.cell? ⟨bx, 0, none⟩ = some (.int .i64 2) := HW.out.2.1.cell 0
    have s1 : wc.cell? ⟨bx, 1, none⟩ = some (.int .i64 pf) := HW.out.2.1.cell 1
    have s2 : wc.cell? ⟨bx, 2, none⟩ = some (.int .i64 pl) := HW.out.2.1.cell 2
    have s3 : wc.cell? ⟨bx, 3, none⟩ = some (.int .i64 pc) := HW.out.2.1.cell 3
    have s4 : wc.cell? ⟨bx, 4, none⟩ = some (.int .i64 pv) := HW.out.2.1.cell 4
    have HU1 : Hid (Blk (wc.alloc (.cells #[.int .i64 2, .int .i64 pf, .int .i64 pl, .int .i64 pc, .int .i64 pv] 29)) wc.heap.size 29 [.int .i64 2, .int .i64 pf, .int .i64 pl, .int .i64 pc, .int .i64 pv] ∧ Bel wc (wc.alloc (.cells #[.int .i64 2, .int .i64 pf, .int .i64 pl, .int .i64 pc, .int .i64 pv] 29))) := Lib.hid ⟨Blk.new wc 29 [_, _, _, _, _], (Bel.refl wc).alloc _⟩
    go_upto_region 7 with (fail)
    generalize (wc.alloc (.cells #[.int .i64 2, .int .i64 pf, .int .i64 pl, .int .i64 pc, .int .i64 pv] 29)) = wd at HU1 ⊢
    generalize hbu : wc.heap.size = bu at HU1 ⊢
    have HBU := Lib.hid hbu; clear hbu
    clear s0 s1 s2 s3 s4
    have m0 : wd.cell? ⟨bu, 0, none⟩ = some (.int .i64 2) := HU1.out.1.cell 0
    have f0 := HU1.out.1.frozen 0
    have HU2 : Hid (Blk (wd.setCell ⟨bu, 0, none⟩ (.int .i64 8)) bu 29 [.int .i64 8, .int .i64 pf, .int .i64 pl, .int .i64 pc, .int .i64 pv] ∧ Bel wc (wd.setCell ⟨bu, 0, none⟩ (.int .i64 8))) := Lib.hid
      ⟨HU1.out.1.set 0 _, Below.setCell HU1.out.2 (p := ⟨bu, 0, none⟩) (by have := HBU.out; show wc.heap.size ≤ bu; omega) _⟩
    go_upto_region 8 with (fail)
    generalize wd.setCell ⟨bu, 0, none⟩ (.int .i64 8) = we at HU2 ⊢
    clear m0 f0 HU1
    have HE : Hid (Bel w we ∧ Blk we bx 29 [.int .i64 2, .int .i64 pf, .int .i64 pl, .int .i64 pc, .int .i64 pv] ∧ Blk we bY 29 [.int .i64 2, .int .i64 qf, .int .i64 ql, .int .i64 qc, .int .i64 qv]) := Lib.hid ⟨HW.out.1.trans HU2.out.2, HW.out.2.1.bel HU2.out.2, HW.out.2.2.bel HU2.out.2⟩
    have s0 : we.cell? ⟨bx, 0, none⟩ = some (.int .i64 2) := HE.out.2.1.cell 0
    have s1 : we.cell? ⟨bx, 1, none⟩ = some (.int .i64 pf) := HE.out.2.1.cell 1
    have s2 : we.cell? ⟨bx, 2, none⟩ = some (.int .i64 pl) := HE.out.2.1.cell 2
    have s3 : we.cell? ⟨bx, 3, none⟩ = some (.int .i64 pc) := HE.out.2.1.cell 3
    have s4 : we.cell? ⟨bx, 4, none⟩ = some (.int .i64 pv) := HE.out.2.1.cell 4
    have t0 : we.cell? ⟨bY, 0, none⟩ = some (.int .i64 2) := HE.out.2.2.cell 0
    have t1 : we.cell? ⟨bY, 1, none⟩ = some (.int .i64 qf) := HE.out.2.2.cell 1
    have t2 : we.cell? ⟨bY, 2, none⟩ = some (.int .i64 ql) := HE.out.2.2.cell 2
    have t3 : we.cell? ⟨bY, 3, none⟩ = some (.int .i64 qc) := HE.out.2.2.cell 3
    have t4 : we.cell? ⟨bY, 4, none⟩ = some (.int .i64 qv) := HE.out.2.2.cell 4
    have x0 : we.cell? ⟨bu, 0, none⟩ = some (.int .i64 8) := HU2.out.1.cell 0
    have x1 : we.cell? ⟨bu, 1, none⟩ = some (.int .i64 pf) := HU2.out.1.cell 1
    have x2 : we.cell? ⟨bu, 2, none⟩ = some (.int .i64 pl) := HU2.out.1.cell 2
    have x3 : we.cell? ⟨bu, 3, none⟩ = some (.int .i64 pc) := HU2.out.1.cell 3
    have x4 : we.cell? ⟨bu, 4, none⟩ = some (.int .i64 pv) := HU2.out.1.cell 4
    have HBW := Lib.hid HE.out.1
    have hnr : R.length ≤ 20 := HQ.out.nr
    have HLN := Lib.hid (fun (W : World) (g cp : Nat) (hb : Bel we W) (hl : LSt W (some ⟨g, 0, none⟩) (n2 + 4) (S ++ [⟨2, qf, ql, qc, qv⟩, ⟨8, pf, pl, pc, pv⟩, ⟨2, pf, pl, pc, pv⟩, ⟨2, qf, ql, qc, qv⟩])) => lines_form (c1 := c1) (c2 := cp) (ents_bel HR.out (HE.out.1.trans hb)) hl HQ.out.ro (fun s hs => by
      rcases List.mem_append.1 hs with h | h
      · exact (HSO.out s h).1
      · simp only [List.mem_cons, List.not_mem_nil, or_false] at h
        rcases h with rfl | rfl | rfl | rfl
        · exact HPQ.out.2
        · exact ⟨HPQ.out.1.f0, HPQ.out.1.f1, HPQ.out.1.l0, HPQ.out.1.l1, HPQ.out.1.c0, HPQ.out.1.c1, HPQ.out.1.v⟩
        · exact HPQ.out.1
        · exact HPQ.out.2) hnr (by omega))
    refine act_name (fun a0 ha0 => ?_)
    have so0 : a0.eval (.tmp 0) = .slice a1 n1 c1 := by rw [ha0]; rfl
    have so1 : a0.eval (.tmp 1) = .slice a2 n2 c2 := by rw [ha0]; rfl
    have so6 : a0.eval (.tmp 6) = .pointer (some ⟨bx, 0, none⟩) := by rw [ha0]; rfl
    have so7 : a0.eval (.tmp 7) = .pointer (some ⟨bY, 0, none⟩) := by rw [ha0]; rfl
    have so9 : a0.eval (.tmp 9) = .pointer (some ⟨bu, 0, none⟩) := by rw [ha0]; rfl
    have hsz : a0.tmps.size = 115 := by rw [ha0]; rfl
    have HA0 := Lib.hid ha0; clear ha0
    refine region_obs3 (fun D a' W => ∃ (b : Nat) (g : Nat) (cp : Nat) (ax : Option Addr) (al : Nat) (ac : Nat) (A : List Pl.LAns), a' = frC a0 D (VH8 a1 a2 n1 c1 n2 c2 bx bY bu pf pl pc pv qf ql qc qv b g cp ax al ac A) ∧ WG we (VH8_F n2 4 S [⟨2, qf, ql, qc, qv⟩, ⟨8, pf, pl, pc, pv⟩, ⟨2, pf, pl, pc, pv⟩, ⟨2, qf, ql, qc, qv⟩] R b g cp ax al ac A) D W) (by kernel_rfl) (by kernel_rfl) ⟨0, 0, 0, none, 0, 0, [], (frC_none _ _).symm, WG.start _ (by simp [VH8_F])⟩ ?_ ?_
    · refine ⟨?_, ?_, ?_, ?_, ?_, ?_, ?_, ?_, ?_, ?_, ?_, ?_, ?_, ?_, ?_, trivial⟩
      · rintro D _ W hD hcl hdeps ⟨b, g, cp, ax, al, ac, A, rfl, hW⟩
        have e0 := ev_get ((frC_out (a0 := a0) (D := D) (VH8_not0 a1 a2 n1 c1 n2 c2 bx bY bu pf pl pc pv qf ql qc qv b g cp ax al ac A)).trans so0)
        refine ob_val rfl (v := .slice a1 n1 c1) (by simp [execOp, go_sem, e0]) ⟨b, g, cp, ax, al, ac, A, frC_put hD (by simp [VH8]) (VH8_nd _ _ _ _ _ _ _ _ _ _ _ _ _ _ _ _ _ _ _ _ _ _ _ _) (VH8_nd' _ _ _ _ _ _ _ _ _ _ _ _ _ _ _ _ _ _ _ _ _ _ _ _), hW.step (VH8_st _ _ _ _ _ _ _ _ _ _ _ _) (Bel.refl W) (by simp [VH8_F])⟩
      · rintro D _ W hD hcl hdeps ⟨b, g, cp, ax, al, ac, A, rfl, hW⟩
        have e1 := ev_get ((frC_out (a0 := a0) (D := D) (VH8_not1 a1 a2 n1 c1 n2 c2 bx bY bu pf pl pc pv qf ql qc qv b g cp ax al ac A)).trans so1)
        refine ob_val rfl (v := .slice a2 n2 c2) (by simp [execOp, go_sem, e1]) ⟨b, g, cp, ax, al, ac, A, frC_put hD (by simp [VH8]) (VH8_nd _ _ _ _ _ _ _ _ _ _ _ _ _ _ _ _ _ _ _ _ _ _ _ _) (VH8_nd' _ _ _ _ _ _ _ _ _ _ _ _ _ _ _ _ _ _ _ _ _ _ _ _), hW.step (VH8_st _ _ _ _ _ _ _ _ _ _ _ _) (Bel.refl W) (by simp [VH8_F])⟩
      · rintro D _ W hD hcl hdeps ⟨b, g, cp, ax, al, ac, A, rfl, hW⟩
        have e1 := ev_get ((frC_out (a0 := a0) (D := D) (VH8_not1 a1 a2 n1 c1 n2 c2 bx bY bu pf pl pc pv qf ql qc qv b g cp ax al ac A)).trans so1)
        refine ob_val rfl (v := .slice a2 n2 c2) (by simp [execOp, go_sem, e1]) ⟨b, g, cp, ax, al, ac, A, frC_put hD (by simp [VH8]) (VH8_nd _ _ _ _ _ _ _ _ _ _ _ _ _ _ _ _ _ _ _ _ _ _ _ _) (VH8_nd' _ _ _ _ _ _ _ _ _ _ _ _ _ _ _ _ _ _ _ _ _ _ _ _), hW.step (VH8_st _ _ _ _ _ _ _ _ _ _ _ _) (Bel.refl W) (by simp [VH8_F])⟩
      · rintro D _ W hD hcl hdeps ⟨b, g, cp, ax, al, ac, A, rfl, hW⟩
        have hd2 : D 2 = true := hdeps ⟨2, .data⟩ (by simp) rfl
        have e42 := ev_get (frC_in (v := .slice a2 n2 c2) hd2 (show 42 < a0.tmps.size by rw [hsz]; decide) (vs := VH8 a1 a2 n1 c1 n2 c2 bx bY bu pf pl pc pv qf ql qc qv b g cp ax al ac A) (by simp [VH8]) (VH8_nd _ _ _ _ _ _ _ _ _ _ _ _ _ _ _ _ _ _ _ _ _ _ _ _))
        refine ob_val rfl (v := .int .i64 (n2 : Int)) (by simp [execOp, go_sem, e42]) ⟨b, g, cp, ax, al, ac, A, frC_put hD (by simp [VH8]) (VH8_nd _ _ _ _ _ _ _ _ _ _ _ _ _ _ _ _ _ _ _ _ _ _ _ _) (VH8_nd' _ _ _ _ _ _ _ _ _ _ _ _ _ _ _ _ _ _ _ _ _ _ _ _), hW.step (VH8_st _ _ _ _ _ _ _ _ _ _ _ _) (Bel.refl W) (by simp [VH8_F])⟩
      · rintro D _ W hD hcl hdeps ⟨b, g, cp, ax, al, ac, A, rfl, hW⟩
        have e1 := ev_get ((frC_out (a0 := a0) (D := D) (VH8_not1 a1 a2 n1 c1 n2 c2 bx bY bu pf pl pc pv qf ql qc qv b g cp ax al ac A)).trans so1)
        refine ob_val rfl (v := .slice a2 n2 c2) (by simp [execOp, go_sem, e1]) ⟨b, g, cp, ax, al, ac, A, frC_put hD (by simp [VH8]) (VH8_nd _ _ _ _ _ _ _ _ _ _ _ _ _ _ _ _ _ _ _ _ _ _ _ _) (VH8_nd' _ _ _ _ _ _ _ _ _ _ _ _ _ _ _ _ _ _ _ _ _ _ _ _), hW.step (VH8_st _ _ _ _ _ _ _ _ _ _ _ _) (Bel.refl W) (by simp [VH8_F])⟩
      · rintro D _ W hD hcl hdeps ⟨b, g, cp, ax, al, ac, A, rfl, hW⟩
        have hd4 : D 4 = true := hdeps ⟨4, .data⟩ (by simp) rfl
        have e44 := ev_get (frC_in (v := .slice a2 n2 c2) hd4 (show 44 < a0.tmps.size by rw [hsz]; decide) (vs := VH8 a1 a2 n1 c1 n2 c2 bx bY bu pf pl pc pv qf ql qc qv b g cp ax al ac A) (by simp [VH8]) (VH8_nd _ _ _ _ _ _ _ _ _ _ _ _ _ _ _ _ _ _ _ _ _ _ _ _))
        refine ob_val rfl (v := .int .i64 (n2 : Int)) (by simp [execOp, go_sem, e44]) ⟨b, g, cp, ax, al, ac, A, frC_put hD (by simp [VH8]) (VH8_nd _ _ _ _ _ _ _ _ _ _ _ _ _ _ _ _ _ _ _ _ _ _ _ _) (VH8_nd' _ _ _ _ _ _ _ _ _ _ _ _ _ _ _ _ _ _ _ _ _ _ _ _), hW.step (VH8_st _ _ _ _ _ _ _ _ _ _ _ _) (Bel.refl W) (by simp [VH8_F])⟩
      · rintro D _ W hD hcl hdeps ⟨b, g, cp, ax, al, ac, A, rfl, hW⟩
        have hd1 : D 1 = true := hdeps ⟨1, .data⟩ (by simp) rfl
        have E41 := frC_in (v := .slice a2 n2 c2) hd1 (show 41 < a0.tmps.size by rw [hsz]; decide) (vs := VH8 a1 a2 n1 c1 n2 c2 bx bY bu pf pl pc pv qf ql qc qv b g cp ax al ac A) (by simp [VH8]) (VH8_nd _ _ _ _ _ _ _ _ _ _ _ _ _ _ _ _ _ _ _ _ _ _ _ _)
        have hd3 : D 3 = true := hdeps ⟨3, .data⟩ (by simp) rfl
        have E43 := frC_in (v := .int .i64 (n2 : Int)) hd3 (show 43 < a0.tmps.size by rw [hsz]; decide) (vs := VH8 a1 a2 n1 c1 n2 c2 bx bY bu pf pl pc pv qf ql qc qv b g cp ax al ac A) (by simp [VH8]) (VH8_nd _ _ _ _ _ _ _ _ _ _ _ _ _ _ _ _ _ _ _ _ _ _ _ _)
        have hd5 : D 5 = true := hdeps ⟨5, .data⟩ (by simp) rfl
        have E45 := frC_in (v := .int .i64 (n2 : Int)) hd5 (show 45 < a0.tmps.size by rw [hsz]; decide) (vs := VH8 a1 a2 n1 c1 n2 c2 bx bY bu pf pl pc pv qf ql qc qv b g cp ax al ac A) (by simp [VH8]) (VH8_nd _ _ _ _ _ _ _ _ _ _ _ _ _ _ _ _ _ _ _ _ _ _ _ _)
        refine ob_val rfl (v := .slice a2 n2 n2) ?_ ⟨b, g, cp, ax, al, ac, A, frC_put hD (by simp [VH8]) (VH8_nd _ _ _ _ _ _ _ _ _ _ _ _ _ _ _ _ _ _ _ _ _ _ _ _) (VH8_nd' _ _ _ _ _ _ _ _ _ _ _ _ _ _ _ _ _ _ _ _ _ _ _ _), hW.step (VH8_st _ _ _ _ _ _ _ _ _ _ _ _) (Bel.refl W) (by simp [VH8_F])⟩
        simp only [execOp, Sem.run_bind, E41, E43, E45, Option.map_some, Option.map_none, run_lslice W a2 n2 c2 NC, Result.andThen, Sem.run_pure]
      · rintro D _ W hD hcl hdeps ⟨b, g, cp, ax, al, ac, A, rfl, hW⟩
        have e7 := ev_get ((frC_out (a0 := a0) (D := D) (VH8_not7 a1 a2 n1 c1 n2 c2 bx bY bu pf pl pc pv qf ql qc qv b g cp ax al ac A)).trans so7)
        have z0 := hW.bel.cell t0
        have z1 := hW.bel.cell t1
        have z2 := hW.bel.cell t2
        have z3 := hW.bel.cell t3
        have z4 := hW.bel.cell t4
        refine ob_val rfl (v := .agg #[.int .i64 2, .int .i64 qf, .int .i64 ql, .int .i64 qc, .int .i64 qv]) (by simp [execOp, go_sem, e7, z0, z1, z2, z3, z4]) ⟨b, g, cp, ax, al, ac, A, frC_put hD (by simp [VH8]) (VH8_nd _ _ _ _ _ _ _ _ _ _ _ _ _ _ _ _ _ _ _ _ _ _ _ _) (VH8_nd' _ _ _ _ _ _ _ _ _ _ _ _ _ _ _ _ _ _ _ _ _ _ _ _), hW.step (VH8_st _ _ _ _ _ _ _ _ _ _ _ _) (Bel.refl W) (by simp [VH8_F])⟩
      · rintro D _ W hD hcl hdeps ⟨b, g, cp, ax, al, ac, A, rfl, hW⟩
        have e9 := ev_get ((frC_out (a0 := a0) (D := D) (VH8_not9 a1 a2 n1 c1 n2 c2 bx bY bu pf pl pc pv qf ql qc qv b g cp ax al ac A)).trans so9)
        have z0 := hW.bel.cell x0
        have z1 := hW.bel.cell x1
        have z2 := hW.bel.cell x2
        have z3 := hW.bel.cell x3
        have z4 := hW.bel.cell x4
        refine ob_val rfl (v := .agg #[.int .i64 8, .int .i64 pf, .int .i64 pl, .int .i64 pc, .int .i64 pv]) (by simp [execOp, go_sem, e9, z0, z1, z2, z3, z4]) ⟨b, g, cp, ax, al, ac, A, frC_put hD (by simp [VH8]) (VH8_nd _ _ _ _ _ _ _ _ _ _ _ _ _ _ _ _ _ _ _ _ _ _ _ _) (VH8_nd' _ _ _ _ _ _ _ _ _ _ _ _ _ _ _ _ _ _ _ _ _ _ _ _), hW.step (VH8_st _ _ _ _ _ _ _ _ _ _ _ _) (Bel.refl W) (by simp [VH8_F])⟩
      · rintro D _ W hD hcl hdeps ⟨b, g, cp, ax, al, ac, A, rfl, hW⟩
        have e6 := ev_get ((frC_out (a0 := a0) (D := D) (VH8_not6 a1 a2 n1 c1 n2 c2 bx bY bu pf pl pc pv qf ql qc qv b g cp ax al ac A)).trans so6)
        have z0 := hW.bel.cell s0
        have z1 := hW.bel.cell s1
        have z2 := hW.bel.cell s2
        have z3 := hW.bel.cell s3
        have z4 := hW.bel.cell s4
        refine ob_val rfl (v := .agg #[.int .i64 2, .int .i64 pf, .int .i64 pl, .int .i64 pc, .int .i64 pv]) (by simp [execOp, go_sem, e6, z0, z1, z2, z3, z4]) ⟨b, g, cp, ax, al, ac, A, frC_put hD (by simp [VH8]) (VH8_nd _ _ _ _ _ _ _ _ _ _ _ _ _ _ _ _ _ _ _ _ _ _ _ _) (VH8_nd' _ _ _ _ _ _ _ _ _ _ _ _ _ _ _ _ _ _ _ _ _ _ _ _), hW.step (VH8_st _ _ _ _ _ _ _ _ _ _ _ _) (Bel.refl W) (by simp [VH8_F])⟩
      · rintro D _ W hD hcl hdeps ⟨b, g, cp, ax, al, ac, A, rfl, hW⟩
        have e7 := ev_get ((frC_out (a0 := a0) (D := D) (VH8_not7 a1 a2 n1 c1 n2 c2 bx bY bu pf pl pc pv qf ql qc qv b g cp ax al ac A)).trans so7)
        have z0 := hW.bel.cell t0
        have z1 := hW.bel.cell t1
        have z2 := hW.bel.cell t2
        have z3 := hW.bel.cell t3
        have z4 := hW.bel.cell t4
        refine ob_val rfl (v := .agg #[.int .i64 2, .int .i64 qf, .int .i64 ql, .int .i64 qc, .int .i64 qv]) (by simp [execOp, go_sem, e7, z0, z1, z2, z3, z4]) ⟨b, g, cp, ax, al, ac, A, frC_put hD (by simp [VH8]) (VH8_nd _ _ _ _ _ _ _ _ _ _ _ _ _ _ _ _ _ _ _ _ _ _ _ _) (VH8_nd' _ _ _ _ _ _ _ _ _ _ _ _ _ _ _ _ _ _ _ _ _ _ _ _), hW.step (VH8_st _ _ _ _ _ _ _ _ _ _ _ _) (Bel.refl W) (by simp [VH8_F])⟩
      · rintro D _ W hD hcl hdeps ⟨b, g, cp, ax, al, ac, A, rfl, hW⟩
        have hd7 : D 7 = true := hdeps ⟨7, .data⟩ (by simp) rfl
        have e47 := ev_get (frC_in (v := .agg #[.int .i64 2, .int .i64 qf, .int .i64 ql, .int .i64 qc, .int .i64 qv]) hd7 (show 47 < a0.tmps.size by rw [hsz]; decide) (vs := VH8 a1 a2 n1 c1 n2 c2 bx bY bu pf pl pc pv qf ql qc qv b g cp ax al ac A) (by simp [VH8]) (VH8_nd _ _ _ _ _ _ _ _ _ _ _ _ _ _ _ _ _ _ _ _ _ _ _ _))
        have hd8 : D 8 = true := hdeps ⟨8, .data⟩ (by simp) rfl
        have e48 := ev_get (frC_in (v := .agg #[.int .i64 8, .int .i64 pf, .int .i64 pl, .int .i64 pc, .int .i64 pv]) hd8 (show 48 < a0.tmps.size by rw [hsz]; decide) (vs := VH8 a1 a2 n1 c1 n2 c2 bx bY bu pf pl pc pv qf ql qc qv b g cp ax al ac A) (by simp [VH8]) (VH8_nd _ _ _ _ _ _ _ _ _ _ _ _ _ _ _ _ _ _ _ _ _ _ _ _))
        have hd9 : D 9 = true := hdeps ⟨9, .data⟩ (by simp) rfl
        have e49 := ev_get (frC_in (v := .agg #[.int .i64 2, .int .i64 pf, .int .i64 pl, .int .i64 pc, .int .i64 pv]) hd9 (show 49 < a0.tmps.size by rw [hsz]; decide) (vs := VH8 a1 a2 n1 c1 n2 c2 bx bY bu pf pl pc pv qf ql qc qv b g cp ax al ac A) (by simp [VH8]) (VH8_nd _ _ _ _ _ _ _ _ _ _ _ _ _ _ _ _ _ _ _ _ _ _ _ _))
        have hd10 : D 10 = true := hdeps ⟨10, .data⟩ (by simp) rfl
        have e50 := ev_get (frC_in (v := .agg #[.int .i64 2, .int .i64 qf, .int .i64 ql, .int .i64 qc, .int .i64 qv]) hd10 (show 50 < a0.tmps.size by rw [hsz]; decide) (vs := VH8 a1 a2 n1 c1 n2 c2 bx bY bu pf pl pc pv qf ql qc qv b g cp ax al ac A) (by simp [VH8]) (VH8_nd _ _ _ _ _ _ _ _ _ _ _ _ _ _ _ _ _ _ _ _ _ _ _ _))
        refine ob_val rfl (v := .slice (some ⟨W.heap.size, 0, none⟩) 4 4) (w' := W.alloc (.cells #[.int .i64 2, .int .i64 qf, .int .i64 ql, .int .i64 qc, .int .i64 qv, .int .i64 8, .int .i64 pf, .int .i64 pl, .int .i64 pc, .int .i64 pv, .int .i64 2, .int .i64 pf, .int .i64 pl, .int .i64 pc, .int .i64 pv, .int .i64 2, .int .i64 qf, .int .i64 ql, .int .i64 qc, .int .i64 qv] 29)) (by simp [execOp, go_sem, e47, e48, e49, e50]) ?_
        have hb2 : Bel W (W.alloc (.cells #[.int .i64 2, .int .i64 qf, .int .i64 ql, .int .i64 qc, .int .i64 qv, .int .i64 8, .int .i64 pf, .int .i64 pl, .int .i64 pc, .int .i64 pv, .int .i64 2, .int .i64 pf, .int .i64 pl, .int .i64 pc, .int .i64 pv, .int .i64 2, .int .i64 qf, .int .i64 ql, .int .i64 qc, .int .i64 qv] 29)) := (Bel.refl W).alloc _
        refine ⟨W.heap.size, g, cp, ax, al, ac, A, by rw [show frC a0 D (VH8 a1 a2 n1 c1 n2 c2 bx bY bu pf pl pc pv qf ql qc qv b g cp ax al ac A) = frC a0 D (VH8 a1 a2 n1 c1 n2 c2 bx bY bu pf pl pc pv qf ql qc qv (W.heap.size) g cp ax al ac A) from by simp only [VH8, frC, hD, Bool.false_eq_true, if_false]]; exact frC_put hD (by simp [VH8]) (VH8_nd _ _ _ _ _ _ _ _ _ _ _ _ _ _ _ _ _ _ _ _ _ _ _ _) (VH8_nd' _ _ _ _ _ _ _ _ _ _ _ _ _ _ _ _ _ _ _ _ _ _ _ _), ?_⟩
        refine hW.new (VH8_st _ _ _ _ _ _ _ _ _ _ _ _) hb2 ?_
        intro f hf
        simp only [VH8_F, List.mem_cons, List.not_mem_nil, or_false] at hf
        rcases hf with rfl | rfl | rfl
        · exact .inl ⟨by simp, fun hg => Blk.new W _ [.int .i64 2, .int .i64 qf, .int .i64 ql, .int .i64 qc, .int .i64 qv, .int .i64 8, .int .i64 pf, .int .i64 pl, .int .i64 pc, .int .i64 pv, .int .i64 2, .int .i64 pf, .int .i64 pl, .int .i64 pc, .int .i64 pv, .int .i64 2, .int .i64 qf, .int .i64 ql, .int .i64 qc, .int .i64 qv]⟩
        · exact .inr ⟨by simp, by simp [VH8_F]⟩
        · exact .inr ⟨by simp, by simp [VH8_F]⟩
      · rintro D _ W hD hcl hdeps ⟨b, g, cp, ax, al, ac, A, rfl, hW⟩
        have hd6 : D 6 = true := hdeps ⟨6, .data⟩ (by simp) rfl
        have E46 := frC_in (v := .slice a2 n2 n2) hd6 (show 46 < a0.tmps.size by rw [hsz]; decide) (vs := VH8 a1 a2 n1 c1 n2 c2 bx bY bu pf pl pc pv qf ql qc qv b g cp ax al ac A) (by simp [VH8]) (VH8_nd _ _ _ _ _ _ _ _ _ _ _ _ _ _ _ _ _ _ _ _ _ _ _ _)
        have hd11 : D 11 = true := hdeps ⟨11, .data⟩ (by simp) rfl
        have E51 := frC_in (v := .slice (some ⟨b, 0, none⟩) 4 4) hd11 (show 51 < a0.tmps.size by rw [hsz]; decide) (vs := VH8 a1 a2 n1 c1 n2 c2 bx bY bu pf pl pc pv qf ql qc qv b g cp ax al ac A) (by simp [VH8]) (VH8_nd _ _ _ _ _ _ _ _ _ _ _ _ _ _ _ _ _ _ _ _ _ _ _ _)
        have hbx := hW.get (k := 0) rfl (fun i hi => by simp at hi; subst hi; exact hd11)
        refine step_lcat rfl (.tmp 46) (.tmp 51) rfl a2 n2 S E46 (HS.out.bel (HBW.out.trans hW.bel)) b 4 [⟨2, qf, ql, qc, qv⟩, ⟨8, pf, pl, pc, pv⟩, ⟨2, pf, pl, pc, pv⟩, ⟨2, qf, ql, qc, qv⟩] E51 hbx rfl (by omega) (by omega) (by omega) ?_
        intro g7 cp7 w7 ho7 hb7
        refine ⟨b, g7, cp7, ax, al, ac, A, by rw [show frC a0 D (VH8 a1 a2 n1 c1 n2 c2 bx bY bu pf pl pc pv qf ql qc qv b g cp ax al ac A) = frC a0 D (VH8 a1 a2 n1 c1 n2 c2 bx bY bu pf pl pc pv qf ql qc qv b (g7) (cp7) ax al ac A) from by simp only [VH8, frC, hD, Bool.false_eq_true, if_false]]; exact frC_put hD (by simp [VH8]) (VH8_nd _ _ _ _ _ _ _ _ _ _ _ _ _ _ _ _ _ _ _ _ _ _ _ _) (VH8_nd' _ _ _ _ _ _ _ _ _ _ _ _ _ _ _ _ _ _ _ _ _ _ _ _), ?_⟩
        refine hW.new (VH8_st _ _ _ _ _ _ _ _ _ _ _ _) hb7 ?_
        intro f hf
        simp only [VH8_F, List.mem_cons, List.not_mem_nil, or_false] at hf
        rcases hf with rfl | rfl | rfl
        · exact .inr ⟨by simp, by simp [VH8_F]⟩
        · exact .inl ⟨by simp, fun hg => ho7⟩
        · exact .inr ⟨by simp, by simp [VH8_F]⟩
      · rintro D _ W hD hcl hdeps ⟨b, g, cp, ax, al, ac, A, rfl, hW⟩
        have hd0 : D 0 = true := hdeps ⟨0, .data⟩ (by simp) rfl
        have e40 := ev_get (frC_in (v := .slice a1 n1 c1) hd0 (show 40 < a0.tmps.size by rw [hsz]; decide) (vs := VH8 a1 a2 n1 c1 n2 c2 bx bY bu pf pl pc pv qf ql qc qv b g cp ax al ac A) (by simp [VH8]) (VH8_nd _ _ _ _ _ _ _ _ _ _ _ _ _ _ _ _ _ _ _ _ _ _ _ _))
        have hd12 : D 12 = true := hdeps ⟨12, .data⟩ (by simp) rfl
        have e52 := ev_get (frC_in (v := .slice (some ⟨g, 0, none⟩) (n2 + 4) cp) hd12 (show 52 < a0.tmps.size by rw [hsz]; decide) (vs := VH8 a1 a2 n1 c1 n2 c2 bx bY bu pf pl pc pv qf ql qc qv b g cp ax al ac A) (by simp [VH8]) (VH8_nd _ _ _ _ _ _ _ _ _ _ _ _ _ _ _ _ _ _ _ _ _ _ _ _))
        refine ob_enter' rfl (f := 9) (args := #[.slice a1 n1 c1, .slice (some ⟨g, 0, none⟩) (n2 + 4) cp]) (w' := W) (by simp [go_sem, e40, e52]) ((HLN.out W g cp hW.bel (hW.get (k := 1) rfl (fun i hi => by simp at hi; subst hi; exact hd12))).mono ?_)
        rintro e w2 ⟨ax2, al2, ac2, A2, rfl, hla, hal, hru, hb2⟩
        have hn14 : D 14 = false := by cases h : D 14; rfl; have := hcl 14 _ rfl h ⟨13, .data⟩ (by simp) rfl; rw [hD] at this; cases this
        refine ⟨.slice ax2 al2 ac2, rfl, b, g, cp, ax2, al2, ac2, A2, by rw [show frC a0 D (VH8 a1 a2 n1 c1 n2 c2 bx bY bu pf pl pc pv qf ql qc qv b g cp ax al ac A) = frC a0 D (VH8 a1 a2 n1 c1 n2 c2 bx bY bu pf pl pc pv qf ql qc qv b g cp (ax2) (al2) (ac2) (A2)) from by simp only [VH8, frC, hD, hn14, Bool.false_eq_true, if_false]]; exact frC_put hD (by simp [VH8]) (VH8_nd _ _ _ _ _ _ _ _ _ _ _ _ _ _ _ _ _ _ _ _ _ _ _ _) (VH8_nd' _ _ _ _ _ _ _ _ _ _ _ _ _ _ _ _ _ _ _ _ _ _ _ _), ?_⟩
        refine hW.new (VH8_st _ _ _ _ _ _ _ _ _ _ _ _) hb2 ?_
        intro f hf
        simp only [VH8_F, List.mem_cons, List.not_mem_nil, or_false] at hf
        rcases hf with rfl | rfl | rfl
        · exact .inr ⟨by simp, by simp [VH8_F]⟩
        · exact .inr ⟨by simp, by simp [VH8_F]⟩
        · exact .inl ⟨by simp, fun hg => ⟨hla, hal, hru⟩⟩
      · rintro D _ W hD hcl hdeps ⟨b, g, cp, ax, al, ac, A, rfl, hW⟩
        have hd13 : D 13 = true := hdeps ⟨13, .data⟩ (by simp) rfl
        have e53 := ev_get (frC_in (v := .slice ax al ac) hd13 (show 53 < a0.tmps.size by rw [hsz]; decide) (vs := VH8 a1 a2 n1 c1 n2 c2 bx bY bu pf pl pc pv qf ql qc qv b g cp ax al ac A) (by simp [VH8]) (VH8_nd _ _ _ _ _ _ _ _ _ _ _ _ _ _ _ _ _ _ _ _ _ _ _ _))
        refine ob_val rfl (v := .slice ax al ac) (by simp [execOp, go_sem, e53]) ⟨b, g, cp, ax, al, ac, A, frC_put hD (by simp [VH8]) (VH8_nd _ _ _ _ _ _ _ _ _ _ _ _ _ _ _ _ _ _ _ _ _ _ _ _) (VH8_nd' _ _ _ _ _ _ _ _ _ _ _ _ _ _ _ _ _ _ _ _ _ _ _ _), hW.step (VH8_st _ _ _ _ _ _ _ _ _ _ _ _) (Bel.refl W) (by simp [VH8_F])⟩
    · rintro D _ wf hall ⟨b, g, cp, ax, al, ac, A, rfl, hW⟩
      have hf0 := hW.get (k := 0) rfl (fun i hi => hall i (by simp at hi; show i < 15; omega))
      have hf1 := hW.get (k := 1) rfl (fun i hi => hall i (by simp at hi; show i < 15; omega))
      have hf2 := hW.get (k := 2) rfl (fun i hi => hall i (by simp at hi; show i < 15; omega))
      have hbW := hW.bel
      rw [frC_all (fun e he => hall e.1 (by have h1 : e.1 ∈ (VH8 a1 a2 n1 c1 n2 c2 bx bY bu pf pl pc pv qf ql qc qv b g cp ax al ac A).map (·.1) := List.mem_map.2 ⟨e, he, rfl⟩; rw [VH8_idx] at h1; simp at h1; show e.1 < 15; omega))]
      have HA1 := Lib.hid hf2
      have HWF : Hid (Bel w wf ∧ Blk wf bx 29 [.int .i64 2, .int .i64 pf, .int .i64 pl, .int .i64 pc, .int .i64 pv] ∧ Blk wf bY 29 [.int .i64 2, .int .i64 qf, .int .i64 ql, .int .i64 qc, .int .i64 qv]) := Lib.hid ⟨HE.out.1.trans hbW, HE.out.2.1.bel hbW, HE.out.2.2.bel hbW⟩
      rw [HA0.out]
      simp only [VH8, List.foldr_cons, List.foldr_nil, Act.put, List.setIfInBounds_toArray, List.set_cons_succ, List.set_cons_zero]
      clear hf0 hf1 hf2 hbW hW hall HA0 so0 so1 so6 so7 so9 hsz HE HU2 HBW HLN HW s0 s1 s2 s3 s4 t0 t1 t2 t3 t4 x0 x1 x2 x3 x4
      have HWB := Lib.hid HWF.out.1
      obtain ⟨i, rfl⟩ : ∃ i : Nat, pf = (i : Int) := ⟨pf.toNat, by have := HPQ.out.1.f0; simp only at this; omega⟩
      have hin : i < n1 := by have h := HPQ.out.1.f1; have := HRS.out.1; simp only at h; omega
      obtain ⟨rb, ro, rfl, hrc⟩ := HR.out.2 (by omega)
      obtain ⟨e, he⟩ : ∃ e, R[i]? = some e := ⟨_, List.getElem?_eq_getElem (by rw [HRS.out.1]; exact hin)⟩
      obtain ⟨d0, d1⟩ := hrc i e he
      replace d0 := HWB.out.cell d0
      replace d1 := HWB.out.cell d1
      obtain ⟨xa, xb, xc, ha0, ha2, ha3, hins, hsame⟩ := have_law HQ.out.ro HSO.out HPQ.out.1.f0 HPQ.out.1.f1 HPQ.out.2.f0 HPQ.out.2.f1 HA1.out.2.2
      rw [HRS.out.2] at ha0 ha2 ha3
      have hfe : fsOf R i = e.1 := by unfold fsOf; rw [List.getD_eq_getElem?_getD, he]; rfl
      have hle : lsOf R i = e.2 := by unfold lsOf; rw [List.getD_eq_getElem?_getD, he]; rfl
      rw [Int.toNat_natCast, hfe, hle] at hins
      have hal1 : al = n2 + 4 := by rw [HA1.out.2.1, HA1.out.2.2.1, List.length_append, HRS.out.2]; rfl
      obtain ⟨_, _, e1, _, _, hC1⟩ := HA1.out.1.read
      injection e1 with e1a e1b e1c
      subst e1a e1c
      obtain ⟨g1, rfl, hc1⟩ := hC1 (by omega)
      obtain ⟨_, _, _, p0, _, _, _, _, _, _, _⟩ := hc1 n2 xa ha0
      obtain ⟨_, _, _, p2, _, _, _, _, _, _, _⟩ := hc1 (n2 + 2) xb ha2
      obtain ⟨_, _, _, p3, _, _, _, _, _, _, _⟩ := hc1 (n2 + 3) xc ha3
      subst hal1
      obtain ⟨ef, el⟩ := e
      simp only at d0 d1 hins
      clear hrc he ha0 ha2 ha3 hfe hle hC1 hc1 e1b HA1
      have HCC := Lib.hid (And.intro p0 (And.intro p2 p3))
      have HIN := Lib.hid (And.intro hins hsame)
      clear p0 p2 p3 hins hsame
      have HZ : Hid (Blk (wf.alloc (.cells #[.int .i64 ef, .int .i64 el] 40)) wf.heap.size 40 [.int .i64 ef, .int .i64 el] ∧ Bel w (wf.alloc (.cells #[.int .i64 ef, .int .i64 el] 40)) ∧ Bel wf (wf.alloc (.cells #[.int .i64 ef, .int .i64 el] 40))) := Lib.hid ⟨Blk.new wf 40 [_, _], HWF.out.1.alloc _, (Bel.refl wf).alloc _⟩
      have s1 : wf.cell? ⟨bx, 1, none⟩ = some (.int .i64 (i : Int)) := HWF.out.2.1.cell 1
      go_upto_region 13 with (fail)
      generalize (wf.alloc (.cells #[.int .i64 ef, .int .i64 el] 40)) = wg at HZ ⊢
      generalize hbr : wf.heap.size = br at HZ ⊢
      clear hbr s1 d0 d1
      have s1 : wg.cell? ⟨bx, 1, none⟩ = some (.int .i64 (i : Int)) := (HWF.out.2.1.bel HZ.out.2.2).cell 1
      have s2 : wg.cell? ⟨bx, 2, none⟩ = some (.int .i64 pl) := (HWF.out.2.1.bel HZ.out.2.2).cell 2
      have t1 : wg.cell? ⟨bY, 1, none⟩ = some (.int .i64 qf) := (HWF.out.2.2.bel HZ.out.2.2).cell 1
      have t2 : wg.cell? ⟨bY, 2, none⟩ = some (.int .i64 ql) := (HWF.out.2.2.bel HZ.out.2.2).cell 2
      have y0 : wg.cell? ⟨br, 0, none⟩ = some (.int .i64 ef) := HZ.out.1.cell 0
      have y1 : wg.cell? ⟨br, 1, none⟩ = some (.int .i64 el) := HZ.out.1.cell 1
      have p0 := HZ.out.2.2.cell HCC.out.1
      have p2 := HZ.out.2.2.cell HCC.out.2.1
      have p3 := HZ.out.2.2.cell HCC.out.2.2
      have HBZ := Lib.hid HZ.out.2.1
      have j0 : (0 : Int) ≤ (n2 : Int) := by omega
      have j1 : (n2 : Int) < (n2 : Int) + 4 := by omega
      have j2 : (n2 : Int) + 2 < (n2 : Int) + 4 := by omega
      have j3 : (n2 : Int) + 3 < (n2 : Int) + 4 := by omega
      have j4 : (0 : Int) ≤ (n2 : Int) + 2 := by omega
      have j5 : (0 : Int) ≤ (n2 : Int) + 3 := by omega
      clear HZ HCC HWF HWB
      by_cases h1 : ef ≤ pl
      · by_cases h2 : pl ≤ el
        · have hb : xb.ok = true := by rw [HIN.out.1]; simp [h1, h2]
          rw [hb] at p2
          clear hb
          by_cases k1 : (i : Int) = qf
          · have e1 : ((i : Int) == qf) = true := by simp [k1]
            by_cases k2 : pl = ql
            · have e2 : (pl == ql) = true := by simp [k2]
              clear k1 k2
              go_upto_region 15 with (fail)
              go_quiet (fail)
              go_wp2
              go_ret
              exact ⟨rfl, HBZ.out.drewN nq⟩
            · have e2 : (pl == ql) = false := by simp [k2]
              have hs := HIN.out.2 (fun h => k2 h.2)
              rw [hs] at p0
              generalize xc.ok = ok at p0 p3
              have e3 : (ok == ok) = true := by simp
              clear hs
              clear k1 k2
              go_upto_region 15 with (fail)
              go_quiet (fail)
              go_wp2
              go_ret
              exact ⟨rfl, HBZ.out.drewN nq⟩
          · have e1 : ((i : Int) == qf) = false := by simp [k1]
            have hs := HIN.out.2 (fun h => k1 h.1)
            rw [hs] at p0
            generalize xc.ok = ok at p0 p3
            have e3 : (ok == ok) = true := by simp
            clear hs
            clear k1
            go_upto_region 15 with (fail)
            go_quiet (fail)
            go_wp2
            go_ret
            exact ⟨rfl, HBZ.out.drewN nq⟩
        · have hb : xb.ok = false := by rw [HIN.out.1]; simp [h2]
          rw [hb] at p2
          clear hb
          by_cases k1 : (i : Int) = qf
          · have e1 : ((i : Int) == qf) = true := by simp [k1]
            by_cases k2 : pl = ql
            · have e2 : (pl == ql) = true := by simp [k2]
              clear k1 k2
              go_upto_region 15 with (fail)
              go_quiet (fail)
              go_wp2
              go_ret
              exact ⟨rfl, HBZ.out.drewN nq⟩
            · have e2 : (pl == ql) = false := by simp [k2]
              have hs := HIN.out.2 (fun h => k2 h.2)
              rw [hs] at p0
              generalize xc.ok = ok at p0 p3
              have e3 : (ok == ok) = true := by simp
              clear hs
              clear k1 k2
              go_upto_region 15 with (fail)
              go_quiet (fail)
              go_wp2
              go_ret
              exact ⟨rfl, HBZ.out.drewN nq⟩
          · have e1 : ((i : Int) == qf) = false := by simp [k1]
            have hs := HIN.out.2 (fun h => k1 h.1)
            rw [hs] at p0
            generalize xc.ok = ok at p0 p3
            have e3 : (ok == ok) = true := by simp
            clear hs
            clear k1
            go_upto_region 15 with (fail)
            go_quiet (fail)
            go_wp2
            go_ret
            exact ⟨rfl, HBZ.out.drewN nq⟩
      · have hb : xb.ok = false := by rw [HIN.out.1]; simp [h1]
        rw [hb] at p2
        clear hb
        by_cases k1 : (i : Int) = qf
        · have e1 : ((i : Int) == qf) = true := by simp [k1]
          by_cases k2 : pl = ql
          · have e2 : (pl == ql) = true := by simp [k2]
            clear k1 k2
            go_upto_region 15 with (fail)
            go_quiet (fail)
            go_wp2
            go_ret
            exact ⟨rfl, HBZ.out.drewN nq⟩
          · have e2 : (pl == ql) = false := by simp [k2]
            have hs := HIN.out.2 (fun h => k2 h.2)
            rw [hs] at p0
            generalize xc.ok = ok at p0 p3
            have e3 : (ok == ok) = true := by simp
            clear hs
            clear k1 k2
            go_upto_region 15 with (fail)
            go_quiet (fail)
            go_wp2
            go_ret
            exact ⟨rfl, HBZ.out.drewN nq⟩
        · have e1 : ((i : Int) == qf) = false := by simp [k1]
          have hs := HIN.out.2 (fun h => k1 h.1)
          rw [hs] at p0
          generalize xc.ok = ok at p0 p3
          have e3 : (ok == ok) = true := by simp
          clear hs
          clear k1
          go_upto_region 15 with (fail)
          go_quiet (fail)
          go_wp2
          go_ret
          exact ⟨rfl, HBZ.out.drewN nq⟩
end Go.Proofs.Ytangceejmjklcaa
