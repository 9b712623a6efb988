/- The walk of FnLinesApart. -/
import Derived.Test.YtangceejmjklcaaLsQ
import Derived.BigQuiet
import Derived.BigRegion
namespace Go.Proofs.Ytangceejmjklcaa
open Go.RowKit Go.BigFrame
set_option linter.unusedVariables false
set_option linter.unusedSimpArgs false

/-- The values of the operations. -/
def VA4 (a1 a2 : Option Addr) (n1 c1 n2 c2 : Nat) (bx : Nat) (pf pl pc pv : Int) (b : Nat) (g : Nat) (cp : Nat) (kb : Bool) : List (Nat × Nat × Value) := [(0, 23, .slice a1 n1 c1), (1, 24, .slice a2 n2 c2), (2, 25, .slice a2 n2 c2), (3, 26, .int .i64 (n2 : Int)), (4, 27, .slice a2 n2 c2), (5, 28, .int .i64 (n2 : Int)), (6, 29, .slice a2 n2 n2), (7, 30, .agg #[.int .i64 3, .int .i64 pf, .int .i64 pl, .int .i64 pc, .int .i64 pv]), (8, 31, .slice (some ⟨b, 0, none⟩) 1 1), (9, 32, .slice (some ⟨g, 0, none⟩) (n2 + 1) cp), (10, 33, .bool kb), (11, 34, .bool (!kb))]
theorem VA4_slots (a1 a2 : Option Addr) (n1 c1 n2 c2 : Nat) (bx : Nat) (pf pl pc pv : Int) (b : Nat) (g : Nat) (cp : Nat) (kb : Bool) : (VA4 a1 a2 n1 c1 n2 c2 bx pf pl pc pv b g cp kb).map (·.2.1) = [23, 24, 25, 26, 27, 28, 29, 30, 31, 32, 33, 34] := rfl
theorem VA4_idx (a1 a2 : Option Addr) (n1 c1 n2 c2 : Nat) (bx : Nat) (pf pl pc pv : Int) (b : Nat) (g : Nat) (cp : Nat) (kb : Bool) : (VA4 a1 a2 n1 c1 n2 c2 bx pf pl pc pv b g cp kb).map (·.1) = [0, 1, 2, 3, 4, 5, 6, 7, 8, 9, 10, 11] := rfl
theorem VA4_nd (a1 a2 : Option Addr) (n1 c1 n2 c2 : Nat) (bx : Nat) (pf pl pc pv : Int) (b : Nat) (g : Nat) (cp : Nat) (kb : Bool) : ((VA4 a1 a2 n1 c1 n2 c2 bx pf pl pc pv b g cp kb).map (·.2.1)).Nodup := by rw [VA4_slots]; decide
theorem VA4_nd' (a1 a2 : Option Addr) (n1 c1 n2 c2 : Nat) (bx : Nat) (pf pl pc pv : Int) (b : Nat) (g : Nat) (cp : Nat) (kb : Bool) : ((VA4 a1 a2 n1 c1 n2 c2 bx pf pl pc pv b g cp kb).map (·.1)).Nodup := by rw [VA4_idx]; decide
theorem VA4_not0 (a1 a2 : Option Addr) (n1 c1 n2 c2 : Nat) (bx : Nat) (pf pl pc pv : Int) (b : Nat) (g : Nat) (cp : Nat) (kb : Bool) : 0 ∉ (VA4 a1 a2 n1 c1 n2 c2 bx pf pl pc pv b g cp kb).map (·.2.1) := by rw [VA4_slots]; decide
theorem VA4_not1 (a1 a2 : Option Addr) (n1 c1 n2 c2 : Nat) (bx : Nat) (pf pl pc pv : Int) (b : Nat) (g : Nat) (cp : Nat) (kb : Bool) : 1 ∉ (VA4 a1 a2 n1 c1 n2 c2 bx pf pl pc pv b g cp kb).map (·.2.1) := by rw [VA4_slots]; decide
theorem VA4_not5 (a1 a2 : Option Addr) (n1 c1 n2 c2 : Nat) (bx : Nat) (pf pl pc pv : Int) (b : Nat) (g : Nat) (cp : Nat) (kb : Bool) : 5 ∉ (VA4 a1 a2 n1 c1 n2 c2 bx pf pl pc pv b g cp kb).map (·.2.1) := by rw [VA4_slots]; decide
/-- What the operations bring about. -/
def VA4_F (n m : Nat) (S T : List Pl.LStep) (R : List Pl.Ent) (b : Nat) (g : Nat) (cp : Nat) (kb : Bool) : List Fact := [([8], fun W => Blk W b 29 (lsCells T)), ([9], fun W => LSt W (some ⟨g, 0, none⟩) (n + m) (S ++ T)), ([10], fun _ => kb = true → KnownQ R (S ++ T))]
theorem VA4_st (n m : Nat) (S T : List Pl.LStep) (R : List Pl.Ent) (b : Nat) (g : Nat) (cp : Nat) (kb : Bool) : Stab (VA4_F n m S T R b g cp kb) := (Stab.cons (fun _ _ hb h => h.bel hb) (Stab.cons (fun _ _ hb h => h.bel hb) (Stab.cons (fun _ _ _ h => h) Stab.nil)))
/-- The values of the operations. -/
def VA13 (a1 a2 : Option Addr) (n1 c1 j c2 : Nat) (bx : Nat) (pf pl pc pv : Int) (b : Nat) (g : Nat) (cp : Nat) (ax : Option Addr) (al : Nat) (ac : Nat) (A : List Pl.LAns) : List (Nat × Nat × Value) := [(0, 57, .slice a1 n1 c1), (1, 58, .slice a2 j c2), (2, 59, .slice a2 j c2), (3, 60, .int .i64 (j : Int)), (4, 61, .slice a2 j c2), (5, 62, .int .i64 (j : Int)), (6, 63, .slice a2 j j), (7, 64, .agg #[.int .i64 3, .int .i64 pf, .int .i64 pl, .int .i64 pc, .int .i64 pv]), (8, 65, .slice (some ⟨b, 0, none⟩) 1 1), (9, 66, .slice (some ⟨g, 0, none⟩) (j + 1) cp), (10, 67, .slice ax al ac), (11, 10, .slice ax al ac)]
theorem VA13_slots (a1 a2 : Option Addr) (n1 c1 j c2 : Nat) (bx : Nat) (pf pl pc pv : Int) (b : Nat) (g : Nat) (cp : Nat) (ax : Option Addr) (al : Nat) (ac : Nat) (A : List Pl.LAns) : (VA13 a1 a2 n1 c1 j c2 bx pf pl pc pv b g cp ax al ac A).map (·.2.1) = [57, 58, 59, 60, 61, 62, 63, 64, 65, 66, 67, 10] := rfl
theorem VA13_idx (a1 a2 : Option Addr) (n1 c1 j c2 : Nat) (bx : Nat) (pf pl pc pv : Int) (b : Nat) (g : Nat) (cp : Nat) (ax : Option Addr) (al : Nat) (ac : Nat) (A : List Pl.LAns) : (VA13 a1 a2 n1 c1 j c2 bx pf pl pc pv b g cp ax al ac A).map (·.1) = [0, 1, 2, 3, 4, 5, 6, 7, 8, 9, 10, 11] := rfl
theorem VA13_nd (a1 a2 : Option Addr) (n1 c1 j c2 : Nat) (bx : Nat) (pf pl pc pv : Int) (b : Nat) (g : Nat) (cp : Nat) (ax : Option Addr) (al : Nat) (ac : Nat) (A : List Pl.LAns) : ((VA13 a1 a2 n1 c1 j c2 bx pf pl pc pv b g cp ax al ac A).map (·.2.1)).Nodup := by rw [VA13_slots]; decide
theorem VA13_nd' (a1 a2 : Option Addr) (n1 c1 j c2 : Nat) (bx : Nat) (pf pl pc pv : Int) (b : Nat) (g : Nat) (cp : Nat) (ax : Option Addr) (al : Nat) (ac : Nat) (A : List Pl.LAns) : ((VA13 a1 a2 n1 c1 j c2 bx pf pl pc pv b g cp ax al ac A).map (·.1)).Nodup := by rw [VA13_idx]; decide
theorem VA13_not0 (a1 a2 : Option Addr) (n1 c1 j c2 : Nat) (bx : Nat) (pf pl pc pv : Int) (b : Nat) (g : Nat) (cp : Nat) (ax : Option Addr) (al : Nat) (ac : Nat) (A : List Pl.LAns) : 0 ∉ (VA13 a1 a2 n1 c1 j c2 bx pf pl pc pv b g cp ax al ac A).map (·.2.1) := by rw [VA13_slots]; decide
theorem VA13_not1 (a1 a2 : Option Addr) (n1 c1 j c2 : Nat) (bx : Nat) (pf pl pc pv : Int) (b : Nat) (g : Nat) (cp : Nat) (ax : Option Addr) (al : Nat) (ac : Nat) (A : List Pl.LAns) : 1 ∉ (VA13 a1 a2 n1 c1 j c2 bx pf pl pc pv b g cp ax al ac A).map (·.2.1) := by rw [VA13_slots]; decide
theorem VA13_not5 (a1 a2 : Option Addr) (n1 c1 j c2 : Nat) (bx : Nat) (pf pl pc pv : Int) (b : Nat) (g : Nat) (cp : Nat) (ax : Option Addr) (al : Nat) (ac : Nat) (A : List Pl.LAns) : 5 ∉ (VA13 a1 a2 n1 c1 j c2 bx pf pl pc pv b g cp ax al ac A).map (·.2.1) := by rw [VA13_slots]; decide
/-- What the operations bring about. -/
def VA13_F (n m : Nat) (S T : List Pl.LStep) (R : List Pl.Ent) (b : Nat) (g : Nat) (cp : Nat) (ax : Option Addr) (al : Nat) (ac : Nat) (A : List Pl.LAns) : List Fact := [([8], fun W => Blk W b 29 (lsCells T)), ([9], fun W => LSt W (some ⟨g, 0, none⟩) (n + m) (S ++ T)), ([10], fun W => LAnE W (.slice ax al ac) A ∧ al = A.length ∧ Pl.Runs (fsOf R) (nsOf R) R.length (S ++ T) A)]
theorem VA13_st (n m : Nat) (S T : List Pl.LStep) (R : List Pl.Ent) (b : Nat) (g : Nat) (cp : Nat) (ax : Option Addr) (al : Nat) (ac : Nat) (A : List Pl.LAns) : Stab (VA13_F n m S T R b g cp ax al ac A) := (Stab.cons (fun _ _ hb h => h.bel hb) (Stab.cons (fun _ _ hb h => h.bel hb) (Stab.cons (fun _ _ hb h => ⟨h.1.bel hb, h.2⟩) Stab.nil)))
/-- The values of the operations. -/
def VA17 (a2 x7 : Option Addr) (g1 ac j c2 g2 ac2 m y7 : Nat) (ok : Bool) (va : Int) (ex1 ex2 ex3 fx1 fx2 fx3 : Option Addr) (en1 ec1 en2 ec2 en3 ec3 fn1 fc1 fn2 fc2 fn3 fc3 : Nat) (b : Nat) (c : Nat) : List (Nat × Nat × Value) := [(0, 88, .slice (some ⟨g1, 0, none⟩) (j + 1) ac), (1, 89, .slice a2 j c2), (2, 90, .int .i64 (j : Int)), (3, 91, .pointer (some ⟨g1, j * 5, none⟩)), (4, 92, .agg #[.bool ok, .int .i64 va, .slice ex1 en1 ec1, .slice ex2 en2 ec2, .slice ex3 en3 ec3]), (5, 93, .slice (some ⟨g2, 0, none⟩) (m + 1) ac2), (6, 94, .slice x7 m y7), (7, 95, .int .i64 (m : Int)), (8, 96, .pointer (some ⟨g2, m * 5, none⟩)), (9, 97, .agg #[.bool ok, .int .i64 va, .slice fx1 fn1 fc1, .slice fx2 fn2 fc2, .slice fx3 fn3 fc3]), (10, 12, .pointer (some ⟨b, 0, none⟩)), (11, 13, .pointer (some ⟨c, 0, none⟩))]
theorem VA17_slots (a2 x7 : Option Addr) (g1 ac j c2 g2 ac2 m y7 : Nat) (ok : Bool) (va : Int) (ex1 ex2 ex3 fx1 fx2 fx3 : Option Addr) (en1 ec1 en2 ec2 en3 ec3 fn1 fc1 fn2 fc2 fn3 fc3 : Nat) (b : Nat) (c : Nat) : (VA17 a2 x7 g1 ac j c2 g2 ac2 m y7 ok va ex1 ex2 ex3 fx1 fx2 fx3 en1 ec1 en2 ec2 en3 ec3 fn1 fc1 fn2 fc2 fn3 fc3 b c).map (·.2.1) = [88, 89, 90, 91, 92, 93, 94, 95, 96, 97, 12, 13] := rfl
theorem VA17_idx (a2 x7 : Option Addr) (g1 ac j c2 g2 ac2 m y7 : Nat) (ok : Bool) (va : Int) (ex1 ex2 ex3 fx1 fx2 fx3 : Option Addr) (en1 ec1 en2 ec2 en3 ec3 fn1 fc1 fn2 fc2 fn3 fc3 : Nat) (b : Nat) (c : Nat) : (VA17 a2 x7 g1 ac j c2 g2 ac2 m y7 ok va ex1 ex2 ex3 fx1 fx2 fx3 en1 ec1 en2 ec2 en3 ec3 fn1 fc1 fn2 fc2 fn3 fc3 b c).map (·.1) = [0, 1, 2, 3, 4, 5, 6, 7, 8, 9, 10, 11] := rfl
theorem VA17_nd (a2 x7 : Option Addr) (g1 ac j c2 g2 ac2 m y7 : Nat) (ok : Bool) (va : Int) (ex1 ex2 ex3 fx1 fx2 fx3 : Option Addr) (en1 ec1 en2 ec2 en3 ec3 fn1 fc1 fn2 fc2 fn3 fc3 : Nat) (b : Nat) (c : Nat) : ((VA17 a2 x7 g1 ac j c2 g2 ac2 m y7 ok va ex1 ex2 ex3 fx1 fx2 fx3 en1 ec1 en2 ec2 en3 ec3 fn1 fc1 fn2 fc2 fn3 fc3 b c).map (·.2.1)).Nodup := by rw [VA17_slots]; decide
theorem VA17_nd' (a2 x7 : Option Addr) (g1 ac j c2 g2 ac2 m y7 : Nat) (ok : Bool) (va : Int) (ex1 ex2 ex3 fx1 fx2 fx3 : Option Addr) (en1 ec1 en2 ec2 en3 ec3 fn1 fc1 fn2 fc2 fn3 fc3 : Nat) (b : Nat) (c : Nat) : ((VA17 a2 x7 g1 ac j c2 g2 ac2 m y7 ok va ex1 ex2 ex3 fx1 fx2 fx3 en1 ec1 en2 ec2 en3 ec3 fn1 fc1 fn2 fc2 fn3 fc3 b c).map (·.1)).Nodup := by rw [VA17_idx]; decide
theorem VA17_not1 (a2 x7 : Option Addr) (g1 ac j c2 g2 ac2 m y7 : Nat) (ok : Bool) (va : Int) (ex1 ex2 ex3 fx1 fx2 fx3 : Option Addr) (en1 ec1 en2 ec2 en3 ec3 fn1 fc1 fn2 fc2 fn3 fc3 : Nat) (b : Nat) (c : Nat) : 1 ∉ (VA17 a2 x7 g1 ac j c2 g2 ac2 m y7 ok va ex1 ex2 ex3 fx1 fx2 fx3 en1 ec1 en2 ec2 en3 ec3 fn1 fc1 fn2 fc2 fn3 fc3 b c).map (·.2.1) := by rw [VA17_slots]; decide
theorem VA17_not7 (a2 x7 : Option Addr) (g1 ac j c2 g2 ac2 m y7 : Nat) (ok : Bool) (va : Int) (ex1 ex2 ex3 fx1 fx2 fx3 : Option Addr) (en1 ec1 en2 ec2 en3 ec3 fn1 fc1 fn2 fc2 fn3 fc3 : Nat) (b : Nat) (c : Nat) : 7 ∉ (VA17 a2 x7 g1 ac j c2 g2 ac2 m y7 ok va ex1 ex2 ex3 fx1 fx2 fx3 en1 ec1 en2 ec2 en3 ec3 fn1 fc1 fn2 fc2 fn3 fc3 b c).map (·.2.1) := by rw [VA17_slots]; decide
theorem VA17_not10 (a2 x7 : Option Addr) (g1 ac j c2 g2 ac2 m y7 : Nat) (ok : Bool) (va : Int) (ex1 ex2 ex3 fx1 fx2 fx3 : Option Addr) (en1 ec1 en2 ec2 en3 ec3 fn1 fc1 fn2 fc2 fn3 fc3 : Nat) (b : Nat) (c : Nat) : 10 ∉ (VA17 a2 x7 g1 ac j c2 g2 ac2 m y7 ok va ex1 ex2 ex3 fx1 fx2 fx3 en1 ec1 en2 ec2 en3 ec3 fn1 fc1 fn2 fc2 fn3 fc3 b c).map (·.2.1) := by rw [VA17_slots]; decide
theorem VA17_not11 (a2 x7 : Option Addr) (g1 ac j c2 g2 ac2 m y7 : Nat) (ok : Bool) (va : Int) (ex1 ex2 ex3 fx1 fx2 fx3 : Option Addr) (en1 ec1 en2 ec2 en3 ec3 fn1 fc1 fn2 fc2 fn3 fc3 : Nat) (b : Nat) (c : Nat) : 11 ∉ (VA17 a2 x7 g1 ac j c2 g2 ac2 m y7 ok va ex1 ex2 ex3 fx1 fx2 fx3 en1 ec1 en2 ec2 en3 ec3 fn1 fc1 fn2 fc2 fn3 fc3 b c).map (·.2.1) := by rw [VA17_slots]; decide
/-- What the operations bring about. -/
def VA17_F (K : Nat) (ok : Bool) (va : Int) (ex1 ex2 ex3 fx1 fx2 fx3 : Option Addr) (en1 ec1 en2 ec2 en3 ec3 fn1 fc1 fn2 fc2 fn3 fc3 : Nat) (b : Nat) (c : Nat) : List Fact := [([10], fun W => K ≤ b ∧ ∃ y0 y1 y2 y3 y4, Blk W b 33 [y0, y1, y2, y3, y4]), ([11], fun W => K ≤ c ∧ ∃ y0 y1 y2 y3 y4, Blk W c 33 [y0, y1, y2, y3, y4]), ([10, 11], fun _ => b ≠ c), ([10, 12], fun W => Blk W b 33 [.bool ok, .int .i64 va, .slice ex1 en1 ec1, .slice ex2 en2 ec2, .slice ex3 en3 ec3]), ([11, 13], fun W => Blk W c 33 [.bool ok, .int .i64 va, .slice fx1 fn1 fc1, .slice fx2 fn2 fc2, .slice fx3 fn3 fc3])]
theorem VA17_st (K : Nat) (ok : Bool) (va : Int) (ex1 ex2 ex3 fx1 fx2 fx3 : Option Addr) (en1 ec1 en2 ec2 en3 ec3 fn1 fc1 fn2 fc2 fn3 fc3 : Nat) (b : Nat) (c : Nat) : Stab (VA17_F K ok va ex1 ex2 ex3 fx1 fx2 fx3 en1 ec1 en2 ec2 en3 ec3 fn1 fc1 fn2 fc2 fn3 fc3 b c) := (Stab.cons (fun _ _ hb h => ⟨h.1, h.2.imp fun _ h => h.imp fun _ h => h.imp fun _ h => h.imp fun _ h => h.imp fun _ h => h.bel hb⟩) (Stab.cons (fun _ _ hb h => ⟨h.1, h.2.imp fun _ h => h.imp fun _ h => h.imp fun _ h => h.imp fun _ h => h.imp fun _ h => h.bel hb⟩) (Stab.cons (fun _ _ _ h => h) (Stab.cons (fun _ _ hb h => h.bel hb) (Stab.cons (fun _ _ hb h => h.bel hb) Stab.nil)))))

set_option maxRecDepth 100000 in
set_option maxHeartbeats 8000000 in
theorem law_FnLinesApart (w : World) (a1 : Option Addr) (n1 c1 : Nat) (R : List Pl.Ent) (hR : Ents w a1 n1 R) (_nc1 : n1 ≤ c1) (_cm1 : c1 ≤ maxLen) (a2 : Option Addr) (n2 c2 : Nat) (S : List Pl.LStep) (hS : LSt w a2 n2 S) (NC : n2 ≤ c2) (_cm2 : c2 ≤ maxLen) (p : Pl.LStep) (_hp : LStepIn p) :
    Calls Try.prog 6 #[.slice a1 n1 c1, .slice a2 n2 c2, stepV p] w fun e w' => e = .returned (.bool true) ∧ Bel w w' := by
  obtain ⟨pk, pf, pl, pc, pv⟩ := p
  unfold stepV
  dsimp only
  by_cases hz1 : 2147483647 < n1
  · go_enter Try.func6, Try.ntmps6
    go_wp2
    go_ret
    exact ⟨rfl, (Bel.refl w).alloc _⟩
  by_cases hz2 : 2147483647 < n2
  · go_enter Try.func6, Try.ntmps6
    go_wp2
    go_ret
    exact ⟨rfl, (Bel.refl w).alloc _⟩
  have HR := Lib.hid hR; clear hR
  have HS := Lib.hid hS; clear hS
  have hB1 : Blk (w.alloc (.cells #[.int .i64 pk, .int .i64 pf, .int .i64 pl, .int .i64 pc, .int .i64 pv] 29)) w.heap.size 29 [.int .i64 pk, .int .i64 pf, .int .i64 pl, .int .i64 pc, .int .i64 pv] := Blk.new w _ [_, _, _, _, _]
  have hb1 : Bel w (w.alloc (.cells #[.int .i64 pk, .int .i64 pf, .int .i64 pl, .int .i64 pc, .int .i64 pv] 29)) := (Bel.refl w).alloc _
  have HB1 := Lib.hid (And.intro hB1 hb1); clear hB1 hb1
  go_enter Try.func6, Try.ntmps6
  go_upto_region 3 with (fail)
  generalize w.alloc (.cells #[.int .i64 pk, .int .i64 pf, .int .i64 pl, .int .i64 pc, .int .i64 pv] 29) = w1 at HB1 ⊢
  generalize hbx : w.heap.size = bx at HB1 ⊢
  have HBX := Lib.hid hbx; clear hbx
  have m0 : w1.cell? ⟨bx, 0, none⟩ = some (.int .i64 pk) := HB1.out.1.cell 0
  have f0 := HB1.out.1.frozen 0
  have HB2 : Hid (Blk (w1.setCell ⟨bx, 0, none⟩ (.int .i64 3)) bx 29 [.int .i64 3, .int .i64 pf, .int .i64 pl, .int .i64 pc, .int .i64 pv] ∧ Bel w (w1.setCell ⟨bx, 0, none⟩ (.int .i64 3))) := Lib.hid ⟨HB1.out.1.set 0 _, Below.setCell HB1.out.2 (p := ⟨bx, 0, none⟩) (by have := HBX.out; simp only; omega) _⟩
  go_upto_region 4 with (fail)
  generalize w1.setCell ⟨bx, 0, none⟩ (.int .i64 3) = wb at HB2 ⊢
  clear m0 f0 HB1
  have s0 : wb.cell? ⟨bx, 0, none⟩ = some (.int .i64 3) := HB2.out.1.cell 0
  have s1 : wb.cell? ⟨bx, 1, none⟩ = some (.int .i64 pf) := HB2.out.1.cell 1
  have s2 : wb.cell? ⟨bx, 2, none⟩ = some (.int .i64 pl) := HB2.out.1.cell 2
  have s3 : wb.cell? ⟨bx, 3, none⟩ = some (.int .i64 pc) := HB2.out.1.cell 3
  have s4 : wb.cell? ⟨bx, 4, none⟩ = some (.int .i64 pv) := HB2.out.1.cell 4
  have HBW := Lib.hid HB2.out.2
  refine act_name (fun a0 ha0 => ?_)
  have so0 : a0.eval (.tmp 0) = .slice a1 n1 c1 := by rw [ha0]; rfl
  have so1 : a0.eval (.tmp 1) = .slice a2 n2 c2 := by rw [ha0]; rfl
  have so5 : a0.eval (.tmp 5) = .pointer (some ⟨bx, 0, none⟩) := by rw [ha0]; rfl
  have hsz : a0.tmps.size = 110 := by rw [ha0]; rfl
  have HA0 := Lib.hid ha0; clear ha0
  refine region_obs3 (fun D a' W => ∃ (b : Nat) (g : Nat) (cp : Nat) (kb : Bool), a' = frC a0 D (VA4 a1 a2 n1 c1 n2 c2 bx pf pl pc pv b g cp kb) ∧ WG wb (VA4_F n2 1 S [⟨3, pf, pl, pc, pv⟩] R b g cp kb) D W) (by kernel_rfl) (by kernel_rfl) ⟨0, 0, 0, false, (frC_none _ _).symm, WG.start _ (by simp [VA4_F])⟩ ?_ ?_
  · refine ⟨?_, ?_, ?_, ?_, ?_, ?_, ?_, ?_, ?_, ?_, ?_, ?_, trivial⟩
    · rintro D _ W hD hcl hdeps ⟨b, g, cp, kb, rfl, hW⟩
      have e0 := ev_get ((frC_out (a0 := a0) (D := D) (VA4_not0 a1 a2 n1 c1 n2 c2 bx pf pl pc pv b g cp kb)).trans so0)
      refine ob_val rfl (v := .slice a1 n1 c1) (by simp [execOp, go_sem, e0]) ⟨b, g, cp, kb, frC_put hD (by simp [VA4]) (VA4_nd _ _ _ _ _ _ _ _ _ _ _ _ _ _ _) (VA4_nd' _ _ _ _ _ _ _ _ _ _ _ _ _ _ _), hW.step (VA4_st _ _ _ _ _ _ _ _ _) (Bel.refl W) (by simp [VA4_F])⟩
    · rintro D _ W hD hcl hdeps ⟨b, g, cp, kb, rfl, hW⟩
      have e1 := ev_get ((frC_out (a0 := a0) (D := D) (VA4_not1 a1 a2 n1 c1 n2 c2 bx pf pl pc pv b g cp kb)).trans so1)
      refine ob_val rfl (v := .slice a2 n2 c2) (by simp [execOp, go_sem, e1]) ⟨b, g, cp, kb, frC_put hD (by simp [VA4]) (VA4_nd _ _ _ _ _ _ _ _ _ _ _ _ _ _ _) (VA4_nd' _ _ _ _ _ _ _ _ _ _ _ _ _ _ _), hW.step (VA4_st _ _ _ _ _ _ _ _ _) (Bel.refl W) (by simp [VA4_F])⟩
    · rintro D _ W hD hcl hdeps ⟨b, g, cp, kb, rfl, hW⟩
      have e1 := ev_get ((frC_out (a0 := a0) (D := D) (VA4_not1 a1 a2 n1 c1 n2 c2 bx pf pl pc pv b g cp kb)).trans so1)
      refine ob_val rfl (v := .slice a2 n2 c2) (by simp [execOp, go_sem, e1]) ⟨b, g, cp, kb, frC_put hD (by simp [VA4]) (VA4_nd _ _ _ _ _ _ _ _ _ _ _ _ _ _ _) (VA4_nd' _ _ _ _ _ _ _ _ _ _ _ _ _ _ _), hW.step (VA4_st _ _ _ _ _ _ _ _ _) (Bel.refl W) (by simp [VA4_F])⟩
    · rintro D _ W hD hcl hdeps ⟨b, g, cp, kb, rfl, hW⟩
      have hd2 : D 2 = true := hdeps ⟨2, .data⟩ (by simp) rfl
      have e25 := ev_get (frC_in (v := .slice a2 n2 c2) hd2 (show 25 < a0.tmps.size by rw [hsz]; decide) (vs := VA4 a1 a2 n1 c1 n2 c2 bx pf pl pc pv b g cp kb) (by simp [VA4]) (VA4_nd _ _ _ _ _ _ _ _ _ _ _ _ _ _ _))
      refine ob_val rfl (v := .int .i64 (n2 : Int)) (by simp [execOp, go_sem, e25]) ⟨b, g, cp, kb, frC_put hD (by simp [VA4]) (VA4_nd _ _ _ _ _ _ _ _ _ _ _ _ _ _ _) (VA4_nd' _ _ _ _ _ _ _ _ _ _ _ _ _ _ _), hW.step (VA4_st _ _ _ _ _ _ _ _ _) (Bel.refl W) (by simp [VA4_F])⟩
    · rintro D _ W hD hcl hdeps ⟨b, g, cp, kb, rfl, hW⟩
      have e1 := ev_get ((frC_out (a0 := a0) (D := D) (VA4_not1 a1 a2 n1 c1 n2 c2 bx pf pl pc pv b g cp kb)).trans so1)
      refine ob_val rfl (v := .slice a2 n2 c2) (by simp [execOp, go_sem, e1]) ⟨b, g, cp, kb, frC_put hD (by simp [VA4]) (VA4_nd _ _ _ _ _ _ _ _ _ _ _ _ _ _ _) (VA4_nd' _ _ _ _ _ _ _ _ _ _ _ _ _ _ _), hW.step (VA4_st _ _ _ _ _ _ _ _ _) (Bel.refl W) (by simp [VA4_F])⟩
    · rintro D _ W hD hcl hdeps ⟨b, g, cp, kb, rfl, hW⟩
      have hd4 : D 4 = true := hdeps ⟨4, .data⟩ (by simp) rfl
      have e27 := ev_get (frC_in (v := .slice a2 n2 c2) hd4 (show 27 < a0.tmps.size by rw [hsz]; decide) (vs := VA4 a1 a2 n1 c1 n2 c2 bx pf pl pc pv b g cp kb) (by simp [VA4]) (VA4_nd _ _ _ _ _ _ _ _ _ _ _ _ _ _ _))
      refine ob_val rfl (v := .int .i64 (n2 : Int)) (by simp [execOp, go_sem, e27]) ⟨b, g, cp, kb, frC_put hD (by simp [VA4]) (VA4_nd _ _ _ _ _ _ _ _ _ _ _ _ _ _ _) (VA4_nd' _ _ _ _ _ _ _ _ _ _ _ _ _ _ _), hW.step (VA4_st _ _ _ _ _ _ _ _ _) (Bel.refl W) (by simp [VA4_F])⟩
    · rintro D _ W hD hcl hdeps ⟨b, g, cp, kb, rfl, hW⟩
      have hd1 : D 1 = true := hdeps ⟨1, .data⟩ (by simp) rfl
      have E24 := frC_in (v := .slice a2 n2 c2) hd1 (show 24 < a0.tmps.size by rw [hsz]; decide) (vs := VA4 a1 a2 n1 c1 n2 c2 bx pf pl pc pv b g cp kb) (by simp [VA4]) (VA4_nd _ _ _ _ _ _ _ _ _ _ _ _ _ _ _)
      have hd3 : D 3 = true := hdeps ⟨3, .data⟩ (by simp) rfl
      have E26 := frC_in (v := .int .i64 (n2 : Int)) hd3 (show 26 < a0.tmps.size by rw [hsz]; decide) (vs := VA4 a1 a2 n1 c1 n2 c2 bx pf pl pc pv b g cp kb) (by simp [VA4]) (VA4_nd _ _ _ _ _ _ _ _ _ _ _ _ _ _ _)
      have hd5 : D 5 = true := hdeps ⟨5, .data⟩ (by simp) rfl
      have E28 := frC_in (v := .int .i64 (n2 : Int)) hd5 (show 28 < a0.tmps.size by rw [hsz]; decide) (vs := VA4 a1 a2 n1 c1 n2 c2 bx pf pl pc pv b g cp kb) (by simp [VA4]) (VA4_nd _ _ _ _ _ _ _ _ _ _ _ _ _ _ _)
      refine ob_val rfl (v := .slice a2 n2 n2) ?_ ⟨b, g, cp, kb, frC_put hD (by simp [VA4]) (VA4_nd _ _ _ _ _ _ _ _ _ _ _ _ _ _ _) (VA4_nd' _ _ _ _ _ _ _ _ _ _ _ _ _ _ _), hW.step (VA4_st _ _ _ _ _ _ _ _ _) (Bel.refl W) (by simp [VA4_F])⟩
      simp only [execOp, Sem.run_bind, E24, E26, E28, Option.map_some, Option.map_none, run_lslice W a2 n2 c2 NC, Result.andThen, Sem.run_pure]
    · rintro D _ W hD hcl hdeps ⟨b, g, cp, kb, rfl, hW⟩
      have e5 := ev_get ((frC_out (a0 := a0) (D := D) (VA4_not5 a1 a2 n1 c1 n2 c2 bx pf pl pc pv b g cp kb)).trans so5)
      have z0 := hW.bel.cell s0
      have z1 := hW.bel.cell s1
      have z2 := hW.bel.cell s2
      have z3 := hW.bel.cell s3
      have z4 := hW.bel.cell s4
      refine ob_val rfl (v := .agg #[.int .i64 3, .int .i64 pf, .int .i64 pl, .int .i64 pc, .int .i64 pv]) (by simp [execOp, go_sem, e5, z0, z1, z2, z3, z4]) ⟨b, g, cp, kb, frC_put hD (by simp [VA4]) (VA4_nd _ _ _ _ _ _ _ _ _ _ _ _ _ _ _) (VA4_nd' _ _ _ _ _ _ _ _ _ _ _ _ _ _ _), hW.step (VA4_st _ _ _ _ _ _ _ _ _) (Bel.refl W) (by simp [VA4_F])⟩
    · rintro D _ W hD hcl hdeps ⟨b, g, cp, kb, rfl, hW⟩
      have hd7 : D 7 = true := hdeps ⟨7, .data⟩ (by simp) rfl
      have e30 := ev_get (frC_in (v := .agg #[.int .i64 3, .int .i64 pf, .int .i64 pl, .int .i64 pc, .int .i64 pv]) hd7 (show 30 < a0.tmps.size by rw [hsz]; decide) (vs := VA4 a1 a2 n1 c1 n2 c2 bx pf pl pc pv b g cp kb) (by simp [VA4]) (VA4_nd _ _ _ _ _ _ _ _ _ _ _ _ _ _ _))
      refine ob_val rfl (v := .slice (some ⟨W.heap.size, 0, none⟩) 1 1) (w' := W.alloc (.cells #[.int .i64 3, .int .i64 pf, .int .i64 pl, .int .i64 pc, .int .i64 pv] 29)) (by simp [execOp, go_sem, e30]) ?_
      have hb2 : Bel W (W.alloc (.cells #[.int .i64 3, .int .i64 pf, .int .i64 pl, .int .i64 pc, .int .i64 pv] 29)) := (Bel.refl W).alloc _
      refine ⟨W.heap.size, g, cp, kb, by rw [show frC a0 D (VA4 a1 a2 n1 c1 n2 c2 bx pf pl pc pv b g cp kb) = frC a0 D (VA4 a1 a2 n1 c1 n2 c2 bx pf pl pc pv (W.heap.size) g cp kb) from by simp only [VA4, frC, hD, Bool.false_eq_true, if_false]]; exact frC_put hD (by simp [VA4]) (VA4_nd _ _ _ _ _ _ _ _ _ _ _ _ _ _ _) (VA4_nd' _ _ _ _ _ _ _ _ _ _ _ _ _ _ _), ?_⟩
      refine hW.new (VA4_st _ _ _ _ _ _ _ _ _) hb2 ?_
      intro f hf
      simp only [VA4_F, List.mem_cons, List.not_mem_nil, or_false] at hf
      rcases hf with rfl | rfl | rfl
      · exact .inl ⟨by simp, fun hg => Blk.new W _ [.int .i64 3, .int .i64 pf, .int .i64 pl, .int .i64 pc, .int .i64 pv]⟩
      · exact .inr ⟨by simp, by simp [VA4_F]⟩
      · exact .inr ⟨by simp, by simp [VA4_F]⟩
    · rintro D _ W hD hcl hdeps ⟨b, g, cp, kb, rfl, hW⟩
      have hd6 : D 6 = true := hdeps ⟨6, .data⟩ (by simp) rfl
      have E29 := frC_in (v := .slice a2 n2 n2) hd6 (show 29 < a0.tmps.size by rw [hsz]; decide) (vs := VA4 a1 a2 n1 c1 n2 c2 bx pf pl pc pv b g cp kb) (by simp [VA4]) (VA4_nd _ _ _ _ _ _ _ _ _ _ _ _ _ _ _)
      have hd8 : D 8 = true := hdeps ⟨8, .data⟩ (by simp) rfl
      have E31 := frC_in (v := .slice (some ⟨b, 0, none⟩) 1 1) hd8 (show 31 < a0.tmps.size by rw [hsz]; decide) (vs := VA4 a1 a2 n1 c1 n2 c2 bx pf pl pc pv b g cp kb) (by simp [VA4]) (VA4_nd _ _ _ _ _ _ _ _ _ _ _ _ _ _ _)
      have hbx := hW.get (k := 0) rfl (fun i hi => by simp at hi; subst hi; exact hd8)
      refine step_lcat rfl (.tmp 29) (.tmp 31) rfl a2 n2 S E29 (HS.out.bel (HBW.out.trans hW.bel)) b 1 [⟨3, pf, pl, pc, pv⟩] E31 hbx rfl (by omega) (by omega) (by omega) ?_
      intro g7 cp7 w7 ho7 hb7
      refine ⟨b, g7, cp7, kb, by rw [show frC a0 D (VA4 a1 a2 n1 c1 n2 c2 bx pf pl pc pv b g cp kb) = frC a0 D (VA4 a1 a2 n1 c1 n2 c2 bx pf pl pc pv b (g7) (cp7) kb) from by simp only [VA4, frC, hD, Bool.false_eq_true, if_false]]; exact frC_put hD (by simp [VA4]) (VA4_nd _ _ _ _ _ _ _ _ _ _ _ _ _ _ _) (VA4_nd' _ _ _ _ _ _ _ _ _ _ _ _ _ _ _), ?_⟩
      refine hW.new (VA4_st _ _ _ _ _ _ _ _ _) hb7 ?_
      intro f hf
      simp only [VA4_F, List.mem_cons, List.not_mem_nil, or_false] at hf
      rcases hf with rfl | rfl | rfl
      · exact .inr ⟨by simp, by simp [VA4_F]⟩
      · exact .inl ⟨by simp, fun hg => ho7⟩
      · exact .inr ⟨by simp, by simp [VA4_F]⟩
    · rintro D _ W hD hcl hdeps ⟨b, g, cp, kb, rfl, hW⟩
      have hd0 : D 0 = true := hdeps ⟨0, .data⟩ (by simp) rfl
      have e23 := ev_get (frC_in (v := .slice a1 n1 c1) hd0 (show 23 < a0.tmps.size by rw [hsz]; decide) (vs := VA4 a1 a2 n1 c1 n2 c2 bx pf pl pc pv b g cp kb) (by simp [VA4]) (VA4_nd _ _ _ _ _ _ _ _ _ _ _ _ _ _ _))
      have hd9 : D 9 = true := hdeps ⟨9, .data⟩ (by simp) rfl
      have e32 := ev_get (frC_in (v := .slice (some ⟨g, 0, none⟩) (n2 + 1) cp) hd9 (show 32 < a0.tmps.size by rw [hsz]; decide) (vs := VA4 a1 a2 n1 c1 n2 c2 bx pf pl pc pv b g cp kb) (by simp [VA4]) (VA4_nd _ _ _ _ _ _ _ _ _ _ _ _ _ _ _))
      refine ob_enter' rfl (f := 8) (args := #[.slice a1 n1 c1, .slice (some ⟨g, 0, none⟩) (n2 + 1) cp]) (w' := W) (by simp [go_sem, e23, e32]) ((known_any a1 n1 c1 R (some ⟨g, 0, none⟩) (n2 + 1) cp (S ++ [⟨3, pf, pl, pc, pv⟩]) W (ents_bel HR.out (HBW.out.trans hW.bel)) (hW.get (k := 1) rfl (fun i hi => by simp at hi; subst hi; exact hd9))).mono ?_)
      rintro e w2 ⟨kb2, rfl, hkq, hb2⟩
      have hn11 : D 11 = false := by cases h : D 11; rfl; have := hcl 11 _ rfl h ⟨10, .data⟩ (by simp) rfl; rw [hD] at this; cases this
      refine ⟨.bool kb2, rfl, b, g, cp, kb2, by rw [show frC a0 D (VA4 a1 a2 n1 c1 n2 c2 bx pf pl pc pv b g cp kb) = frC a0 D (VA4 a1 a2 n1 c1 n2 c2 bx pf pl pc pv b g cp (kb2)) from by simp only [VA4, frC, hD, hn11, Bool.false_eq_true, if_false]]; exact frC_put hD (by simp [VA4]) (VA4_nd _ _ _ _ _ _ _ _ _ _ _ _ _ _ _) (VA4_nd' _ _ _ _ _ _ _ _ _ _ _ _ _ _ _), ?_⟩
      refine hW.new (VA4_st _ _ _ _ _ _ _ _ _) hb2 ?_
      intro f hf
      simp only [VA4_F, List.mem_cons, List.not_mem_nil, or_false] at hf
      rcases hf with rfl | rfl | rfl
      · exact .inr ⟨by simp, by simp [VA4_F]⟩
      · exact .inr ⟨by simp, by simp [VA4_F]⟩
      · exact .inl ⟨by simp, fun hg => hkq⟩
    · rintro D _ W hD hcl hdeps ⟨b, g, cp, kb, rfl, hW⟩
      have hd10 : D 10 = true := hdeps ⟨10, .data⟩ (by simp) rfl
      have e33 := ev_get (frC_in (v := .bool kb) hd10 (show 33 < a0.tmps.size by rw [hsz]; decide) (vs := VA4 a1 a2 n1 c1 n2 c2 bx pf pl pc pv b g cp kb) (by simp [VA4]) (VA4_nd _ _ _ _ _ _ _ _ _ _ _ _ _ _ _))
      refine ob_val rfl (v := .bool (!kb)) (by simp [execOp, go_sem, e33]) ⟨b, g, cp, kb, frC_put hD (by simp [VA4]) (VA4_nd _ _ _ _ _ _ _ _ _ _ _ _ _ _ _) (VA4_nd' _ _ _ _ _ _ _ _ _ _ _ _ _ _ _), hW.step (VA4_st _ _ _ _ _ _ _ _ _) (Bel.refl W) (by simp [VA4_F])⟩
  · rintro D _ wc hall ⟨b, g, cp, kb, rfl, hW⟩
    have hf0 := hW.get (k := 0) rfl (fun i hi => hall i (by simp at hi; show i < 12; omega))
    have hf1 := hW.get (k := 1) rfl (fun i hi => hall i (by simp at hi; show i < 12; omega))
    have hf2 := hW.get (k := 2) rfl (fun i hi => hall i (by simp at hi; show i < 12; omega))
    have hbW := hW.bel
    rw [frC_all (fun e he => hall e.1 (by have h1 : e.1 ∈ (VA4 a1 a2 n1 c1 n2 c2 bx pf pl pc pv b g cp kb).map (·.1) := List.mem_map.2 ⟨e, he, rfl⟩; rw [VA4_idx] at h1; simp at h1; show e.1 < 12; omega))]
    have HK := Lib.hid hf2
    have HW := Lib.hid (And.intro (HBW.out.trans hbW) (HB2.out.1.bel hbW))
    rw [HA0.out]
    simp only [VA4, List.foldr_cons, List.foldr_nil, Act.put, List.setIfInBounds_toArray, List.set_cons_succ, List.set_cons_zero]
    clear hf0 hf1 hf2 hbW hW hall HA0 so0 so1 so5 hsz HB2 HBW s0 s1 s2 s3 s4
    cases kb
    · clear HK
      go_wp2
      go_ret
      exact ⟨rfl, HW.out.1⟩
    have HQ := Lib.hid (HK.out rfl)
    clear HK
    have HBC : Hid (w.heap.size ≤ wc.heap.size) := Lib.hid HW.out.1.size
    have hr1 := HR.out.1
    have hs1 := HS.out.1
    have hn1 : n1 ≤ 20 := by have := HQ.out.nr; omega
    have hn2 : n2 ≤ 499 := by have := HQ.out.ns; simp only [List.length_append, List.length_cons, List.length_nil] at this; omega
    have HP0 : Hid (StepK R.length ⟨3, pf, pl, pc, pv⟩) := Lib.hid (HQ.out.so _ (by simp)).1
    have HSO : Hid (∀ s ∈ S, StepK R.length s) := Lib.hid (fun s hs => (HQ.out.so s (by simp [hs])).1)
    have HRS := Lib.hid (And.intro hr1 hs1)
    clear hr1 hs1
    have H0 : Hid ((wc.alloc (.cells #[] 29)).ownsRow wc.heap.size 29 5 (.slice (some ⟨wc.heap.size, 0, none⟩) 0 0) ((S.take 0).filter (ownB pf)).length (lsCells ((S.take 0).filter (ownB pf))) ∧ Bel wc (wc.alloc (.cells #[] 29))) := Lib.hid
      ⟨owns_empty wc wc.heap.size _ 5 _ rfl (Nat.le_refl _), (Bel.refl wc).alloc _⟩
    go_wp2
    generalize wc.alloc (.cells #[] 29) = w0 at H0 ⊢
    go_loopw [7, 38] (fun u i wr => ∃ j : Nat, j ≤ n2 ∧ i = .int .i64 j ∧ wr.ownsRow wc.heap.size 29 5 u ((S.take j).filter (ownB pf)).length (lsCells ((S.take j).filter (ownB pf))) ∧ Bel wc wr) (fun _ i _ => n2 - (intOf i).toNat)
    case atStart => exact ⟨0, Nat.zero_le _, rfl, H0.out⟩
    case round =>
      obtain ⟨j, hj, rfl, hO, hbel⟩ := hrel
      have HO := Lib.hid hO; clear hO H0
      have hml : ((S.take j).filter (ownB pf)).length ≤ j := Nat.le_trans (List.length_filter_le _ _) (by simp; omega)
      by_cases hlt : j < n2
      · obtain ⟨b2, o2, rfl, hcell⟩ := HS.out.2 (by omega)
        obtain ⟨s, hsk⟩ : ∃ s, S[j]? = some s := ⟨_, List.getElem?_eq_getElem (by rw [HRS.out.2]; exact hlt)⟩
        have HBE := Lib.hid (HW.out.1.trans hbel)
        obtain ⟨t0, t1, t2, t3, t4⟩ := hcell j s hsk
        replace t0 := HBE.out.cell t0
        replace t1 := HBE.out.cell t1
        replace t2 := HBE.out.cell t2
        replace t3 := HBE.out.cell t3
        replace t4 := HBE.out.cell t4
        have HT : Hid ((S.take (j + 1)).filter (ownB pf) = (S.take j).filter (ownB pf) ++ (if ownB pf s = true then [s] else [])) := Lib.hid (by
          rw [List.take_add_one, hsk, Option.toList_some, List.filter_append]
          simp only [List.filter_cons, List.filter_nil])
        have hszr := hbel.size
        clear hcell hsk
        generalize hmm : ((S.take j).filter (ownB pf)).length = m at HO hml
        have HMM := Lib.hid hmm; clear hmm
        have hBb : Blk (wr.alloc (.cells #[.int .i64 s.kind, .int .i64 s.file, .int .i64 s.line, .int .i64 s.col, .int .i64 s.val] 29)) wr.heap.size 29 [.int .i64 s.kind, .int .i64 s.file, .int .i64 s.line, .int .i64 s.col, .int .i64 s.val] := Blk.new wr _ [_, _, _, _, _]
        have hba : Bel wr (wr.alloc (.cells #[.int .i64 s.kind, .int .i64 s.file, .int .i64 s.line, .int .i64 s.col, .int .i64 s.val] 29)) := (Bel.refl wr).alloc _
        have HB3 := Lib.hid (And.intro hBb (And.intro (hbel.trans hba) (own_bel HO.out hba)))
        clear hBb hba HBE hbel
        go_upto_region 10 with (fail)
        generalize wr.alloc (.cells #[.int .i64 s.kind, .int .i64 s.file, .int .i64 s.line, .int .i64 s.col, .int .i64 s.val] 29) = w3 at HB3 ⊢
        generalize hbs : wr.heap.size = bs at HB3 ⊢
        clear hbs t0 t1 t2 t3 t4
        have s0 : w3.cell? ⟨bs, 0, none⟩ = some (.int .i64 s.kind) := HB3.out.1.cell 0
        have s1 : w3.cell? ⟨bs, 1, none⟩ = some (.int .i64 s.file) := HB3.out.1.cell 1
        have s2 : w3.cell? ⟨bs, 2, none⟩ = some (.int .i64 s.line) := HB3.out.1.cell 2
        have s3 : w3.cell? ⟨bs, 3, none⟩ = some (.int .i64 s.col) := HB3.out.1.cell 3
        have s4 : w3.cell? ⟨bs, 4, none⟩ = some (.int .i64 s.val) := HB3.out.1.cell 4
        have x1 : w3.cell? ⟨bx, 1, none⟩ = some (.int .i64 pf) := (HW.out.2.bel HB3.out.2.1).cell 1
        have hz3 : wc.heap.size ≤ w3.heap.size := HB3.out.2.1.size
        by_cases hf : s.file = pf
        · have g1 : (s.file == pf) = true := by simp [hf]
          have HTT : Hid ((S.take (j + 1)).filter (ownB pf) = (S.take j).filter (ownB pf) ++ [s]) := Lib.hid (by rw [HT.out, if_pos (by simp [ownB, hf])])
          clear hf
          go_wp2_with (at_builtin; refine wpList_push elLs rfl _ _ rfl wc.heap.size u7 m _ rfl HB3.out.2.2 [.int .i64 s.kind, .int .i64 s.file, .int .i64 s.line, .int .i64 s.col, .int .i64 s.val] w3.heap.size rfl rfl rfl (by simp [Value.oneCell']) (by omega) (by omega) hz3 ?_)
          intro u5 w5 ho5 hg5 _
          have HN : Hid (w5.ownsRow wc.heap.size 29 5 u5 ((S.take (j + 1)).filter (ownB pf)).length (lsCells ((S.take (j + 1)).filter (ownB pf))) ∧ Bel wc w5) := Lib.hid (by
            rw [HTT.out, List.length_append, HMM.out, lsCells_append]
            exact ⟨ho5, HB3.out.2.1.grown hg5 (fun q hq => (HB3.out.2.2.lt q hq).1)⟩)
          clear ho5 hg5 s0 s1 s2 s3 s4 x1 HB3 HO
          go_wp2
          go_roundw
          case rel => exact ⟨_, _, _, _, _, _, _, _, _, _, _, _, _, _, _, _, _, _, _, _, _, ⟨j + 1, by omega, by go_num, HN.out⟩, rfl⟩
          case measure => simp [intOf]; omega
        · have g1 : (s.file == pf) = false := by simp [hf]
          by_cases h5 : s.kind = 5
          · have g2 : (s.kind == 5) = true := by simp [h5]
            have HTT : Hid ((S.take (j + 1)).filter (ownB pf) = (S.take j).filter (ownB pf) ++ [s]) := Lib.hid (by rw [HT.out, if_pos (by simp [ownB, h5])])
            clear hf h5
            go_wp2_with (at_builtin; refine wpList_push elLs rfl _ _ rfl wc.heap.size u7 m _ rfl HB3.out.2.2 [.int .i64 s.kind, .int .i64 s.file, .int .i64 s.line, .int .i64 s.col, .int .i64 s.val] w3.heap.size rfl rfl rfl (by simp [Value.oneCell']) (by omega) (by omega) hz3 ?_)
            intro u5 w5 ho5 hg5 _
            have HN : Hid (w5.ownsRow wc.heap.size 29 5 u5 ((S.take (j + 1)).filter (ownB pf)).length (lsCells ((S.take (j + 1)).filter (ownB pf))) ∧ Bel wc w5) := Lib.hid (by
              rw [HTT.out, List.length_append, HMM.out, lsCells_append]
              exact ⟨ho5, HB3.out.2.1.grown hg5 (fun q hq => (HB3.out.2.2.lt q hq).1)⟩)
            clear ho5 hg5 s0 s1 s2 s3 s4 x1 HB3 HO
            go_wp2
            go_roundw
            case rel => exact ⟨_, _, _, _, _, _, _, _, _, _, _, _, _, _, _, _, _, _, _, _, _, ⟨j + 1, by omega, by go_num, HN.out⟩, rfl⟩
            case measure => simp [intOf]; omega
          · have g2 : (s.kind == 5) = false := by simp [h5]
            have HTT : Hid ((S.take (j + 1)).filter (ownB pf) = (S.take j).filter (ownB pf)) := Lib.hid (by rw [HT.out, if_neg (by simp [ownB, hf, h5]), List.append_nil])
            clear hf h5
            have HN : Hid (w3.ownsRow wc.heap.size 29 5 u7 ((S.take (j + 1)).filter (ownB pf)).length (lsCells ((S.take (j + 1)).filter (ownB pf))) ∧ Bel wc w3) := Lib.hid (by
              rw [HTT.out, HMM.out]
              exact ⟨HB3.out.2.2, HB3.out.2.1⟩)
            clear HB3 HO
            go_wp2
            go_roundw
            case rel => exact ⟨j + 1, by omega, by go_num, HN.out⟩
            case measure => simp [intOf]; omega
      · obtain rfl : j = n2 := by omega
        have hfull : S.take j = S := List.take_of_length_le (by rw [HRS.out.2]; exact Nat.le_refl _)
        have hO2 := HO.out
        rw [hfull] at hO2 hml
        obtain ⟨T, hT⟩ : ∃ T, T = S.filter (ownB pf) := ⟨_, rfl⟩
        rw [← hT] at hO2 hml
        obtain ⟨m, hm⟩ : ∃ m, m = T.length := ⟨_, rfl⟩
        rw [← hm] at hO2 hml
        have HST : Hid (∀ s ∈ T, StepK R.length s) := Lib.hid (fun s hs => by rw [hT] at hs; exact HSO.out s ((List.mem_filter.1 hs).1))
        have HTM := Lib.hid (And.intro hT hm)
        obtain ⟨x7, y7, rfl, _, _, _⟩ := own_form hO2
        have HOW := Lib.hid hO2
        have HWR : Hid (Bel w wr ∧ Blk wr bx 29 [.int .i64 3, .int .i64 pf, .int .i64 pl, .int .i64 pc, .int .i64 pv]) := Lib.hid ⟨HW.out.1.trans hbel, HW.out.2.bel hbel⟩
        have HBL := Lib.hid hbel
        have HBW := Lib.hid HWR.out.1
        have hnr : R.length ≤ 20 := by have := HRS.out.1; omega
        clear HO hO2 hT hm hfull hbel HW
        have s0 : wr.cell? ⟨bx, 0, none⟩ = some (.int .i64 3) := HWR.out.2.cell 0
        have s1 : wr.cell? ⟨bx, 1, none⟩ = some (.int .i64 pf) := HWR.out.2.cell 1
        have s2 : wr.cell? ⟨bx, 2, none⟩ = some (.int .i64 pl) := HWR.out.2.cell 2
        have s3 : wr.cell? ⟨bx, 3, none⟩ = some (.int .i64 pc) := HWR.out.2.cell 3
        have s4 : wr.cell? ⟨bx, 4, none⟩ = some (.int .i64 pv) := HWR.out.2.cell 4
        have HLN := Lib.hid (fun (W : World) (g cp : Nat) (hb : Bel wr W) (hl : LSt W (some ⟨g, 0, none⟩) (j + 1) (S ++ [⟨3, pf, pl, pc, pv⟩])) => lines_form (c1 := c1) (c2 := cp) (ents_bel HR.out (HWR.out.1.trans hb)) hl HQ.out.ro (fun s hs => (HQ.out.so s hs).1) hnr (by omega))
        go_upto_region 13 with (fail)
        refine act_name (fun a0 ha0 => ?_)
        have so0 : a0.eval (.tmp 0) = .slice a1 n1 c1 := by rw [ha0]; rfl
        have so1 : a0.eval (.tmp 1) = .slice a2 j c2 := by rw [ha0]; rfl
        have so5 : a0.eval (.tmp 5) = .pointer (some ⟨bx, 0, none⟩) := by rw [ha0]; rfl
        have hsz : a0.tmps.size = 110 := by rw [ha0]; rfl
        have HA0 := Lib.hid ha0; clear ha0
        refine region_obs3 (fun D a' W => ∃ (b : Nat) (g : Nat) (cp : Nat) (ax : Option Addr) (al : Nat) (ac : Nat) (A : List Pl.LAns), a' = frC a0 D (VA13 a1 a2 n1 c1 j c2 bx pf pl pc pv b g cp ax al ac A) ∧ WG wr (VA13_F j 1 S [⟨3, pf, pl, pc, pv⟩] R b g cp ax al ac A) D W) (by kernel_rfl) (by kernel_rfl) ⟨0, 0, 0, none, 0, 0, [], (frC_none _ _).symm, WG.start _ (by simp [VA13_F])⟩ ?_ ?_
        · refine ⟨?_, ?_, ?_, ?_, ?_, ?_, ?_, ?_, ?_, ?_, ?_, ?_, trivial⟩
          · rintro D _ W hD hcl hdeps ⟨b, g, cp, ax, al, ac, A, rfl, hW⟩
            have e0 := ev_get ((frC_out (a0 := a0) (D := D) (VA13_not0 a1 a2 n1 c1 j c2 bx pf pl pc pv b g cp ax al ac A)).trans so0)
            refine ob_val rfl (v := .slice a1 n1 c1) (by simp [execOp, go_sem, e0]) ⟨b, g, cp, ax, al, ac, A, frC_put hD (by simp [VA13]) (VA13_nd _ _ _ _ _ _ _ _ _ _ _ _ _ _ _ _ _ _) (VA13_nd' _ _ _ _ _ _ _ _ _ _ _ _ _ _ _ _ _ _), hW.step (VA13_st _ _ _ _ _ _ _ _ _ _ _ _) (Bel.refl W) (by simp [VA13_F])⟩
          · rintro D _ W hD hcl hdeps ⟨b, g, cp, ax, al, ac, A, rfl, hW⟩
            have e1 := ev_get ((frC_out (a0 := a0) (D := D) (VA13_not1 a1 a2 n1 c1 j c2 bx pf pl pc pv b g cp ax al ac A)).trans so1)
            refine ob_val rfl (v := .slice a2 j c2) (by simp [execOp, go_sem, e1]) ⟨b, g, cp, ax, al, ac, A, frC_put hD (by simp [VA13]) (VA13_nd _ _ _ _ _ _ _ _ _ _ _ _ _ _ _ _ _ _) (VA13_nd' _ _ _ _ _ _ _ _ _ _ _ _ _ _ _ _ _ _), hW.step (VA13_st _ _ _ _ _ _ _ _ _ _ _ _) (Bel.refl W) (by simp [VA13_F])⟩
          · rintro D _ W hD hcl hdeps ⟨b, g, cp, ax, al, ac, A, rfl, hW⟩
            have e1 := ev_get ((frC_out (a0 := a0) (D := D) (VA13_not1 a1 a2 n1 c1 j c2 bx pf pl pc pv b g cp ax al ac A)).trans so1)
            refine ob_val rfl (v := .slice a2 j c2) (by simp [execOp, go_sem, e1]) ⟨b, g, cp, ax, al, ac, A, frC_put hD (by simp [VA13]) (VA13_nd _ _ _ _ _ _ _ _ _ _ _ _ _ _ _ _ _ _) (VA13_nd' _ _ _ _ _ _ _ _ _ _ _ _ _ _ _ _ _ _), hW.step (VA13_st _ _ _ _ _ _ _ _ _ _ _ _) (Bel.refl W) (by simp [VA13_F])⟩
          · rintro D _ W hD hcl hdeps ⟨b, g, cp, ax, al, ac, A, rfl, hW⟩
            have hd2 : D 2 = true := hdeps ⟨2, .data⟩ (by simp) rfl
            have e59 := ev_get (frC_in (v := .slice a2 j c2) hd2 (show 59 < a0.tmps.size by rw [hsz]; decide) (vs := VA13 a1 a2 n1 c1 j c2 bx pf pl pc pv b g cp ax al ac A) (by simp [VA13]) (VA13_nd _ _ _ _ _ _ _ _ _ _ _ _ _ _ _ _ _ _))
            refine ob_val rfl (v := .int .i64 (j : Int)) (by simp [execOp, go_sem, e59]) ⟨b, g, cp, ax, al, ac, A, frC_put hD (by simp [VA13]) (VA13_nd _ _ _ _ _ _ _ _ _ _ _ _ _ _ _ _ _ _) (VA13_nd' _ _ _ _ _ _ _ _ _ _ _ _ _ _ _ _ _ _), hW.step (VA13_st _ _ _ _ _ _ _ _ _ _ _ _) (Bel.refl W) (by simp [VA13_F])⟩
          · rintro D _ W hD hcl hdeps ⟨b, g, cp, ax, al, ac, A, rfl, hW⟩
            have e1 := ev_get ((frC_out (a0 := a0) (D := D) (VA13_not1 a1 a2 n1 c1 j c2 bx pf pl pc pv b g cp ax al ac A)).trans so1)
            refine ob_val rfl (v := .slice a2 j c2) (by simp [execOp, go_sem, e1]) ⟨b, g, cp, ax, al, ac, A, frC_put hD (by simp [VA13]) (VA13_nd _ _ _ _ _ _ _ _ _ _ _ _ _ _ _ _ _ _) (VA13_nd' _ _ _ _ _ _ _ _ _ _ _ _ _ _ _ _ _ _), hW.step (VA13_st _ _ _ _ _ _ _ _ _ _ _ _) (Bel.refl W) (by simp [VA13_F])⟩
          · rintro D _ W hD hcl hdeps ⟨b, g, cp, ax, al, ac, A, rfl, hW⟩
            have hd4 : D 4 = true := hdeps ⟨4, .data⟩ (by simp) rfl
            have e61 := ev_get (frC_in (v := .slice a2 j c2) hd4 (show 61 < a0.tmps.size by rw [hsz]; decide) (vs := VA13 a1 a2 n1 c1 j c2 bx pf pl pc pv b g cp ax al ac A) (by simp [VA13]) (VA13_nd _ _ _ _ _ _ _ _ _ _ _ _ _ _ _ _ _ _))
            refine ob_val rfl (v := .int .i64 (j : Int)) (by simp [execOp, go_sem, e61]) ⟨b, g, cp, ax, al, ac, A, frC_put hD (by simp [VA13]) (VA13_nd _ _ _ _ _ _ _ _ _ _ _ _ _ _ _ _ _ _) (VA13_nd' _ _ _ _ _ _ _ _ _ _ _ _ _ _ _ _ _ _), hW.step (VA13_st _ _ _ _ _ _ _ _ _ _ _ _) (Bel.refl W) (by simp [VA13_F])⟩
          · rintro D _ W hD hcl hdeps ⟨b, g, cp, ax, al, ac, A, rfl, hW⟩
            have hd1 : D 1 = true := hdeps ⟨1, .data⟩ (by simp) rfl
            have E58 := frC_in (v := .slice a2 j c2) hd1 (show 58 < a0.tmps.size by rw [hsz]; decide) (vs := VA13 a1 a2 n1 c1 j c2 bx pf pl pc pv b g cp ax al ac A) (by simp [VA13]) (VA13_nd _ _ _ _ _ _ _ _ _ _ _ _ _ _ _ _ _ _)
            have hd3 : D 3 = true := hdeps ⟨3, .data⟩ (by simp) rfl
            have E60 := frC_in (v := .int .i64 (j : Int)) hd3 (show 60 < a0.tmps.size by rw [hsz]; decide) (vs := VA13 a1 a2 n1 c1 j c2 bx pf pl pc pv b g cp ax al ac A) (by simp [VA13]) (VA13_nd _ _ _ _ _ _ _ _ _ _ _ _ _ _ _ _ _ _)
            have hd5 : D 5 = true := hdeps ⟨5, .data⟩ (by simp) rfl
            have E62 := frC_in (v := .int .i64 (j : Int)) hd5 (show 62 < a0.tmps.size by rw [hsz]; decide) (vs := VA13 a1 a2 n1 c1 j c2 bx pf pl pc pv b g cp ax al ac A) (by simp [VA13]) (VA13_nd _ _ _ _ _ _ _ _ _ _ _ _ _ _ _ _ _ _)
            refine ob_val rfl (v := .slice a2 j j) ?_ ⟨b, g, cp, ax, al, ac, A, frC_put hD (by simp [VA13]) (VA13_nd _ _ _ _ _ _ _ _ _ _ _ _ _ _ _ _ _ _) (VA13_nd' _ _ _ _ _ _ _ _ _ _ _ _ _ _ _ _ _ _), hW.step (VA13_st _ _ _ _ _ _ _ _ _ _ _ _) (Bel.refl W) (by simp [VA13_F])⟩
            simp only [execOp, Sem.run_bind, E58, E60, E62, Option.map_some, Option.map_none, run_lslice W a2 j c2 NC, Result.andThen, Sem.run_pure]
          · rintro D _ W hD hcl hdeps ⟨b, g, cp, ax, al, ac, A, rfl, hW⟩
            have e5 := ev_get ((frC_out (a0 := a0) (D := D) (VA13_not5 a1 a2 n1 c1 j c2 bx pf pl pc pv b g cp ax al ac A)).trans so5)
            have z0 := hW.bel.cell s0
            have z1 := hW.bel.cell s1
            have z2 := hW.bel.cell s2
            have z3 := hW.bel.cell s3
            have z4 := hW.bel.cell s4
            refine ob_val rfl (v := .agg #[.int .i64 3, .int .i64 pf, .int .i64 pl, .int .i64 pc, .int .i64 pv]) (by simp [execOp, go_sem, e5, z0, z1, z2, z3, z4]) ⟨b, g, cp, ax, al, ac, A, frC_put hD (by simp [VA13]) (VA13_nd _ _ _ _ _ _ _ _ _ _ _ _ _ _ _ _ _ _) (VA13_nd' _ _ _ _ _ _ _ _ _ _ _ _ _ _ _ _ _ _), hW.step (VA13_st _ _ _ _ _ _ _ _ _ _ _ _) (Bel.refl W) (by simp [VA13_F])⟩
          · rintro D _ W hD hcl hdeps ⟨b, g, cp, ax, al, ac, A, rfl, hW⟩
            have hd7 : D 7 = true := hdeps ⟨7, .data⟩ (by simp) rfl
            have e64 := ev_get (frC_in (v := .agg #[.int .i64 3, .int .i64 pf, .int .i64 pl, .int .i64 pc, .int .i64 pv]) hd7 (show 64 < a0.tmps.size by rw [hsz]; decide) (vs := VA13 a1 a2 n1 c1 j c2 bx pf pl pc pv b g cp ax al ac A) (by simp [VA13]) (VA13_nd _ _ _ _ _ _ _ _ _ _ _ _ _ _ _ _ _ _))
            refine ob_val rfl (v := .slice (some ⟨W.heap.size, 0, none⟩) 1 1) (w' := W.alloc (.cells #[.int .i64 3, .int .i64 pf, .int .i64 pl, .int .i64 pc, .int .i64 pv] 29)) (by simp [execOp, go_sem, e64]) ?_
            have hb2 : Bel W (W.alloc (.cells #[.int .i64 3, .int .i64 pf, .int .i64 pl, .int .i64 pc, .int .i64 pv] 29)) := (Bel.refl W).alloc _
            refine ⟨W.heap.size, g, cp, ax, al, ac, A, by rw [show frC a0 D (VA13 a1 a2 n1 c1 j c2 bx pf pl pc pv b g cp ax al ac A) = frC a0 D (VA13 a1 a2 n1 c1 j c2 bx pf pl pc pv (W.heap.size) g cp ax al ac A) from by simp only [VA13, frC, hD, Bool.false_eq_true, if_false]]; exact frC_put hD (by simp [VA13]) (VA13_nd _ _ _ _ _ _ _ _ _ _ _ _ _ _ _ _ _ _) (VA13_nd' _ _ _ _ _ _ _ _ _ _ _ _ _ _ _ _ _ _), ?_⟩
            refine hW.new (VA13_st _ _ _ _ _ _ _ _ _ _ _ _) hb2 ?_
            intro f hf
            simp only [VA13_F, List.mem_cons, List.not_mem_nil, or_false] at hf
            rcases hf with rfl | rfl | rfl
            · exact .inl ⟨by simp, fun hg => Blk.new W _ [.int .i64 3, .int .i64 pf, .int .i64 pl, .int .i64 pc, .int .i64 pv]⟩
            · exact .inr ⟨by simp, by simp [VA13_F]⟩
            · exact .inr ⟨by simp, by simp [VA13_F]⟩
          · rintro D _ W hD hcl hdeps ⟨b, g, cp, ax, al, ac, A, rfl, hW⟩
            have hd6 : D 6 = true := hdeps ⟨6, .data⟩ (by simp) rfl
            have E63 := frC_in (v := .slice a2 j j) hd6 (show 63 < a0.tmps.size by rw [hsz]; decide) (vs := VA13 a1 a2 n1 c1 j c2 bx pf pl pc pv b g cp ax al ac A) (by simp [VA13]) (VA13_nd _ _ _ _ _ _ _ _ _ _ _ _ _ _ _ _ _ _)
            have hd8 : D 8 = true := hdeps ⟨8, .data⟩ (by simp) rfl
            have E65 := frC_in (v := .slice (some ⟨b, 0, none⟩) 1 1) hd8 (show 65 < a0.tmps.size by rw [hsz]; decide) (vs := VA13 a1 a2 n1 c1 j c2 bx pf pl pc pv b g cp ax al ac A) (by simp [VA13]) (VA13_nd _ _ _ _ _ _ _ _ _ _ _ _ _ _ _ _ _ _)
            have hbx := hW.get (k := 0) rfl (fun i hi => by simp at hi; subst hi; exact hd8)
            refine step_lcat rfl (.tmp 63) (.tmp 65) rfl a2 j S E63 (HS.out.bel (HBW.out.trans hW.bel)) b 1 [⟨3, pf, pl, pc, pv⟩] E65 hbx rfl (by omega) (by omega) (by omega) ?_
            intro g7 cp7 w7 ho7 hb7
            refine ⟨b, g7, cp7, ax, al, ac, A, by rw [show frC a0 D (VA13 a1 a2 n1 c1 j c2 bx pf pl pc pv b g cp ax al ac A) = frC a0 D (VA13 a1 a2 n1 c1 j c2 bx pf pl pc pv b (g7) (cp7) ax al ac A) from by simp only [VA13, frC, hD, Bool.false_eq_true, if_false]]; exact frC_put hD (by simp [VA13]) (VA13_nd _ _ _ _ _ _ _ _ _ _ _ _ _ _ _ _ _ _) (VA13_nd' _ _ _ _ _ _ _ _ _ _ _ _ _ _ _ _ _ _), ?_⟩
            refine hW.new (VA13_st _ _ _ _ _ _ _ _ _ _ _ _) hb7 ?_
            intro f hf
            simp only [VA13_F, List.mem_cons, List.not_mem_nil, or_false] at hf
            rcases hf with rfl | rfl | rfl
            · exact .inr ⟨by simp, by simp [VA13_F]⟩
            · exact .inl ⟨by simp, fun hg => ho7⟩
            · exact .inr ⟨by simp, by simp [VA13_F]⟩
          · rintro D _ W hD hcl hdeps ⟨b, g, cp, ax, al, ac, A, rfl, hW⟩
            have hd0 : D 0 = true := hdeps ⟨0, .data⟩ (by simp) rfl
            have e57 := ev_get (frC_in (v := .slice a1 n1 c1) hd0 (show 57 < a0.tmps.size by rw [hsz]; decide) (vs := VA13 a1 a2 n1 c1 j c2 bx pf pl pc pv b g cp ax al ac A) (by simp [VA13]) (VA13_nd _ _ _ _ _ _ _ _ _ _ _ _ _ _ _ _ _ _))
            have hd9 : D 9 = true := hdeps ⟨9, .data⟩ (by simp) rfl
            have e66 := ev_get (frC_in (v := .slice (some ⟨g, 0, none⟩) (j + 1) cp) hd9 (show 66 < a0.tmps.size by rw [hsz]; decide) (vs := VA13 a1 a2 n1 c1 j c2 bx pf pl pc pv b g cp ax al ac A) (by simp [VA13]) (VA13_nd _ _ _ _ _ _ _ _ _ _ _ _ _ _ _ _ _ _))
            refine ob_enter' rfl (f := 9) (args := #[.slice a1 n1 c1, .slice (some ⟨g, 0, none⟩) (j + 1) cp]) (w' := W) (by simp [go_sem, e57, e66]) ((HLN.out W g cp hW.bel (hW.get (k := 1) rfl (fun i hi => by simp at hi; subst hi; exact hd9))).mono ?_)
            rintro e w2 ⟨ax2, al2, ac2, A2, rfl, hla, hal, hru, hb2⟩
            have hn11 : D 11 = false := by cases h : D 11; rfl; have := hcl 11 _ rfl h ⟨10, .data⟩ (by simp) rfl; rw [hD] at this; cases this
            refine ⟨.slice ax2 al2 ac2, rfl, b, g, cp, ax2, al2, ac2, A2, by rw [show frC a0 D (VA13 a1 a2 n1 c1 j c2 bx pf pl pc pv b g cp ax al ac A) = frC a0 D (VA13 a1 a2 n1 c1 j c2 bx pf pl pc pv b g cp (ax2) (al2) (ac2) (A2)) from by simp only [VA13, frC, hD, hn11, Bool.false_eq_true, if_false]]; exact frC_put hD (by simp [VA13]) (VA13_nd _ _ _ _ _ _ _ _ _ _ _ _ _ _ _ _ _ _) (VA13_nd' _ _ _ _ _ _ _ _ _ _ _ _ _ _ _ _ _ _), ?_⟩
            refine hW.new (VA13_st _ _ _ _ _ _ _ _ _ _ _ _) hb2 ?_
            intro f hf
            simp only [VA13_F, List.mem_cons, List.not_mem_nil, or_false] at hf
            rcases hf with rfl | rfl | rfl
            · exact .inr ⟨by simp, by simp [VA13_F]⟩
            · exact .inr ⟨by simp, by simp [VA13_F]⟩
            · exact .inl ⟨by simp, fun hg => ⟨hla, hal, hru⟩⟩
          · rintro D _ W hD hcl hdeps ⟨b, g, cp, ax, al, ac, A, rfl, hW⟩
            have hd10 : D 10 = true := hdeps ⟨10, .data⟩ (by simp) rfl
            have e67 := ev_get (frC_in (v := .slice ax al ac) hd10 (show 67 < a0.tmps.size by rw [hsz]; decide) (vs := VA13 a1 a2 n1 c1 j c2 bx pf pl pc pv b g cp ax al ac A) (by simp [VA13]) (VA13_nd _ _ _ _ _ _ _ _ _ _ _ _ _ _ _ _ _ _))
            refine ob_val rfl (v := .slice ax al ac) (by simp [execOp, go_sem, e67]) ⟨b, g, cp, ax, al, ac, A, frC_put hD (by simp [VA13]) (VA13_nd _ _ _ _ _ _ _ _ _ _ _ _ _ _ _ _ _ _) (VA13_nd' _ _ _ _ _ _ _ _ _ _ _ _ _ _ _ _ _ _), hW.step (VA13_st _ _ _ _ _ _ _ _ _ _ _ _) (Bel.refl W) (by simp [VA13_F])⟩
        · rintro D _ wf hall ⟨b, g, cp, ax, al, ac, A, rfl, hW⟩
          have hf0 := hW.get (k := 0) rfl (fun i hi => hall i (by simp at hi; show i < 12; omega))
          have hf1 := hW.get (k := 1) rfl (fun i hi => hall i (by simp at hi; show i < 12; omega))
          have hf2 := hW.get (k := 2) rfl (fun i hi => hall i (by simp at hi; show i < 12; omega))
          have hbW := hW.bel
          rw [frC_all (fun e he => hall e.1 (by have h1 : e.1 ∈ (VA13 a1 a2 n1 c1 j c2 bx pf pl pc pv b g cp ax al ac A).map (·.1) := List.mem_map.2 ⟨e, he, rfl⟩; rw [VA13_idx] at h1; simp at h1; show e.1 < 12; omega))]
          have HA1 := Lib.hid hf2
          have HWF : Hid (Bel w wf ∧ Bel wc wf ∧ Blk wf bx 29 [.int .i64 3, .int .i64 pf, .int .i64 pl, .int .i64 pc, .int .i64 pv] ∧ wf.ownsRow wc.heap.size 29 5 (.slice x7 m y7) m (lsCells T)) := Lib.hid
            ⟨HWR.out.1.trans hbW, HBL.out.trans hbW, HWR.out.2.bel hbW, own_bel HOW.out hbW⟩
          rw [HA0.out]
          simp only [VA13, List.foldr_cons, List.foldr_nil, Act.put, List.setIfInBounds_toArray, List.set_cons_succ, List.set_cons_zero]
          clear hf0 hf1 hf2 hbW hW hall HA0 so0 so1 so5 hsz HWR HBL HBW HOW HLN s0 s1 s2 s3 s4
          have s0 : wf.cell? ⟨bx, 0, none⟩ = some (.int .i64 3) := HWF.out.2.2.1.cell 0
          have s1 : wf.cell? ⟨bx, 1, none⟩ = some (.int .i64 pf) := HWF.out.2.2.1.cell 1
          have s2 : wf.cell? ⟨bx, 2, none⟩ = some (.int .i64 pl) := HWF.out.2.2.1.cell 2
          have s3 : wf.cell? ⟨bx, 3, none⟩ = some (.int .i64 pc) := HWF.out.2.2.1.cell 3
          have s4 : wf.cell? ⟨bx, 4, none⟩ = some (.int .i64 pv) := HWF.out.2.2.1.cell 4
          have hzf : wc.heap.size ≤ wf.heap.size := HWF.out.2.1.size
          go_wp2_with (at_builtin; refine wpList_push elLs rfl _ _ rfl wc.heap.size (.slice x7 m y7) m _ rfl HWF.out.2.2.2 [.int .i64 3, .int .i64 pf, .int .i64 pl, .int .i64 pc, .int .i64 pv] wf.heap.size rfl rfl rfl (by simp [Value.oneCell']) (by omega) (by omega) hzf ?_)
          intro u5 w5 ho5 hg5 _
          have HW5 : Hid (Bel w w5 ∧ LAnE w5 (.slice ax al ac) A) := Lib.hid
            ⟨(HWF.out.1.trans (Bel.refl _)).grown hg5 (fun q hq => Nat.le_trans HBC.out (HWF.out.2.2.2.lt q hq).1), HA1.out.1.far HWF.out.2.2.2 (by decide) (by decide) hg5⟩
          obtain ⟨x8, y8, rfl, _, _, _⟩ := own_form ho5
          have HL5 : Hid (LSt w5 x8 (m + 1) (T ++ [⟨3, pf, pl, pc, pv⟩])) := Lib.hid (LSt.own (by rw [lsCells_append]; exact ho5))
          clear s0 s1 s2 s3 s4 ho5 hg5 HWF
          go_wp2_with fail
          refine (lines_form (c1 := c1) (c2 := y8) (ents_bel HR.out HW5.out.1) HL5.out HQ.out.ro (fun s hs => by rcases List.mem_append.1 hs with h | h; exact HST.out s h; (simp at h; subst h; exact HP0.out)) hnr (by omega)).mono ?_
          rintro e w6 ⟨ax2, al2, ac2, A2, rfl, hA2, hal2, hRun2, hb6⟩
          have HA2 := Lib.hid (And.intro hA2 (And.intro hal2 hRun2))
          have HW6 : Hid (Bel w w6 ∧ LAnE w6 (.slice ax al ac) A) := Lib.hid ⟨HW5.out.1.trans hb6, HW5.out.2.bel hb6⟩
          clear hA2 hal2 hRun2 hb6 HW5 HL5
          obtain ⟨pa, pb, hp1, hp2, hok, hval⟩ : ∃ a b, A[j]? = some a ∧ A2[m]? = some b ∧ a.ok = b.ok ∧ a.val = b.val := by
            have h2 := HA2.out.2.2
            rw [HTM.out.1] at h2
            have := get_own (x := ⟨3, pf, pl, pc, pv⟩) rfl HP0.out.f0 (fun s hs => (HSO.out s hs).f0) HA1.out.2.2 h2
            simp only at this
            rw [← HTM.out.1, HRS.out.2, ← HTM.out.2] at this
            exact this
          have hal1 : al = j + 1 := by rw [HA1.out.2.1, HA1.out.2.2.1, List.length_append, HRS.out.2]; rfl
          have hal2 : al2 = m + 1 := by rw [HA2.out.2.1, HA2.out.2.2.1, List.length_append, ← HTM.out.2]; rfl
          obtain ⟨_, _, e1, _, _, hC1⟩ := HW6.out.2.read
          injection e1 with e1a e1b e1c
          subst e1a e1c
          obtain ⟨g1, rfl, hc1⟩ := hC1 (by omega)
          obtain ⟨u1, u2, u3, p0, p1, p2, p3, p4, i1, i2, i3⟩ := hc1 j pa hp1
          obtain ⟨ex1, ec1, rfl, _, _, _⟩ := i1
          obtain ⟨ex2, ec2, rfl, _, _, _⟩ := i2
          obtain ⟨ex3, ec3, rfl, _, _, _⟩ := i3
          obtain ⟨_, _, e2, _, _, hC2⟩ := HA2.out.1.read
          injection e2 with e2a e2b e2c
          subst e2a e2c
          obtain ⟨g2, rfl, hc2⟩ := hC2 (by omega)
          obtain ⟨v1, v2, v3, r0, r1, r2, r3, r4, i1, i2, i3⟩ := hc2 m pb hp2
          obtain ⟨fx1, fc1, rfl, _, _, _⟩ := i1
          obtain ⟨fx2, fc2, rfl, _, _, _⟩ := i2
          obtain ⟨fx3, fc3, rfl, _, _, _⟩ := i3
          rw [← hok] at r0
          rw [← hval] at r1
          generalize pa.ok = ok at p0 r0
          generalize pa.val = va at p1 r1
          generalize pa.files.length = en1 at p2
          generalize pa.lines.length = en2 at p3
          generalize pa.vals.length = en3 at p4
          generalize pb.files.length = fn1 at r2
          generalize pb.lines.length = fn2 at r3
          generalize pb.vals.length = fn3 at r4
          clear hC1 hC2 hc1 hc2 hp1 hp2 hok hval e1b e2b
          have HB6 := Lib.hid HW6.out.1
          clear HW6 HA1 HA2
          subst hal1 hal2
          have j0 : (0 : Int) ≤ (j : Int) := by omega
          have j1 : (j : Int) < (j : Int) + 1 := by omega
          have j2 : (0 : Int) ≤ (m : Int) := by omega
          have j3 : (m : Int) < (m : Int) + 1 := by omega
          go_upto_region 17 with (fail)
          refine act_name (fun a0 ha0 => ?_)
          have so10 : a0.eval (.tmp 10) = .slice (some ⟨g1, 0, none⟩) (j + 1) ac := by rw [ha0]; rfl
          have so1 : a0.eval (.tmp 1) = .slice a2 j c2 := by rw [ha0]; rfl
          have so11 : a0.eval (.tmp 11) = .slice (some ⟨g2, 0, none⟩) (m + 1) ac2 := by rw [ha0]; rfl
          have so7 : a0.eval (.tmp 7) = .slice x7 m y7 := by rw [ha0]; rfl
          have hsz : a0.tmps.size = 110 := by rw [ha0]; rfl
          have HA0 := Lib.hid ha0; clear ha0
          refine region_obs3 (fun D a' W => ∃ (b : Nat) (c : Nat), a' = frC a0 D (VA17 a2 x7 g1 ac j c2 g2 ac2 m y7 ok va ex1 ex2 ex3 fx1 fx2 fx3 en1 ec1 en2 ec2 en3 ec3 fn1 fc1 fn2 fc2 fn3 fc3 b c) ∧ WG w6 (VA17_F w6.heap.size ok va ex1 ex2 ex3 fx1 fx2 fx3 en1 ec1 en2 ec2 en3 ec3 fn1 fc1 fn2 fc2 fn3 fc3 b c) D W) (by kernel_rfl) (by kernel_rfl) ⟨0, 0, (frC_none _ _).symm, WG.start _ (by simp [VA17_F])⟩ ?_ ?_
          · refine ⟨?_, ?_, ?_, ?_, ?_, ?_, ?_, ?_, ?_, ?_, ?_, ?_, ?_, ?_, trivial⟩
            · rintro D _ W hD hcl hdeps ⟨b, c, rfl, hW⟩
              have e10 := ev_get ((frC_out (a0 := a0) (D := D) (VA17_not10 a2 x7 g1 ac j c2 g2 ac2 m y7 ok va ex1 ex2 ex3 fx1 fx2 fx3 en1 ec1 en2 ec2 en3 ec3 fn1 fc1 fn2 fc2 fn3 fc3 b c)).trans so10)
              refine ob_val rfl (v := .slice (some ⟨g1, 0, none⟩) (j + 1) ac) (by simp [execOp, go_sem, e10]) ⟨b, c, frC_put hD (by simp [VA17]) (VA17_nd _ _ _ _ _ _ _ _ _ _ _ _ _ _ _ _ _ _ _ _ _ _ _ _ _ _ _ _ _ _ _ _) (VA17_nd' _ _ _ _ _ _ _ _ _ _ _ _ _ _ _ _ _ _ _ _ _ _ _ _ _ _ _ _ _ _ _ _), hW.step (VA17_st _ _ _ _ _ _ _ _ _ _ _ _ _ _ _ _ _ _ _ _ _ _ _) (Bel.refl W) (by simp [VA17_F])⟩
            · rintro D _ W hD hcl hdeps ⟨b, c, rfl, hW⟩
              have e1 := ev_get ((frC_out (a0 := a0) (D := D) (VA17_not1 a2 x7 g1 ac j c2 g2 ac2 m y7 ok va ex1 ex2 ex3 fx1 fx2 fx3 en1 ec1 en2 ec2 en3 ec3 fn1 fc1 fn2 fc2 fn3 fc3 b c)).trans so1)
              refine ob_val rfl (v := .slice a2 j c2) (by simp [execOp, go_sem, e1]) ⟨b, c, frC_put hD (by simp [VA17]) (VA17_nd _ _ _ _ _ _ _ _ _ _ _ _ _ _ _ _ _ _ _ _ _ _ _ _ _ _ _ _ _ _ _ _) (VA17_nd' _ _ _ _ _ _ _ _ _ _ _ _ _ _ _ _ _ _ _ _ _ _ _ _ _ _ _ _ _ _ _ _), hW.step (VA17_st _ _ _ _ _ _ _ _ _ _ _ _ _ _ _ _ _ _ _ _ _ _ _) (Bel.refl W) (by simp [VA17_F])⟩
            · rintro D _ W hD hcl hdeps ⟨b, c, rfl, hW⟩
              have hd1 : D 1 = true := hdeps ⟨1, .data⟩ (by simp) rfl
              have e89 := ev_get (frC_in (v := .slice a2 j c2) hd1 (show 89 < a0.tmps.size by rw [hsz]; decide) (vs := VA17 a2 x7 g1 ac j c2 g2 ac2 m y7 ok va ex1 ex2 ex3 fx1 fx2 fx3 en1 ec1 en2 ec2 en3 ec3 fn1 fc1 fn2 fc2 fn3 fc3 b c) (by simp [VA17]) (VA17_nd _ _ _ _ _ _ _ _ _ _ _ _ _ _ _ _ _ _ _ _ _ _ _ _ _ _ _ _ _ _ _ _))
              refine ob_val rfl (v := .int .i64 (j : Int)) (by simp [execOp, go_sem, e89]) ⟨b, c, frC_put hD (by simp [VA17]) (VA17_nd _ _ _ _ _ _ _ _ _ _ _ _ _ _ _ _ _ _ _ _ _ _ _ _ _ _ _ _ _ _ _ _) (VA17_nd' _ _ _ _ _ _ _ _ _ _ _ _ _ _ _ _ _ _ _ _ _ _ _ _ _ _ _ _ _ _ _ _), hW.step (VA17_st _ _ _ _ _ _ _ _ _ _ _ _ _ _ _ _ _ _ _ _ _ _ _) (Bel.refl W) (by simp [VA17_F])⟩
            · rintro D _ W hD hcl hdeps ⟨b, c, rfl, hW⟩
              have hd0 : D 0 = true := hdeps ⟨0, .data⟩ (by simp) rfl
              have e88 := ev_get (frC_in (v := .slice (some ⟨g1, 0, none⟩) (j + 1) ac) hd0 (show 88 < a0.tmps.size by rw [hsz]; decide) (vs := VA17 a2 x7 g1 ac j c2 g2 ac2 m y7 ok va ex1 ex2 ex3 fx1 fx2 fx3 en1 ec1 en2 ec2 en3 ec3 fn1 fc1 fn2 fc2 fn3 fc3 b c) (by simp [VA17]) (VA17_nd _ _ _ _ _ _ _ _ _ _ _ _ _ _ _ _ _ _ _ _ _ _ _ _ _ _ _ _ _ _ _ _))
              have hd2 : D 2 = true := hdeps ⟨2, .data⟩ (by simp) rfl
              have e90 := ev_get (frC_in (v := .int .i64 (j : Int)) hd2 (show 90 < a0.tmps.size by rw [hsz]; decide) (vs := VA17 a2 x7 g1 ac j c2 g2 ac2 m y7 ok va ex1 ex2 ex3 fx1 fx2 fx3 en1 ec1 en2 ec2 en3 ec3 fn1 fc1 fn2 fc2 fn3 fc3 b c) (by simp [VA17]) (VA17_nd _ _ _ _ _ _ _ _ _ _ _ _ _ _ _ _ _ _ _ _ _ _ _ _ _ _ _ _ _ _ _ _))
              refine ob_val rfl (v := .pointer (some ⟨g1, j * 5, none⟩)) (by simp [execOp, go_sem, e88, e90, j0, j1]) ⟨b, c, frC_put hD (by simp [VA17]) (VA17_nd _ _ _ _ _ _ _ _ _ _ _ _ _ _ _ _ _ _ _ _ _ _ _ _ _ _ _ _ _ _ _ _) (VA17_nd' _ _ _ _ _ _ _ _ _ _ _ _ _ _ _ _ _ _ _ _ _ _ _ _ _ _ _ _ _ _ _ _), hW.step (VA17_st _ _ _ _ _ _ _ _ _ _ _ _ _ _ _ _ _ _ _ _ _ _ _) (Bel.refl W) (by simp [VA17_F])⟩
            · rintro D _ W hD hcl hdeps ⟨b, c, rfl, hW⟩
              have hd3 : D 3 = true := hdeps ⟨3, .data⟩ (by simp) rfl
              have e91 := ev_get (frC_in (v := .pointer (some ⟨g1, j * 5, none⟩)) hd3 (show 91 < a0.tmps.size by rw [hsz]; decide) (vs := VA17 a2 x7 g1 ac j c2 g2 ac2 m y7 ok va ex1 ex2 ex3 fx1 fx2 fx3 en1 ec1 en2 ec2 en3 ec3 fn1 fc1 fn2 fc2 fn3 fc3 b c) (by simp [VA17]) (VA17_nd _ _ _ _ _ _ _ _ _ _ _ _ _ _ _ _ _ _ _ _ _ _ _ _ _ _ _ _ _ _ _ _))
              have z0 := hW.bel.cell p0
              have z1 := hW.bel.cell p1
              have z2 := hW.bel.cell p2
              have z3 := hW.bel.cell p3
              have z4 := hW.bel.cell p4
              refine ob_val rfl (v := .agg #[.bool ok, .int .i64 va, .slice ex1 en1 ec1, .slice ex2 en2 ec2, .slice ex3 en3 ec3]) (by simp [execOp, go_sem, e91, z0, z1, z2, z3, z4]) ⟨b, c, frC_put hD (by simp [VA17]) (VA17_nd _ _ _ _ _ _ _ _ _ _ _ _ _ _ _ _ _ _ _ _ _ _ _ _ _ _ _ _ _ _ _ _) (VA17_nd' _ _ _ _ _ _ _ _ _ _ _ _ _ _ _ _ _ _ _ _ _ _ _ _ _ _ _ _ _ _ _ _), hW.step (VA17_st _ _ _ _ _ _ _ _ _ _ _ _ _ _ _ _ _ _ _ _ _ _ _) (Bel.refl W) (by simp [VA17_F])⟩
            · rintro D _ W hD hcl hdeps ⟨b, c, rfl, hW⟩
              have e11 := ev_get ((frC_out (a0 := a0) (D := D) (VA17_not11 a2 x7 g1 ac j c2 g2 ac2 m y7 ok va ex1 ex2 ex3 fx1 fx2 fx3 en1 ec1 en2 ec2 en3 ec3 fn1 fc1 fn2 fc2 fn3 fc3 b c)).trans so11)
              refine ob_val rfl (v := .slice (some ⟨g2, 0, none⟩) (m + 1) ac2) (by simp [execOp, go_sem, e11]) ⟨b, c, frC_put hD (by simp [VA17]) (VA17_nd _ _ _ _ _ _ _ _ _ _ _ _ _ _ _ _ _ _ _ _ _ _ _ _ _ _ _ _ _ _ _ _) (VA17_nd' _ _ _ _ _ _ _ _ _ _ _ _ _ _ _ _ _ _ _ _ _ _ _ _ _ _ _ _ _ _ _ _), hW.step (VA17_st _ _ _ _ _ _ _ _ _ _ _ _ _ _ _ _ _ _ _ _ _ _ _) (Bel.refl W) (by simp [VA17_F])⟩
            · rintro D _ W hD hcl hdeps ⟨b, c, rfl, hW⟩
              have e7 := ev_get ((frC_out (a0 := a0) (D := D) (VA17_not7 a2 x7 g1 ac j c2 g2 ac2 m y7 ok va ex1 ex2 ex3 fx1 fx2 fx3 en1 ec1 en2 ec2 en3 ec3 fn1 fc1 fn2 fc2 fn3 fc3 b c)).trans so7)
              refine ob_val rfl (v := .slice x7 m y7) (by simp [execOp, go_sem, e7]) ⟨b, c, frC_put hD (by simp [VA17]) (VA17_nd _ _ _ _ _ _ _ _ _ _ _ _ _ _ _ _ _ _ _ _ _ _ _ _ _ _ _ _ _ _ _ _) (VA17_nd' _ _ _ _ _ _ _ _ _ _ _ _ _ _ _ _ _ _ _ _ _ _ _ _ _ _ _ _ _ _ _ _), hW.step (VA17_st _ _ _ _ _ _ _ _ _ _ _ _ _ _ _ _ _ _ _ _ _ _ _) (Bel.refl W) (by simp [VA17_F])⟩
            · rintro D _ W hD hcl hdeps ⟨b, c, rfl, hW⟩
              have hd6 : D 6 = true := hdeps ⟨6, .data⟩ (by simp) rfl
              have e94 := ev_get (frC_in (v := .slice x7 m y7) hd6 (show 94 < a0.tmps.size by rw [hsz]; decide) (vs := VA17 a2 x7 g1 ac j c2 g2 ac2 m y7 ok va ex1 ex2 ex3 fx1 fx2 fx3 en1 ec1 en2 ec2 en3 ec3 fn1 fc1 fn2 fc2 fn3 fc3 b c) (by simp [VA17]) (VA17_nd _ _ _ _ _ _ _ _ _ _ _ _ _ _ _ _ _ _ _ _ _ _ _ _ _ _ _ _ _ _ _ _))
              refine ob_val rfl (v := .int .i64 (m : Int)) (by simp [execOp, go_sem, e94]) ⟨b, c, frC_put hD (by simp [VA17]) (VA17_nd _ _ _ _ _ _ _ _ _ _ _ _ _ _ _ _ _ _ _ _ _ _ _ _ _ _ _ _ _ _ _ _) (VA17_nd' _ _ _ _ _ _ _ _ _ _ _ _ _ _ _ _ _ _ _ _ _ _ _ _ _ _ _ _ _ _ _ _), hW.step (VA17_st _ _ _ _ _ _ _ _ _ _ _ _ _ _ _ _ _ _ _ _ _ _ _) (Bel.refl W) (by simp [VA17_F])⟩
            · rintro D _ W hD hcl hdeps ⟨b, c, rfl, hW⟩
              have hd5 : D 5 = true := hdeps ⟨5, .data⟩ (by simp) rfl
              have e93 := ev_get (frC_in (v := .slice (some ⟨g2, 0, none⟩) (m + 1) ac2) hd5 (show 93 < a0.tmps.size by rw [hsz]; decide) (vs := VA17 a2 x7 g1 ac j c2 g2 ac2 m y7 ok va ex1 ex2 ex3 fx1 fx2 fx3 en1 ec1 en2 ec2 en3 ec3 fn1 fc1 fn2 fc2 fn3 fc3 b c) (by simp [VA17]) (VA17_nd _ _ _ _ _ _ _ _ _ _ _ _ _ _ _ _ _ _ _ _ _ _ _ _ _ _ _ _ _ _ _ _))
              have hd7 : D 7 = true := hdeps ⟨7, .data⟩ (by simp) rfl
              have e95 := ev_get (frC_in (v := .int .i64 (m : Int)) hd7 (show 95 < a0.tmps.size by rw [hsz]; decide) (vs := VA17 a2 x7 g1 ac j c2 g2 ac2 m y7 ok va ex1 ex2 ex3 fx1 fx2 fx3 en1 ec1 en2 ec2 en3 ec3 fn1 fc1 fn2 fc2 fn3 fc3 b c) (by simp [VA17]) (VA17_nd _ _ _ _ _ _ _ _ _ _ _ _ _ _ _ _ _ _ _ _ _ _ _ _ _ _ _ _ _ _ _ _))
              refine ob_val rfl (v := .pointer (some ⟨g2, m * 5, none⟩)) (by simp [execOp, go_sem, e93, e95, j2, j3]) ⟨b, c, frC_put hD (by simp [VA17]) (VA17_nd _ _ _ _ _ _ _ _ _ _ _ _ _ _ _ _ _ _ _ _ _ _ _ _ _ _ _ _ _ _ _ _) (VA17_nd' _ _ _ _ _ _ _ _ _ _ _ _ _ _ _ _ _ _ _ _ _ _ _ _ _ _ _ _ _ _ _ _), hW.step (VA17_st _ _ _ _ _ _ _ _ _ _ _ _ _ _ _ _ _ _ _ _ _ _ _) (Bel.refl W) (by simp [VA17_F])⟩
            · rintro D _ W hD hcl hdeps ⟨b, c, rfl, hW⟩
              have hd8 : D 8 = true := hdeps ⟨8, .data⟩ (by simp) rfl
              have e96 := ev_get (frC_in (v := .pointer (some ⟨g2, m * 5, none⟩)) hd8 (show 96 < a0.tmps.size by rw [hsz]; decide) (vs := VA17 a2 x7 g1 ac j c2 g2 ac2 m y7 ok va ex1 ex2 ex3 fx1 fx2 fx3 en1 ec1 en2 ec2 en3 ec3 fn1 fc1 fn2 fc2 fn3 fc3 b c) (by simp [VA17]) (VA17_nd _ _ _ _ _ _ _ _ _ _ _ _ _ _ _ _ _ _ _ _ _ _ _ _ _ _ _ _ _ _ _ _))
              have z0 := hW.bel.cell r0
              have z1 := hW.bel.cell r1
              have z2 := hW.bel.cell r2
              have z3 := hW.bel.cell r3
              have z4 := hW.bel.cell r4
              refine ob_val rfl (v := .agg #[.bool ok, .int .i64 va, .slice fx1 fn1 fc1, .slice fx2 fn2 fc2, .slice fx3 fn3 fc3]) (by simp [execOp, go_sem, e96, z0, z1, z2, z3, z4]) ⟨b, c, frC_put hD (by simp [VA17]) (VA17_nd _ _ _ _ _ _ _ _ _ _ _ _ _ _ _ _ _ _ _ _ _ _ _ _ _ _ _ _ _ _ _ _) (VA17_nd' _ _ _ _ _ _ _ _ _ _ _ _ _ _ _ _ _ _ _ _ _ _ _ _ _ _ _ _ _ _ _ _), hW.step (VA17_st _ _ _ _ _ _ _ _ _ _ _ _ _ _ _ _ _ _ _ _ _ _ _) (Bel.refl W) (by simp [VA17_F])⟩
            · rintro D _ W hD hcl hdeps ⟨b, c, rfl, hW⟩
              refine ob_val rfl (v := .pointer (some ⟨W.heap.size, 0, none⟩)) (w' := W.alloc (.cells #[.bool false, .int .i64 0, .slice none 0 0, .slice none 0 0, .slice none 0 0] 33)) (by simp [execOp, go_sem]) ?_
              have hb2 : Bel W (W.alloc (.cells #[.bool false, .int .i64 0, .slice none 0 0, .slice none 0 0, .slice none 0 0] 33)) := (Bel.refl W).alloc _
              have hn12 : D 12 = false := by cases h : D 12; rfl; have := hcl 12 _ rfl h ⟨10, .data⟩ (by simp) rfl; rw [hD] at this; cases this
              refine ⟨W.heap.size, c, by rw [show frC a0 D (VA17 a2 x7 g1 ac j c2 g2 ac2 m y7 ok va ex1 ex2 ex3 fx1 fx2 fx3 en1 ec1 en2 ec2 en3 ec3 fn1 fc1 fn2 fc2 fn3 fc3 b c) = frC a0 D (VA17 a2 x7 g1 ac j c2 g2 ac2 m y7 ok va ex1 ex2 ex3 fx1 fx2 fx3 en1 ec1 en2 ec2 en3 ec3 fn1 fc1 fn2 fc2 fn3 fc3 (W.heap.size) c) from by simp only [VA17, frC, hD, Bool.false_eq_true, if_false]]; exact frC_put hD (by simp [VA17]) (VA17_nd _ _ _ _ _ _ _ _ _ _ _ _ _ _ _ _ _ _ _ _ _ _ _ _ _ _ _ _ _ _ _ _) (VA17_nd' _ _ _ _ _ _ _ _ _ _ _ _ _ _ _ _ _ _ _ _ _ _ _ _ _ _ _ _ _ _ _ _), ?_⟩
              refine hW.new (VA17_st _ _ _ _ _ _ _ _ _ _ _ _ _ _ _ _ _ _ _ _ _ _ _) hb2 ?_
              intro f hf
              simp only [VA17_F, List.mem_cons, List.not_mem_nil, or_false] at hf
              rcases hf with rfl | rfl | rfl | rfl | rfl
              · exact .inl ⟨by simp, fun hg => ⟨hW.bel.size, _, _, _, _, _, Blk.new W _ [_, _, _, _, _]⟩⟩
              · exact .inr ⟨by simp, by simp [VA17_F]⟩
              · exact .inl ⟨by simp, fun hg => (by obtain ⟨_, _, _, _, _, _, hB⟩ := hW.get (k := 1) rfl (fun i hi => by simp at hi; subst hi; exact (hg 11 (by simp)).resolve_left (by decide)); have := hB.lt; omega)⟩
              · exact .inl ⟨by simp, fun hg => absurd (hg 12 (by simp)) (by simp [hn12])⟩
              · exact .inr ⟨by simp, by simp [VA17_F]⟩
            · rintro D _ W hD hcl hdeps ⟨b, c, rfl, hW⟩
              refine ob_val rfl (v := .pointer (some ⟨W.heap.size, 0, none⟩)) (w' := W.alloc (.cells #[.bool false, .int .i64 0, .slice none 0 0, .slice none 0 0, .slice none 0 0] 33)) (by simp [execOp, go_sem]) ?_
              have hb2 : Bel W (W.alloc (.cells #[.bool false, .int .i64 0, .slice none 0 0, .slice none 0 0, .slice none 0 0] 33)) := (Bel.refl W).alloc _
              have hn13 : D 13 = false := by cases h : D 13; rfl; have := hcl 13 _ rfl h ⟨11, .data⟩ (by simp) rfl; rw [hD] at this; cases this
              refine ⟨b, W.heap.size, by rw [show frC a0 D (VA17 a2 x7 g1 ac j c2 g2 ac2 m y7 ok va ex1 ex2 ex3 fx1 fx2 fx3 en1 ec1 en2 ec2 en3 ec3 fn1 fc1 fn2 fc2 fn3 fc3 b c) = frC a0 D (VA17 a2 x7 g1 ac j c2 g2 ac2 m y7 ok va ex1 ex2 ex3 fx1 fx2 fx3 en1 ec1 en2 ec2 en3 ec3 fn1 fc1 fn2 fc2 fn3 fc3 b (W.heap.size)) from by simp only [VA17, frC, hD, Bool.false_eq_true, if_false]]; exact frC_put hD (by simp [VA17]) (VA17_nd _ _ _ _ _ _ _ _ _ _ _ _ _ _ _ _ _ _ _ _ _ _ _ _ _ _ _ _ _ _ _ _) (VA17_nd' _ _ _ _ _ _ _ _ _ _ _ _ _ _ _ _ _ _ _ _ _ _ _ _ _ _ _ _ _ _ _ _), ?_⟩
              refine hW.new (VA17_st _ _ _ _ _ _ _ _ _ _ _ _ _ _ _ _ _ _ _ _ _ _ _) hb2 ?_
              intro f hf
              simp only [VA17_F, List.mem_cons, List.not_mem_nil, or_false] at hf
              rcases hf with rfl | rfl | rfl | rfl | rfl
              · exact .inr ⟨by simp, by simp [VA17_F]⟩
              · exact .inl ⟨by simp, fun hg => ⟨hW.bel.size, _, _, _, _, _, Blk.new W _ [_, _, _, _, _]⟩⟩
              · exact .inl ⟨by simp, fun hg => (by obtain ⟨_, _, _, _, _, _, hB⟩ := hW.get (k := 0) rfl (fun i hi => by simp at hi; subst hi; exact (hg 10 (by simp)).resolve_left (by decide)); have := hB.lt; omega)⟩
              · exact .inr ⟨by simp, by simp [VA17_F]⟩
              · exact .inl ⟨by simp, fun hg => absurd (hg 13 (by simp)) (by simp [hn13])⟩
            · rintro D _ W hD hcl hdeps ⟨b, c, rfl, hW⟩
              have hd10 : D 10 = true := hdeps ⟨10, .data⟩ (by simp) rfl
              have e12 := ev_get (frC_in (v := .pointer (some ⟨b, 0, none⟩)) hd10 (show 12 < a0.tmps.size by rw [hsz]; decide) (vs := VA17 a2 x7 g1 ac j c2 g2 ac2 m y7 ok va ex1 ex2 ex3 fx1 fx2 fx3 en1 ec1 en2 ec2 en3 ec3 fn1 fc1 fn2 fc2 fn3 fc3 b c) (by simp [VA17]) (VA17_nd _ _ _ _ _ _ _ _ _ _ _ _ _ _ _ _ _ _ _ _ _ _ _ _ _ _ _ _ _ _ _ _))
              have hd4 : D 4 = true := hdeps ⟨4, .data⟩ (by simp) rfl
              have e92 := ev_get (frC_in (v := .agg #[.bool ok, .int .i64 va, .slice ex1 en1 ec1, .slice ex2 en2 ec2, .slice ex3 en3 ec3]) hd4 (show 92 < a0.tmps.size by rw [hsz]; decide) (vs := VA17 a2 x7 g1 ac j c2 g2 ac2 m y7 ok va ex1 ex2 ex3 fx1 fx2 fx3 en1 ec1 en2 ec2 en3 ec3 fn1 fc1 fn2 fc2 fn3 fc3 b c) (by simp [VA17]) (VA17_nd _ _ _ _ _ _ _ _ _ _ _ _ _ _ _ _ _ _ _ _ _ _ _ _ _ _ _ _ _ _ _ _))
              obtain ⟨hle, y0, y1, y2, y3, y4, hB⟩ := hW.get (k := 0) rfl (fun i hi => by simp at hi; subst hi; exact hd10)
              have y0 : W.cell? ⟨b, 0, none⟩ = some y0 := hB.cell 0
              have y1 : W.cell? ⟨b, 1, none⟩ = some y1 := hB.cell 1
              have y2 : W.cell? ⟨b, 2, none⟩ = some y2 := hB.cell 2
              have y3 : W.cell? ⟨b, 3, none⟩ = some y3 := hB.cell 3
              have y4 : W.cell? ⟨b, 4, none⟩ = some y4 := hB.cell 4
              have z0 := hB.frozen 0
              have z1 := hB.frozen 1
              have z2 := hB.frozen 2
              have z3 := hB.frozen 3
              have z4 := hB.frozen 4
              have hF := five hB (.bool ok) (.int .i64 va) (.slice ex1 en1 ec1) (.slice ex2 en2 ec2) (.slice ex3 en3 ec3)
              refine ob_skip rfl (w' := (((((W.setCell ⟨b, 0, none⟩ (.bool ok)).setCell ⟨b, 1, none⟩ (.int .i64 va)).setCell ⟨b, 2, none⟩ (.slice ex1 en1 ec1)).setCell ⟨b, 3, none⟩ (.slice ex2 en2 ec2)).setCell ⟨b, 4, none⟩ (.slice ex3 en3 ec3))) (by simp [execOp, go_sem, e12, e92, y0, y1, y2, y3, y4, z0, z1, z2, z3, z4]) ⟨b, c, ?_, ?_⟩
              · rw [frC_also_out (by rw [VA17_idx]; decide)]
                rfl
              · refine ⟨hW.bel.kt hF.2.2 hle, fun x hx hg => ?_⟩
                simp only [VA17_F, List.mem_cons, List.not_mem_nil, or_false] at hx
                rcases hx with rfl | rfl | rfl | rfl | rfl
                · exact ⟨hle, _, _, _, _, _, hF.1⟩
                · obtain ⟨hle2, u0, u1, u2, u3, u4, hC⟩ := hW.get (k := 1) rfl (fun i hi => by simp at hi; subst hi; have := hg 11 (by simp); rwa [also_ne (by decide)] at this)
                  have hne : b ≠ c := hW.get (k := 2) rfl (fun i hi => by simp at hi; rcases hi with rfl | rfl <;> first | exact hd10 | (have := hg 11 (by simp); rwa [also_ne (by decide)] at this))
                  exact ⟨hle2, _, _, _, _, _, hC.kept hF.2.1 (by simp; omega)⟩
                · exact hW.get (k := 2) rfl (fun i hi => by simp at hi; rcases hi with rfl | rfl <;> first | exact hd10 | (have := hg 11 (by simp); rwa [also_ne (by decide)] at this))
                · exact hF.1
                · have hC := hW.get (k := 4) rfl (fun i hi => by have h1 := hg i hi; simp at hi; rcases hi with rfl | rfl <;> rwa [also_ne (by decide)] at h1)
                  have hne : b ≠ c := hW.get (k := 2) rfl (fun i hi => by simp at hi; rcases hi with rfl | rfl <;> first | exact hd10 | (have := hg 11 (by simp); rwa [also_ne (by decide)] at this))
                  exact hC.kept hF.2.1 (by simp; omega)
            · rintro D _ W hD hcl hdeps ⟨b, c, rfl, hW⟩
              have hd11 : D 11 = true := hdeps ⟨11, .data⟩ (by simp) rfl
              have e13 := ev_get (frC_in (v := .pointer (some ⟨c, 0, none⟩)) hd11 (show 13 < a0.tmps.size by rw [hsz]; decide) (vs := VA17 a2 x7 g1 ac j c2 g2 ac2 m y7 ok va ex1 ex2 ex3 fx1 fx2 fx3 en1 ec1 en2 ec2 en3 ec3 fn1 fc1 fn2 fc2 fn3 fc3 b c) (by simp [VA17]) (VA17_nd _ _ _ _ _ _ _ _ _ _ _ _ _ _ _ _ _ _ _ _ _ _ _ _ _ _ _ _ _ _ _ _))
              have hd9 : D 9 = true := hdeps ⟨9, .data⟩ (by simp) rfl
              have e97 := ev_get (frC_in (v := .agg #[.bool ok, .int .i64 va, .slice fx1 fn1 fc1, .slice fx2 fn2 fc2, .slice fx3 fn3 fc3]) hd9 (show 97 < a0.tmps.size by rw [hsz]; decide) (vs := VA17 a2 x7 g1 ac j c2 g2 ac2 m y7 ok va ex1 ex2 ex3 fx1 fx2 fx3 en1 ec1 en2 ec2 en3 ec3 fn1 fc1 fn2 fc2 fn3 fc3 b c) (by simp [VA17]) (VA17_nd _ _ _ _ _ _ _ _ _ _ _ _ _ _ _ _ _ _ _ _ _ _ _ _ _ _ _ _ _ _ _ _))
              obtain ⟨hle, y0, y1, y2, y3, y4, hB⟩ := hW.get (k := 1) rfl (fun i hi => by simp at hi; subst hi; exact hd11)
              have y0 : W.cell? ⟨c, 0, none⟩ = some y0 := hB.cell 0
              have y1 : W.cell? ⟨c, 1, none⟩ = some y1 := hB.cell 1
              have y2 : W.cell? ⟨c, 2, none⟩ = some y2 := hB.cell 2
              have y3 : W.cell? ⟨c, 3, none⟩ = some y3 := hB.cell 3
              have y4 : W.cell? ⟨c, 4, none⟩ = some y4 := hB.cell 4
              have z0 := hB.frozen 0
              have z1 := hB.frozen 1
              have z2 := hB.frozen 2
              have z3 := hB.frozen 3
              have z4 := hB.frozen 4
              have hF := five hB (.bool ok) (.int .i64 va) (.slice fx1 fn1 fc1) (.slice fx2 fn2 fc2) (.slice fx3 fn3 fc3)
              refine ob_skip rfl (w' := (((((W.setCell ⟨c, 0, none⟩ (.bool ok)).setCell ⟨c, 1, none⟩ (.int .i64 va)).setCell ⟨c, 2, none⟩ (.slice fx1 fn1 fc1)).setCell ⟨c, 3, none⟩ (.slice fx2 fn2 fc2)).setCell ⟨c, 4, none⟩ (.slice fx3 fn3 fc3))) (by simp [execOp, go_sem, e13, e97, y0, y1, y2, y3, y4, z0, z1, z2, z3, z4]) ⟨b, c, ?_, ?_⟩
              · rw [frC_also_out (by rw [VA17_idx]; decide)]
                rfl
              · refine ⟨hW.bel.kt hF.2.2 hle, fun x hx hg => ?_⟩
                simp only [VA17_F, List.mem_cons, List.not_mem_nil, or_false] at hx
                rcases hx with rfl | rfl | rfl | rfl | rfl
                · obtain ⟨hle2, u0, u1, u2, u3, u4, hC⟩ := hW.get (k := 0) rfl (fun i hi => by simp at hi; subst hi; have := hg 10 (by simp); rwa [also_ne (by decide)] at this)
                  have hne : b ≠ c := hW.get (k := 2) rfl (fun i hi => by simp at hi; rcases hi with rfl | rfl <;> first | exact hd11 | (have := hg 10 (by simp); rwa [also_ne (by decide)] at this))
                  exact ⟨hle2, _, _, _, _, _, hC.kept hF.2.1 (by simp; omega)⟩
                · exact ⟨hle, _, _, _, _, _, hF.1⟩
                · exact hW.get (k := 2) rfl (fun i hi => by simp at hi; rcases hi with rfl | rfl <;> first | exact hd11 | (have := hg 10 (by simp); rwa [also_ne (by decide)] at this))
                · have hC := hW.get (k := 3) rfl (fun i hi => by have h1 := hg i hi; simp at hi; rcases hi with rfl | rfl <;> rwa [also_ne (by decide)] at h1)
                  have hne : b ≠ c := hW.get (k := 2) rfl (fun i hi => by simp at hi; rcases hi with rfl | rfl <;> first | exact hd11 | (have := hg 10 (by simp); rwa [also_ne (by decide)] at this))
                  exact hC.kept hF.2.1 (by simp; omega)
                · exact hF.1
          · rintro D _ w7 hall ⟨b, c, rfl, hW⟩
            have hf0 := hW.get (k := 0) rfl (fun i hi => hall i (by simp at hi; show i < 14; omega))
            have hf1 := hW.get (k := 1) rfl (fun i hi => hall i (by simp at hi; show i < 14; omega))
            have hf2 := hW.get (k := 2) rfl (fun i hi => hall i (by simp at hi; show i < 14; omega))
            have hf3 := hW.get (k := 3) rfl (fun i hi => hall i (by simp at hi; show i < 14; omega))
            have hf4 := hW.get (k := 4) rfl (fun i hi => hall i (by simp at hi; show i < 14; omega))
            have hbW := hW.bel
            rw [frC_all (fun e he => hall e.1 (by have h1 : e.1 ∈ (VA17 a2 x7 g1 ac j c2 g2 ac2 m y7 ok va ex1 ex2 ex3 fx1 fx2 fx3 en1 ec1 en2 ec2 en3 ec3 fn1 fc1 fn2 fc2 fn3 fc3 b c).map (·.1) := List.mem_map.2 ⟨e, he, rfl⟩; rw [VA17_idx] at h1; simp at h1; show e.1 < 14; omega))]
            have HBK := Lib.hid (And.intro hf3 (And.intro hf4 (HB6.out.trans hbW)))
            rw [HA0.out]
            simp only [VA17, List.foldr_cons, List.foldr_nil, Act.put, List.setIfInBounds_toArray, List.set_cons_succ, List.set_cons_zero]
            clear hf0 hf1 hf2 hf3 hf4 hbW hW hall HA0 so10 so1 so11 so7 hsz HB6 p0 p1 p2 p3 p4 r0 r1 r2 r3 r4
            have m0 : w7.cell? ⟨b, 0, none⟩ = some (.bool ok) := HBK.out.1.cell 0
            have m1 : w7.cell? ⟨b, 1, none⟩ = some (.int .i64 va) := HBK.out.1.cell 1
            have n0 : w7.cell? ⟨c, 0, none⟩ = some (.bool ok) := HBK.out.2.1.cell 0
            have n1 : w7.cell? ⟨c, 1, none⟩ = some (.int .i64 va) := HBK.out.2.1.cell 1
            have g3 : (ok == ok) = true := by simp
            have g4 : (va == va) = true := by simp
            go_wp2
            go_ret
            exact ⟨rfl, HBK.out.2.2⟩
end Go.Proofs.Ytangceejmjklcaa
