/- The walk of FnLinesClear. -/
import Derived.Test.YtangceejmjklcaaLsS
import Derived.BigQuiet
import Derived.BigRegion
namespace Go.Proofs.Ytangceejmjklcaa
open Go.RowKit Go.BigFrame
set_option linter.unusedVariables false
set_option linter.unusedSimpArgs false

/-- The values of the operations. -/
def VC5 (a2 a3 : Option Addr) (n2 c2 n3 c3 bc ba : Nat) (b1 : Nat) (v1 : Value) (v2 : Value) (b2 : Nat) (v3 : Value) : List (Nat × Nat × Value) := [(0, 32, .slice a2 n2 c2), (1, 33, .slice a2 n2 c2), (2, 34, .int .i64 (n2 : Int)), (3, 35, .slice a2 n2 c2), (4, 36, .int .i64 (n2 : Int)), (5, 37, .slice a2 n2 n2), (6, 38, .agg #[.int .i64 5, .int .i64 0, .int .i64 1, .int .i64 1, .int .i64 0]), (7, 39, .agg #[.int .i64 7, .int .i64 0, .int .i64 1, .int .i64 1, .int .i64 0]), (8, 40, .slice (some ⟨b1, 0, none⟩) 2 2), (9, 41, v1), (10, 42, .slice a3 n3 c3), (11, 43, v2), (12, 44, .agg #[.int .i64 7, .int .i64 0, .int .i64 1, .int .i64 1, .int .i64 0]), (13, 45, .slice (some ⟨b2, 0, none⟩) 1 1), (14, 46, v3), (15, 9, v3)]
theorem VC5_slots (a2 a3 : Option Addr) (n2 c2 n3 c3 bc ba : Nat) (b1 : Nat) (v1 : Value) (v2 : Value) (b2 : Nat) (v3 : Value) : (VC5 a2 a3 n2 c2 n3 c3 bc ba b1 v1 v2 b2 v3).map (·.2.1) = [32, 33, 34, 35, 36, 37, 38, 39, 40, 41, 42, 43, 44, 45, 46, 9] := rfl
theorem VC5_idx (a2 a3 : Option Addr) (n2 c2 n3 c3 bc ba : Nat) (b1 : Nat) (v1 : Value) (v2 : Value) (b2 : Nat) (v3 : Value) : (VC5 a2 a3 n2 c2 n3 c3 bc ba b1 v1 v2 b2 v3).map (·.1) = [0, 1, 2, 3, 4, 5, 6, 7, 8, 9, 10, 11, 12, 13, 14, 15] := rfl
theorem VC5_nd (a2 a3 : Option Addr) (n2 c2 n3 c3 bc ba : Nat) (b1 : Nat) (v1 : Value) (v2 : Value) (b2 : Nat) (v3 : Value) : ((VC5 a2 a3 n2 c2 n3 c3 bc ba b1 v1 v2 b2 v3).map (·.2.1)).Nodup := by rw [VC5_slots]; decide
theorem VC5_nd' (a2 a3 : Option Addr) (n2 c2 n3 c3 bc ba : Nat) (b1 : Nat) (v1 : Value) (v2 : Value) (b2 : Nat) (v3 : Value) : ((VC5 a2 a3 n2 c2 n3 c3 bc ba b1 v1 v2 b2 v3).map (·.1)).Nodup := by rw [VC5_idx]; decide
theorem VC5_not1 (a2 a3 : Option Addr) (n2 c2 n3 c3 bc ba : Nat) (b1 : Nat) (v1 : Value) (v2 : Value) (b2 : Nat) (v3 : Value) : 1 ∉ (VC5 a2 a3 n2 c2 n3 c3 bc ba b1 v1 v2 b2 v3).map (·.2.1) := by rw [VC5_slots]; decide
theorem VC5_not2 (a2 a3 : Option Addr) (n2 c2 n3 c3 bc ba : Nat) (b1 : Nat) (v1 : Value) (v2 : Value) (b2 : Nat) (v3 : Value) : 2 ∉ (VC5 a2 a3 n2 c2 n3 c3 bc ba b1 v1 v2 b2 v3).map (·.2.1) := by rw [VC5_slots]; decide
theorem VC5_not7 (a2 a3 : Option Addr) (n2 c2 n3 c3 bc ba : Nat) (b1 : Nat) (v1 : Value) (v2 : Value) (b2 : Nat) (v3 : Value) : 7 ∉ (VC5 a2 a3 n2 c2 n3 c3 bc ba b1 v1 v2 b2 v3).map (·.2.1) := by rw [VC5_slots]; decide
theorem VC5_not8 (a2 a3 : Option Addr) (n2 c2 n3 c3 bc ba : Nat) (b1 : Nat) (v1 : Value) (v2 : Value) (b2 : Nat) (v3 : Value) : 8 ∉ (VC5 a2 a3 n2 c2 n3 c3 bc ba b1 v1 v2 b2 v3).map (·.2.1) := by rw [VC5_slots]; decide
/-- The values of the operations. -/
def VC8 (a1 a3 x9 : Option Addr) (n1 c1 n3 c3 nk y9 ba : Nat) (ax : Option Addr) (al : Nat) (ac : Nat) (A : List Pl.LAns) (b : Nat) (g : Nat) (cp : Nat) (ex : Option Addr) (el : Nat) (ec : Nat) (B : List Pl.LAns) : List (Nat × Nat × Value) := [(0, 56, .slice a1 n1 c1), (1, 57, .slice x9 (nk + 1) y9), (2, 58, .slice ax al ac), (3, 59, .slice a1 n1 c1), (4, 60, .slice a3 n3 c3), (5, 61, .slice a3 n3 c3), (6, 62, .int .i64 (n3 : Int)), (7, 63, .slice a3 n3 c3), (8, 64, .int .i64 (n3 : Int)), (9, 65, .slice a3 n3 n3), (10, 66, .agg #[.int .i64 7, .int .i64 0, .int .i64 1, .int .i64 1, .int .i64 0]), (11, 67, .slice (some ⟨b, 0, none⟩) 1 1), (12, 68, .slice (some ⟨g, 0, none⟩) (n3 + 1) cp), (13, 69, .slice ex el ec), (14, 10, .slice ax al ac), (15, 11, .slice ex el ec)]
theorem VC8_slots (a1 a3 x9 : Option Addr) (n1 c1 n3 c3 nk y9 ba : Nat) (ax : Option Addr) (al : Nat) (ac : Nat) (A : List Pl.LAns) (b : Nat) (g : Nat) (cp : Nat) (ex : Option Addr) (el : Nat) (ec : Nat) (B : List Pl.LAns) : (VC8 a1 a3 x9 n1 c1 n3 c3 nk y9 ba ax al ac A b g cp ex el ec B).map (·.2.1) = [56, 57, 58, 59, 60, 61, 62, 63, 64, 65, 66, 67, 68, 69, 10, 11] := rfl
theorem VC8_idx (a1 a3 x9 : Option Addr) (n1 c1 n3 c3 nk y9 ba : Nat) (ax : Option Addr) (al : Nat) (ac : Nat) (A : List Pl.LAns) (b : Nat) (g : Nat) (cp : Nat) (ex : Option Addr) (el : Nat) (ec : Nat) (B : List Pl.LAns) : (VC8 a1 a3 x9 n1 c1 n3 c3 nk y9 ba ax al ac A b g cp ex el ec B).map (·.1) = [0, 1, 2, 3, 4, 5, 6, 7, 8, 9, 10, 11, 12, 13, 14, 15] := rfl
theorem VC8_nd (a1 a3 x9 : Option Addr) (n1 c1 n3 c3 nk y9 ba : Nat) (ax : Option Addr) (al : Nat) (ac : Nat) (A : List Pl.LAns) (b : Nat) (g : Nat) (cp : Nat) (ex : Option Addr) (el : Nat) (ec : Nat) (B : List Pl.LAns) : ((VC8 a1 a3 x9 n1 c1 n3 c3 nk y9 ba ax al ac A b g cp ex el ec B).map (·.2.1)).Nodup := by rw [VC8_slots]; decide
theorem VC8_nd' (a1 a3 x9 : Option Addr) (n1 c1 n3 c3 nk y9 ba : Nat) (ax : Option Addr) (al : Nat) (ac : Nat) (A : List Pl.LAns) (b : Nat) (g : Nat) (cp : Nat) (ex : Option Addr) (el : Nat) (ec : Nat) (B : List Pl.LAns) : ((VC8 a1 a3 x9 n1 c1 n3 c3 nk y9 ba ax al ac A b g cp ex el ec B).map (·.1)).Nodup := by rw [VC8_idx]; decide
theorem VC8_not0 (a1 a3 x9 : Option Addr) (n1 c1 n3 c3 nk y9 ba : Nat) (ax : Option Addr) (al : Nat) (ac : Nat) (A : List Pl.LAns) (b : Nat) (g : Nat) (cp : Nat) (ex : Option Addr) (el : Nat) (ec : Nat) (B : List Pl.LAns) : 0 ∉ (VC8 a1 a3 x9 n1 c1 n3 c3 nk y9 ba ax al ac A b g cp ex el ec B).map (·.2.1) := by rw [VC8_slots]; decide
theorem VC8_not2 (a1 a3 x9 : Option Addr) (n1 c1 n3 c3 nk y9 ba : Nat) (ax : Option Addr) (al : Nat) (ac : Nat) (A : List Pl.LAns) (b : Nat) (g : Nat) (cp : Nat) (ex : Option Addr) (el : Nat) (ec : Nat) (B : List Pl.LAns) : 2 ∉ (VC8 a1 a3 x9 n1 c1 n3 c3 nk y9 ba ax al ac A b g cp ex el ec B).map (·.2.1) := by rw [VC8_slots]; decide
theorem VC8_not8 (a1 a3 x9 : Option Addr) (n1 c1 n3 c3 nk y9 ba : Nat) (ax : Option Addr) (al : Nat) (ac : Nat) (A : List Pl.LAns) (b : Nat) (g : Nat) (cp : Nat) (ex : Option Addr) (el : Nat) (ec : Nat) (B : List Pl.LAns) : 8 ∉ (VC8 a1 a3 x9 n1 c1 n3 c3 nk y9 ba ax al ac A b g cp ex el ec B).map (·.2.1) := by rw [VC8_slots]; decide
theorem VC8_not9 (a1 a3 x9 : Option Addr) (n1 c1 n3 c3 nk y9 ba : Nat) (ax : Option Addr) (al : Nat) (ac : Nat) (A : List Pl.LAns) (b : Nat) (g : Nat) (cp : Nat) (ex : Option Addr) (el : Nat) (ec : Nat) (B : List Pl.LAns) : 9 ∉ (VC8 a1 a3 x9 n1 c1 n3 c3 nk y9 ba ax al ac A b g cp ex el ec B).map (·.2.1) := by rw [VC8_slots]; decide
/-- What the operations bring about. -/
def VC8_F (m : Nat) (WH M T : List Pl.LStep) (R : List Pl.Ent) (ax : Option Addr) (al : Nat) (ac : Nat) (A : List Pl.LAns) (b : Nat) (g : Nat) (cp : Nat) (ex : Option Addr) (el : Nat) (ec : Nat) (B : List Pl.LAns) : List Fact := [([11], fun W => Blk W b 29 (lsCells T)), ([12], fun W => LSt W (some ⟨g, 0, none⟩) (m + 1) (M ++ T)), ([13], fun W => LAnE W (.slice ex el ec) B ∧ el = B.length ∧ Pl.Runs (fsOf R) (nsOf R) R.length (M ++ T) B), ([2], fun W => LAnE W (.slice ax al ac) A ∧ al = A.length ∧ Pl.Runs (fsOf R) (nsOf R) R.length (WH) A)]
theorem VC8_st (m : Nat) (WH M T : List Pl.LStep) (R : List Pl.Ent) (ax : Option Addr) (al : Nat) (ac : Nat) (A : List Pl.LAns) (b : Nat) (g : Nat) (cp : Nat) (ex : Option Addr) (el : Nat) (ec : Nat) (B : List Pl.LAns) : Stab (VC8_F m WH M T R ax al ac A b g cp ex el ec B) := (Stab.cons (fun _ _ hb h => h.bel hb) (Stab.cons (fun _ _ hb h => h.bel hb) (Stab.cons (fun _ _ hb h => ⟨h.1.bel hb, h.2⟩) (Stab.cons (fun _ _ hb h => ⟨h.1.bel hb, h.2⟩) Stab.nil))))
/-- The values of the operations. -/
def VC11 (a3 x9 : Option Addr) (gA ac nk y9 gB ec n3 c3 : Nat) (ok ok2 : Bool) (va va2 : Int) (ex1 ex2 ex3 fx lx vx : Option Addr) (en1 ec1 en2 ec2 en3 ec3 nT fc lc vc : Nat) (bA : Nat) (bB : Nat) : List (Nat × Nat × Value) := [(0, 94, .slice (some ⟨gA, 0, none⟩) (nk + 1) ac), (1, 95, .slice x9 (nk + 1) y9), (2, 96, .int .i64 ((nk + 1 : Nat) : Int)), (3, 97, .int .i64 (nk : Int)), (4, 98, .pointer (some ⟨gA, nk * 5, none⟩)), (5, 99, .agg #[.bool ok, .int .i64 va, .slice ex1 en1 ec1, .slice ex2 en2 ec2, .slice ex3 en3 ec3]), (6, 100, .slice (some ⟨gB, 0, none⟩) (n3 + 1) ec), (7, 101, .slice a3 n3 c3), (8, 102, .int .i64 (n3 : Int)), (9, 103, .pointer (some ⟨gB, n3 * 5, none⟩)), (10, 104, .agg #[.bool ok2, .int .i64 va2, .slice fx nT fc, .slice lx nT lc, .slice vx nT vc]), (11, 12, .pointer (some ⟨bA, 0, none⟩)), (12, 13, .pointer (some ⟨bB, 0, none⟩))]
theorem VC11_slots (a3 x9 : Option Addr) (gA ac nk y9 gB ec n3 c3 : Nat) (ok ok2 : Bool) (va va2 : Int) (ex1 ex2 ex3 fx lx vx : Option Addr) (en1 ec1 en2 ec2 en3 ec3 nT fc lc vc : Nat) (bA : Nat) (bB : Nat) : (VC11 a3 x9 gA ac nk y9 gB ec n3 c3 ok ok2 va va2 ex1 ex2 ex3 fx lx vx en1 ec1 en2 ec2 en3 ec3 nT fc lc vc bA bB).map (·.2.1) = [94, 95, 96, 97, 98, 99, 100, 101, 102, 103, 104, 12, 13] := rfl
theorem VC11_idx (a3 x9 : Option Addr) (gA ac nk y9 gB ec n3 c3 : Nat) (ok ok2 : Bool) (va va2 : Int) (ex1 ex2 ex3 fx lx vx : Option Addr) (en1 ec1 en2 ec2 en3 ec3 nT fc lc vc : Nat) (bA : Nat) (bB : Nat) : (VC11 a3 x9 gA ac nk y9 gB ec n3 c3 ok ok2 va va2 ex1 ex2 ex3 fx lx vx en1 ec1 en2 ec2 en3 ec3 nT fc lc vc bA bB).map (·.1) = [0, 1, 2, 3, 4, 5, 6, 7, 8, 9, 10, 11, 12] := rfl
theorem VC11_nd (a3 x9 : Option Addr) (gA ac nk y9 gB ec n3 c3 : Nat) (ok ok2 : Bool) (va va2 : Int) (ex1 ex2 ex3 fx lx vx : Option Addr) (en1 ec1 en2 ec2 en3 ec3 nT fc lc vc : Nat) (bA : Nat) (bB : Nat) : ((VC11 a3 x9 gA ac nk y9 gB ec n3 c3 ok ok2 va va2 ex1 ex2 ex3 fx lx vx en1 ec1 en2 ec2 en3 ec3 nT fc lc vc bA bB).map (·.2.1)).Nodup := by rw [VC11_slots]; decide
theorem VC11_nd' (a3 x9 : Option Addr) (gA ac nk y9 gB ec n3 c3 : Nat) (ok ok2 : Bool) (va va2 : Int) (ex1 ex2 ex3 fx lx vx : Option Addr) (en1 ec1 en2 ec2 en3 ec3 nT fc lc vc : Nat) (bA : Nat) (bB : Nat) : ((VC11 a3 x9 gA ac nk y9 gB ec n3 c3 ok ok2 va va2 ex1 ex2 ex3 fx lx vx en1 ec1 en2 ec2 en3 ec3 nT fc lc vc bA bB).map (·.1)).Nodup := by rw [VC11_idx]; decide
theorem VC11_not2 (a3 x9 : Option Addr) (gA ac nk y9 gB ec n3 c3 : Nat) (ok ok2 : Bool) (va va2 : Int) (ex1 ex2 ex3 fx lx vx : Option Addr) (en1 ec1 en2 ec2 en3 ec3 nT fc lc vc : Nat) (bA : Nat) (bB : Nat) : 2 ∉ (VC11 a3 x9 gA ac nk y9 gB ec n3 c3 ok ok2 va va2 ex1 ex2 ex3 fx lx vx en1 ec1 en2 ec2 en3 ec3 nT fc lc vc bA bB).map (·.2.1) := by rw [VC11_slots]; decide
theorem VC11_not9 (a3 x9 : Option Addr) (gA ac nk y9 gB ec n3 c3 : Nat) (ok ok2 : Bool) (va va2 : Int) (ex1 ex2 ex3 fx lx vx : Option Addr) (en1 ec1 en2 ec2 en3 ec3 nT fc lc vc : Nat) (bA : Nat) (bB : Nat) : 9 ∉ (VC11 a3 x9 gA ac nk y9 gB ec n3 c3 ok ok2 va va2 ex1 ex2 ex3 fx lx vx en1 ec1 en2 ec2 en3 ec3 nT fc lc vc bA bB).map (·.2.1) := by rw [VC11_slots]; decide
theorem VC11_not10 (a3 x9 : Option Addr) (gA ac nk y9 gB ec n3 c3 : Nat) (ok ok2 : Bool) (va va2 : Int) (ex1 ex2 ex3 fx lx vx : Option Addr) (en1 ec1 en2 ec2 en3 ec3 nT fc lc vc : Nat) (bA : Nat) (bB : Nat) : 10 ∉ (VC11 a3 x9 gA ac nk y9 gB ec n3 c3 ok ok2 va va2 ex1 ex2 ex3 fx lx vx en1 ec1 en2 ec2 en3 ec3 nT fc lc vc bA bB).map (·.2.1) := by rw [VC11_slots]; decide
theorem VC11_not11 (a3 x9 : Option Addr) (gA ac nk y9 gB ec n3 c3 : Nat) (ok ok2 : Bool) (va va2 : Int) (ex1 ex2 ex3 fx lx vx : Option Addr) (en1 ec1 en2 ec2 en3 ec3 nT fc lc vc : Nat) (bA : Nat) (bB : Nat) : 11 ∉ (VC11 a3 x9 gA ac nk y9 gB ec n3 c3 ok ok2 va va2 ex1 ex2 ex3 fx lx vx en1 ec1 en2 ec2 en3 ec3 nT fc lc vc bA bB).map (·.2.1) := by rw [VC11_slots]; decide
/-- What the operations bring about. -/
def VC11_F (K : Nat) (ok ok2 : Bool) (va va2 : Int) (ex1 ex2 ex3 fx lx vx : Option Addr) (en1 ec1 en2 ec2 en3 ec3 nT fc lc vc : Nat) (bA : Nat) (bB : Nat) : List Fact := [([11], fun W => K ≤ bA ∧ ∃ y0 y1 y2 y3 y4, Blk W bA 33 [y0, y1, y2, y3, y4]), ([12], fun W => K ≤ bB ∧ ∃ y0 y1 y2 y3 y4, Blk W bB 33 [y0, y1, y2, y3, y4]), ([11, 12], fun _ => bA ≠ bB), ([11, 13], fun W => Blk W bA 33 [.bool ok, .int .i64 va, .slice ex1 en1 ec1, .slice ex2 en2 ec2, .slice ex3 en3 ec3]), ([12, 14], fun W => Blk W bB 33 [.bool ok2, .int .i64 va2, .slice fx nT fc, .slice lx nT lc, .slice vx nT vc])]
theorem VC11_st (K : Nat) (ok ok2 : Bool) (va va2 : Int) (ex1 ex2 ex3 fx lx vx : Option Addr) (en1 ec1 en2 ec2 en3 ec3 nT fc lc vc : Nat) (bA : Nat) (bB : Nat) : Stab (VC11_F K ok ok2 va va2 ex1 ex2 ex3 fx lx vx en1 ec1 en2 ec2 en3 ec3 nT fc lc vc bA bB) := (Stab.cons (fun _ _ hb h => ⟨h.1, h.2.imp fun _ h => h.imp fun _ h => h.imp fun _ h => h.imp fun _ h => h.imp fun _ h => h.bel hb⟩) (Stab.cons (fun _ _ hb h => ⟨h.1, h.2.imp fun _ h => h.imp fun _ h => h.imp fun _ h => h.imp fun _ h => h.imp fun _ h => h.bel hb⟩) (Stab.cons (fun _ _ _ h => h) (Stab.cons (fun _ _ hb h => h.bel hb) (Stab.cons (fun _ _ hb h => h.bel hb) Stab.nil)))))
/-- The values of the operations. -/
def VC16 (u14 : Value) (f l x : Int) (bB nT lb lo lc q vb vo vc : Nat) (b : Nat) (v : Value) : List (Nat × Nat × Value) := [(0, 114, u14), (1, 115, .int .i64 f), (2, 116, .pointer (some ⟨bB, 3, none⟩)), (3, 117, .slice (some ⟨lb, lo, none⟩) nT lc), (4, 118, .int .i64 (q : Int)), (5, 119, .pointer (some ⟨lb, lo + q, none⟩)), (6, 120, .int .i64 l), (7, 121, .pointer (some ⟨bB, 4, none⟩)), (8, 122, .slice (some ⟨vb, vo, none⟩) nT vc), (9, 123, .int .i64 (q : Int)), (10, 124, .pointer (some ⟨vb, vo + q, none⟩)), (11, 125, .int .i64 x), (12, 126, .agg #[.int .i64 f, .int .i64 l, .int .i64 x]), (13, 127, .slice (some ⟨b, 0, none⟩) 1 1), (14, 128, v), (15, 14, v)]
theorem VC16_slots (u14 : Value) (f l x : Int) (bB nT lb lo lc q vb vo vc : Nat) (b : Nat) (v : Value) : (VC16 u14 f l x bB nT lb lo lc q vb vo vc b v).map (·.2.1) = [114, 115, 116, 117, 118, 119, 120, 121, 122, 123, 124, 125, 126, 127, 128, 14] := rfl
theorem VC16_idx (u14 : Value) (f l x : Int) (bB nT lb lo lc q vb vo vc : Nat) (b : Nat) (v : Value) : (VC16 u14 f l x bB nT lb lo lc q vb vo vc b v).map (·.1) = [0, 1, 2, 3, 4, 5, 6, 7, 8, 9, 10, 11, 12, 13, 14, 15] := rfl
theorem VC16_nd (u14 : Value) (f l x : Int) (bB nT lb lo lc q vb vo vc : Nat) (b : Nat) (v : Value) : ((VC16 u14 f l x bB nT lb lo lc q vb vo vc b v).map (·.2.1)).Nodup := by rw [VC16_slots]; decide
theorem VC16_nd' (u14 : Value) (f l x : Int) (bB nT lb lo lc q vb vo vc : Nat) (b : Nat) (v : Value) : ((VC16 u14 f l x bB nT lb lo lc q vb vo vc b v).map (·.1)).Nodup := by rw [VC16_idx]; decide
theorem VC16_not13 (u14 : Value) (f l x : Int) (bB nT lb lo lc q vb vo vc : Nat) (b : Nat) (v : Value) : 13 ∉ (VC16 u14 f l x bB nT lb lo lc q vb vo vc b v).map (·.2.1) := by rw [VC16_slots]; decide
theorem VC16_not15 (u14 : Value) (f l x : Int) (bB nT lb lo lc q vb vo vc : Nat) (b : Nat) (v : Value) : 15 ∉ (VC16 u14 f l x bB nT lb lo lc q vb vo vc b v).map (·.2.1) := by rw [VC16_slots]; decide
theorem VC16_not16 (u14 : Value) (f l x : Int) (bB nT lb lo lc q vb vo vc : Nat) (b : Nat) (v : Value) : 16 ∉ (VC16 u14 f l x bB nT lb lo lc q vb vo vc b v).map (·.2.1) := by rw [VC16_slots]; decide

set_option maxRecDepth 100000 in
set_option maxHeartbeats 8000000 in
theorem law_FnLinesClear (w : World) (a1 : Option Addr) (n1 c1 : Nat) (R : List Pl.Ent) (hR : Ents w a1 n1 R) (_nc1 : n1 ≤ c1) (_cm1 : c1 ≤ maxLen) (a2 : Option Addr) (n2 c2 : Nat) (S : List Pl.LStep) (hS : LSt w a2 n2 S) (NC : n2 ≤ c2) (_cm2 : c2 ≤ maxLen) (a3 : Option Addr) (n3 c3 : Nat) (M : List Pl.LStep) (hM : LSt w a3 n3 M) (NC3 : n3 ≤ c3) (_cm3 : c3 ≤ maxLen) :
    Calls Try.prog 7 #[.slice a1 n1 c1, .slice a2 n2 c2, .slice a3 n3 c3] w fun e w' => e = .returned (.bool true) ∧ Bel w w' := by
  by_cases hz1 : 2147483647 < n1
  · go_enter Try.func7, Try.ntmps7
    go_wp2
    go_ret
    exact ⟨rfl, Bel.refl w⟩
  by_cases hz2 : 2147483647 < n2
  · go_enter Try.func7, Try.ntmps7
    go_wp2
    go_ret
    exact ⟨rfl, Bel.refl w⟩
  by_cases hz3 : 2147483647 < n3
  · go_enter Try.func7, Try.ntmps7
    go_wp2
    go_ret
    exact ⟨rfl, Bel.refl w⟩
  have HR := Lib.hid hR; clear hR
  have HS := Lib.hid hS; clear hS
  have HM := Lib.hid hM; clear hM
  have HB1 : Hid (Blk ((w.alloc (.cells #[.int .i64 5, .int .i64 0, .int .i64 1, .int .i64 1, .int .i64 0] 29)).alloc (.cells #[.int .i64 7, .int .i64 0, .int .i64 1, .int .i64 1, .int .i64 0] 29)) w.heap.size 29 [.int .i64 5, .int .i64 0, .int .i64 1, .int .i64 1, .int .i64 0] ∧ Blk ((w.alloc (.cells #[.int .i64 5, .int .i64 0, .int .i64 1, .int .i64 1, .int .i64 0] 29)).alloc (.cells #[.int .i64 7, .int .i64 0, .int .i64 1, .int .i64 1, .int .i64 0] 29)) (w.heap.size + 1) 29 [.int .i64 7, .int .i64 0, .int .i64 1, .int .i64 1, .int .i64 0] ∧ Bel w ((w.alloc (.cells #[.int .i64 5, .int .i64 0, .int .i64 1, .int .i64 1, .int .i64 0] 29)).alloc (.cells #[.int .i64 7, .int .i64 0, .int .i64 1, .int .i64 1, .int .i64 0] 29))) := Lib.hid (by
    refine ⟨(Blk.new w 29 [_, _, _, _, _]).alloc _, ?_, ((Bel.refl w).alloc _).alloc _⟩
    have := Blk.new (w.alloc (.cells #[.int .i64 5, .int .i64 0, .int .i64 1, .int .i64 1, .int .i64 0] 29)) 29 [.int .i64 7, .int .i64 0, .int .i64 1, .int .i64 1, .int .i64 0]
    rwa [World.size_alloc] at this)
  go_enter Try.func7, Try.ntmps7
  go_upto_region 5 with (fail)
  generalize ((w.alloc (.cells #[.int .i64 5, .int .i64 0, .int .i64 1, .int .i64 1, .int .i64 0] 29)).alloc (.cells #[.int .i64 7, .int .i64 0, .int .i64 1, .int .i64 1, .int .i64 0] 29)) = wb at HB1 ⊢
  generalize hbx : w.heap.size = bc at HB1 ⊢
  generalize hby : bc + 1 = ba at HB1 ⊢
  clear hbx hby
  have s0 : wb.cell? ⟨bc, 0, none⟩ = some (.int .i64 5) := HB1.out.1.cell 0
  have s1 : wb.cell? ⟨bc, 1, none⟩ = some (.int .i64 0) := HB1.out.1.cell 1
  have s2 : wb.cell? ⟨bc, 2, none⟩ = some (.int .i64 1) := HB1.out.1.cell 2
  have s3 : wb.cell? ⟨bc, 3, none⟩ = some (.int .i64 1) := HB1.out.1.cell 3
  have s4 : wb.cell? ⟨bc, 4, none⟩ = some (.int .i64 0) := HB1.out.1.cell 4
  have t0 : wb.cell? ⟨ba, 0, none⟩ = some (.int .i64 7) := HB1.out.2.1.cell 0
  have t1 : wb.cell? ⟨ba, 1, none⟩ = some (.int .i64 0) := HB1.out.2.1.cell 1
  have t2 : wb.cell? ⟨ba, 2, none⟩ = some (.int .i64 1) := HB1.out.2.1.cell 2
  have t3 : wb.cell? ⟨ba, 3, none⟩ = some (.int .i64 1) := HB1.out.2.1.cell 3
  have t4 : wb.cell? ⟨ba, 4, none⟩ = some (.int .i64 0) := HB1.out.2.1.cell 4
  have HSB : Hid (LSt wb a2 n2 S) := Lib.hid (HS.out.bel HB1.out.2.2)
  have HMB : Hid (LSt wb a3 n3 M) := Lib.hid (HM.out.bel HB1.out.2.2)
  refine act_name (fun a0 ha0 => ?_)
  have so1 : a0.eval (.tmp 1) = .slice a2 n2 c2 := by rw [ha0]; rfl
  have so2 : a0.eval (.tmp 2) = .slice a3 n3 c3 := by rw [ha0]; rfl
  have so7 : a0.eval (.tmp 7) = .pointer (some ⟨bc, 0, none⟩) := by rw [ha0]; rfl
  have so8 : a0.eval (.tmp 8) = .pointer (some ⟨ba, 0, none⟩) := by rw [ha0]; rfl
  have hsz : a0.tmps.size = 133 := by rw [ha0]; rfl
  have HA0 := Lib.hid ha0; clear ha0
  refine region_obs3 (fun D a' W => ∃ (b1 : Nat) (v1 : Value) (v2 : Value) (b2 : Nat) (v3 : Value), a' = frC a0 D (VC5 a2 a3 n2 c2 n3 c3 bc ba b1 v1 v2 b2 v3) ∧ ZC wb n2 n3 S [⟨5, 0, 1, 1, 0⟩, ⟨7, 0, 1, 1, 0⟩] M [⟨7, 0, 1, 1, 0⟩] D b1 v1 v2 b2 v3 W) (by kernel_rfl) (by kernel_rfl) ⟨0, .bool false, .bool false, 0, .bool false, (frC_none _ _).symm, ZC.start⟩ ?_ ?_
  · refine ⟨?_, ?_, ?_, ?_, ?_, ?_, ?_, ?_, ?_, ?_, ?_, ?_, ?_, ?_, ?_, ?_, trivial⟩
    · rintro D _ W hD hcl hdeps ⟨b1, v1, v2, b2, v3, rfl, hW⟩
      have e1 := ev_get ((frC_out (a0 := a0) (D := D) (VC5_not1 a2 a3 n2 c2 n3 c3 bc ba b1 v1 v2 b2 v3)).trans so1)
      refine ob_val rfl (v := .slice a2 n2 c2) (by simp [execOp, go_sem, e1]) ⟨b1, v1, v2, b2, v3, frC_put hD (by simp [VC5]) (VC5_nd _ _ _ _ _ _ _ _ _ _ _ _ _) (VC5_nd' _ _ _ _ _ _ _ _ _ _ _ _ _), hW.quiet (by decide)⟩
    · rintro D _ W hD hcl hdeps ⟨b1, v1, v2, b2, v3, rfl, hW⟩
      have e1 := ev_get ((frC_out (a0 := a0) (D := D) (VC5_not1 a2 a3 n2 c2 n3 c3 bc ba b1 v1 v2 b2 v3)).trans so1)
      refine ob_val rfl (v := .slice a2 n2 c2) (by simp [execOp, go_sem, e1]) ⟨b1, v1, v2, b2, v3, frC_put hD (by simp [VC5]) (VC5_nd _ _ _ _ _ _ _ _ _ _ _ _ _) (VC5_nd' _ _ _ _ _ _ _ _ _ _ _ _ _), hW.quiet (by decide)⟩
    · rintro D _ W hD hcl hdeps ⟨b1, v1, v2, b2, v3, rfl, hW⟩
      have hd1 : D 1 = true := hdeps ⟨1, .data⟩ (by simp) rfl
      have e33 := ev_get (frC_in (v := .slice a2 n2 c2) hd1 (show 33 < a0.tmps.size by rw [hsz]; decide) (vs := VC5 a2 a3 n2 c2 n3 c3 bc ba b1 v1 v2 b2 v3) (by simp [VC5]) (VC5_nd _ _ _ _ _ _ _ _ _ _ _ _ _))
      refine ob_val rfl (v := .int .i64 (n2 : Int)) (by simp [execOp, go_sem, e33]) ⟨b1, v1, v2, b2, v3, frC_put hD (by simp [VC5]) (VC5_nd _ _ _ _ _ _ _ _ _ _ _ _ _) (VC5_nd' _ _ _ _ _ _ _ _ _ _ _ _ _), hW.quiet (by decide)⟩
    · rintro D _ W hD hcl hdeps ⟨b1, v1, v2, b2, v3, rfl, hW⟩
      have e1 := ev_get ((frC_out (a0 := a0) (D := D) (VC5_not1 a2 a3 n2 c2 n3 c3 bc ba b1 v1 v2 b2 v3)).trans so1)
      refine ob_val rfl (v := .slice a2 n2 c2) (by simp [execOp, go_sem, e1]) ⟨b1, v1, v2, b2, v3, frC_put hD (by simp [VC5]) (VC5_nd _ _ _ _ _ _ _ _ _ _ _ _ _) (VC5_nd' _ _ _ _ _ _ _ _ _ _ _ _ _), hW.quiet (by decide)⟩
    · rintro D _ W hD hcl hdeps ⟨b1, v1, v2, b2, v3, rfl, hW⟩
      have hd3 : D 3 = true := hdeps ⟨3, .data⟩ (by simp) rfl
      have e35 := ev_get (frC_in (v := .slice a2 n2 c2) hd3 (show 35 < a0.tmps.size by rw [hsz]; decide) (vs := VC5 a2 a3 n2 c2 n3 c3 bc ba b1 v1 v2 b2 v3) (by simp [VC5]) (VC5_nd _ _ _ _ _ _ _ _ _ _ _ _ _))
      refine ob_val rfl (v := .int .i64 (n2 : Int)) (by simp [execOp, go_sem, e35]) ⟨b1, v1, v2, b2, v3, frC_put hD (by simp [VC5]) (VC5_nd _ _ _ _ _ _ _ _ _ _ _ _ _) (VC5_nd' _ _ _ _ _ _ _ _ _ _ _ _ _), hW.quiet (by decide)⟩
    · rintro D _ W hD hcl hdeps ⟨b1, v1, v2, b2, v3, rfl, hW⟩
      have hd0 : D 0 = true := hdeps ⟨0, .data⟩ (by simp) rfl
      have E32 := frC_in (v := .slice a2 n2 c2) hd0 (show 32 < a0.tmps.size by rw [hsz]; decide) (vs := VC5 a2 a3 n2 c2 n3 c3 bc ba b1 v1 v2 b2 v3) (by simp [VC5]) (VC5_nd _ _ _ _ _ _ _ _ _ _ _ _ _)
      have hd2 : D 2 = true := hdeps ⟨2, .data⟩ (by simp) rfl
      have E34 := frC_in (v := .int .i64 (n2 : Int)) hd2 (show 34 < a0.tmps.size by rw [hsz]; decide) (vs := VC5 a2 a3 n2 c2 n3 c3 bc ba b1 v1 v2 b2 v3) (by simp [VC5]) (VC5_nd _ _ _ _ _ _ _ _ _ _ _ _ _)
      have hd4 : D 4 = true := hdeps ⟨4, .data⟩ (by simp) rfl
      have E36 := frC_in (v := .int .i64 (n2 : Int)) hd4 (show 36 < a0.tmps.size by rw [hsz]; decide) (vs := VC5 a2 a3 n2 c2 n3 c3 bc ba b1 v1 v2 b2 v3) (by simp [VC5]) (VC5_nd _ _ _ _ _ _ _ _ _ _ _ _ _)
      refine ob_val rfl (v := .slice a2 n2 n2) ?_ ⟨b1, v1, v2, b2, v3, frC_put hD (by simp [VC5]) (VC5_nd _ _ _ _ _ _ _ _ _ _ _ _ _) (VC5_nd' _ _ _ _ _ _ _ _ _ _ _ _ _), hW.quiet (by decide)⟩
      simp only [execOp, Sem.run_bind, E32, E34, E36, Option.map_some, Option.map_none, run_lslice W a2 n2 c2 NC, Result.andThen, Sem.run_pure]
    · rintro D _ W hD hcl hdeps ⟨b1, v1, v2, b2, v3, rfl, hW⟩
      have e7 := ev_get ((frC_out (a0 := a0) (D := D) (VC5_not7 a2 a3 n2 c2 n3 c3 bc ba b1 v1 v2 b2 v3)).trans so7)
      have z0 := hW.bel.cell s0
      have z1 := hW.bel.cell s1
      have z2 := hW.bel.cell s2
      have z3 := hW.bel.cell s3
      have z4 := hW.bel.cell s4
      refine ob_val rfl (v := .agg #[.int .i64 5, .int .i64 0, .int .i64 1, .int .i64 1, .int .i64 0]) (by simp [execOp, go_sem, e7, z0, z1, z2, z3, z4]) ⟨b1, v1, v2, b2, v3, frC_put hD (by simp [VC5]) (VC5_nd _ _ _ _ _ _ _ _ _ _ _ _ _) (VC5_nd' _ _ _ _ _ _ _ _ _ _ _ _ _), hW.quiet (by decide)⟩
    · rintro D _ W hD hcl hdeps ⟨b1, v1, v2, b2, v3, rfl, hW⟩
      have e8 := ev_get ((frC_out (a0 := a0) (D := D) (VC5_not8 a2 a3 n2 c2 n3 c3 bc ba b1 v1 v2 b2 v3)).trans so8)
      have z0 := hW.bel.cell t0
      have z1 := hW.bel.cell t1
      have z2 := hW.bel.cell t2
      have z3 := hW.bel.cell t3
      have z4 := hW.bel.cell t4
      refine ob_val rfl (v := .agg #[.int .i64 7, .int .i64 0, .int .i64 1, .int .i64 1, .int .i64 0]) (by simp [execOp, go_sem, e8, z0, z1, z2, z3, z4]) ⟨b1, v1, v2, b2, v3, frC_put hD (by simp [VC5]) (VC5_nd _ _ _ _ _ _ _ _ _ _ _ _ _) (VC5_nd' _ _ _ _ _ _ _ _ _ _ _ _ _), hW.quiet (by decide)⟩
    · rintro D _ W hD hcl hdeps ⟨b1, v1, v2, b2, v3, rfl, hW⟩
      have hd6 : D 6 = true := hdeps ⟨6, .data⟩ (by simp) rfl
      have e38 := ev_get (frC_in (v := .agg #[.int .i64 5, .int .i64 0, .int .i64 1, .int .i64 1, .int .i64 0]) hd6 (show 38 < a0.tmps.size by rw [hsz]; decide) (vs := VC5 a2 a3 n2 c2 n3 c3 bc ba b1 v1 v2 b2 v3) (by simp [VC5]) (VC5_nd _ _ _ _ _ _ _ _ _ _ _ _ _))
      have hd7 : D 7 = true := hdeps ⟨7, .data⟩ (by simp) rfl
      have e39 := ev_get (frC_in (v := .agg #[.int .i64 7, .int .i64 0, .int .i64 1, .int .i64 1, .int .i64 0]) hd7 (show 39 < a0.tmps.size by rw [hsz]; decide) (vs := VC5 a2 a3 n2 c2 n3 c3 bc ba b1 v1 v2 b2 v3) (by simp [VC5]) (VC5_nd _ _ _ _ _ _ _ _ _ _ _ _ _))
      refine ob_val rfl (v := .slice (some ⟨W.heap.size, 0, none⟩) 2 2) (w' := W.alloc (.cells #[.int .i64 5, .int .i64 0, .int .i64 1, .int .i64 1, .int .i64 0, .int .i64 7, .int .i64 0, .int .i64 1, .int .i64 1, .int .i64 0] 29)) (by simp [execOp, go_sem, e38, e39]) ⟨W.heap.size, v1, v2, b2, v3, by rw [show frC a0 D (VC5 a2 a3 n2 c2 n3 c3 bc ba b1 v1 v2 b2 v3) = frC a0 D (VC5 a2 a3 n2 c2 n3 c3 bc ba (W.heap.size) v1 v2 b2 v3) from by simp only [VC5, frC, hD, Bool.false_eq_true, if_false]]; exact frC_put hD (by simp [VC5]) (VC5_nd _ _ _ _ _ _ _ _ _ _ _ _ _) (VC5_nd' _ _ _ _ _ _ _ _ _ _ _ _ _), hW.mk1 (cs := [.int .i64 5, .int .i64 0, .int .i64 1, .int .i64 1, .int .i64 0, .int .i64 7, .int .i64 0, .int .i64 1, .int .i64 1, .int .i64 0]) rfl ((Bel.refl W).alloc _) (Blk.new W _ [_, _, _, _, _, _, _, _, _, _])⟩
    · rintro D _ W hD hcl hdeps ⟨b1, v1, v2, b2, v3, rfl, hW⟩
      have hd5 : D 5 = true := hdeps ⟨5, .data⟩ (by simp) rfl
      have E37 := frC_in (v := .slice a2 n2 n2) hd5 (show 37 < a0.tmps.size by rw [hsz]; decide) (vs := VC5 a2 a3 n2 c2 n3 c3 bc ba b1 v1 v2 b2 v3) (by simp [VC5]) (VC5_nd _ _ _ _ _ _ _ _ _ _ _ _ _)
      have hd8 : D 8 = true := hdeps ⟨8, .data⟩ (by simp) rfl
      have E40 := frC_in (v := .slice (some ⟨b1, 0, none⟩) 2 2) hd8 (show 40 < a0.tmps.size by rw [hsz]; decide) (vs := VC5 a2 a3 n2 c2 n3 c3 bc ba b1 v1 v2 b2 v3) (by simp [VC5]) (VC5_nd _ _ _ _ _ _ _ _ _ _ _ _ _)
      have hn11 : D 11 = false := by cases h : D 11; rfl; have := hcl 11 _ rfl h ⟨9, .data⟩ (by simp) rfl; rw [hD] at this; cases this
      have hn14 : D 14 = false := by cases h : D 14; rfl; have := hcl 14 _ rfl h ⟨11, .data⟩ (by simp) rfl; rw [hn11] at this; cases this
      refine step_lcat2 rfl (.tmp 37) (.tmp 40) rfl a2 n2 S E37 (HSB.out.bel hW.bel) b1 2 [⟨5, 0, 1, 1, 0⟩, ⟨7, 0, 1, 1, 0⟩] E40 (hW.k1 hd8 hD) rfl (by omega) (by omega) (by omega) ?_
      intro v7 w7 ho7 hb7
      exact ⟨b1, v7, v2, b2, v3, by rw [show frC a0 D (VC5 a2 a3 n2 c2 n3 c3 bc ba b1 v1 v2 b2 v3) = frC a0 D (VC5 a2 a3 n2 c2 n3 c3 bc ba b1 (v7) v2 b2 v3) from by simp only [VC5, frC, hD, Bool.false_eq_true, if_false]]; exact frC_put hD (by simp [VC5]) (VC5_nd _ _ _ _ _ _ _ _ _ _ _ _ _) (VC5_nd' _ _ _ _ _ _ _ _ _ _ _ _ _), hW.ap1 hn11 hn14 ho7 hb7⟩
    · rintro D _ W hD hcl hdeps ⟨b1, v1, v2, b2, v3, rfl, hW⟩
      have e2 := ev_get ((frC_out (a0 := a0) (D := D) (VC5_not2 a2 a3 n2 c2 n3 c3 bc ba b1 v1 v2 b2 v3)).trans so2)
      refine ob_val rfl (v := .slice a3 n3 c3) (by simp [execOp, go_sem, e2]) ⟨b1, v1, v2, b2, v3, frC_put hD (by simp [VC5]) (VC5_nd _ _ _ _ _ _ _ _ _ _ _ _ _) (VC5_nd' _ _ _ _ _ _ _ _ _ _ _ _ _), hW.quiet (by decide)⟩
    · rintro D _ W hD hcl hdeps ⟨b1, v1, v2, b2, v3, rfl, hW⟩
      have hd9 : D 9 = true := hdeps ⟨9, .data⟩ (by simp) rfl
      have E41 := frC_in (v := v1) hd9 (show 41 < a0.tmps.size by rw [hsz]; decide) (vs := VC5 a2 a3 n2 c2 n3 c3 bc ba b1 v1 v2 b2 v3) (by simp [VC5]) (VC5_nd _ _ _ _ _ _ _ _ _ _ _ _ _)
      have hd10 : D 10 = true := hdeps ⟨10, .data⟩ (by simp) rfl
      have E42 := frC_in (v := .slice a3 n3 c3) hd10 (show 42 < a0.tmps.size by rw [hsz]; decide) (vs := VC5 a2 a3 n2 c2 n3 c3 bc ba b1 v1 v2 b2 v3) (by simp [VC5]) (VC5_nd _ _ _ _ _ _ _ _ _ _ _ _ _)
      have hn14 : D 14 = false := by cases h : D 14; rfl; have := hcl 14 _ rfl h ⟨11, .data⟩ (by simp) rfl; rw [hD] at this; cases this
      refine step_lapp rfl (.tmp 41) (.tmp 42) rfl wb.heap.size v1 (n2 + 2) (S ++ [⟨5, 0, 1, 1, 0⟩, ⟨7, 0, 1, 1, 0⟩]) E41 (hW.r1 hd9 hD) a3 n3 c3 M E42 (HMB.out.bel hW.bel) hW.bel.size (by omega) (by omega) ?_
      intro v7 w7 ho7 hg7 hv7
      exact ⟨b1, v1, v7, b2, v3, by rw [show frC a0 D (VC5 a2 a3 n2 c2 n3 c3 bc ba b1 v1 v2 b2 v3) = frC a0 D (VC5 a2 a3 n2 c2 n3 c3 bc ba b1 v1 (v7) b2 v3) from by simp only [VC5, frC, hD, Bool.false_eq_true, if_false]]; exact frC_put hD (by simp [VC5]) (VC5_nd _ _ _ _ _ _ _ _ _ _ _ _ _) (VC5_nd' _ _ _ _ _ _ _ _ _ _ _ _ _), hW.ap2 hd9 hD hn14 ho7 hg7 hv7⟩
    · rintro D _ W hD hcl hdeps ⟨b1, v1, v2, b2, v3, rfl, hW⟩
      have e8 := ev_get ((frC_out (a0 := a0) (D := D) (VC5_not8 a2 a3 n2 c2 n3 c3 bc ba b1 v1 v2 b2 v3)).trans so8)
      have z0 := hW.bel.cell t0
      have z1 := hW.bel.cell t1
      have z2 := hW.bel.cell t2
      have z3 := hW.bel.cell t3
      have z4 := hW.bel.cell t4
      refine ob_val rfl (v := .agg #[.int .i64 7, .int .i64 0, .int .i64 1, .int .i64 1, .int .i64 0]) (by simp [execOp, go_sem, e8, z0, z1, z2, z3, z4]) ⟨b1, v1, v2, b2, v3, frC_put hD (by simp [VC5]) (VC5_nd _ _ _ _ _ _ _ _ _ _ _ _ _) (VC5_nd' _ _ _ _ _ _ _ _ _ _ _ _ _), hW.quiet (by decide)⟩
    · rintro D _ W hD hcl hdeps ⟨b1, v1, v2, b2, v3, rfl, hW⟩
      have hd12 : D 12 = true := hdeps ⟨12, .data⟩ (by simp) rfl
      have e44 := ev_get (frC_in (v := .agg #[.int .i64 7, .int .i64 0, .int .i64 1, .int .i64 1, .int .i64 0]) hd12 (show 44 < a0.tmps.size by rw [hsz]; decide) (vs := VC5 a2 a3 n2 c2 n3 c3 bc ba b1 v1 v2 b2 v3) (by simp [VC5]) (VC5_nd _ _ _ _ _ _ _ _ _ _ _ _ _))
      have hn14 : D 14 = false := by cases h : D 14; rfl; have := hcl 14 _ rfl h ⟨13, .data⟩ (by simp) rfl; rw [hD] at this; cases this
      refine ob_val rfl (v := .slice (some ⟨W.heap.size, 0, none⟩) 1 1) (w' := W.alloc (.cells #[.int .i64 7, .int .i64 0, .int .i64 1, .int .i64 1, .int .i64 0] 29)) (by simp [execOp, go_sem, e44]) ⟨b1, v1, v2, W.heap.size, v3, by rw [show frC a0 D (VC5 a2 a3 n2 c2 n3 c3 bc ba b1 v1 v2 b2 v3) = frC a0 D (VC5 a2 a3 n2 c2 n3 c3 bc ba b1 v1 v2 (W.heap.size) v3) from by simp only [VC5, frC, hD, Bool.false_eq_true, if_false]]; exact frC_put hD (by simp [VC5]) (VC5_nd _ _ _ _ _ _ _ _ _ _ _ _ _) (VC5_nd' _ _ _ _ _ _ _ _ _ _ _ _ _), hW.mk2 hn14 (cs := [.int .i64 7, .int .i64 0, .int .i64 1, .int .i64 1, .int .i64 0]) rfl ((Bel.refl W).alloc _) (Blk.new W _ [_, _, _, _, _])⟩
    · rintro D _ W hD hcl hdeps ⟨b1, v1, v2, b2, v3, rfl, hW⟩
      have hd11 : D 11 = true := hdeps ⟨11, .data⟩ (by simp) rfl
      have E43 := frC_in (v := v2) hd11 (show 43 < a0.tmps.size by rw [hsz]; decide) (vs := VC5 a2 a3 n2 c2 n3 c3 bc ba b1 v1 v2 b2 v3) (by simp [VC5]) (VC5_nd _ _ _ _ _ _ _ _ _ _ _ _ _)
      have hd13 : D 13 = true := hdeps ⟨13, .data⟩ (by simp) rfl
      have E45 := frC_in (v := .slice (some ⟨b2, 0, none⟩) 1 1) hd13 (show 45 < a0.tmps.size by rw [hsz]; decide) (vs := VC5 a2 a3 n2 c2 n3 c3 bc ba b1 v1 v2 b2 v3) (by simp [VC5]) (VC5_nd _ _ _ _ _ _ _ _ _ _ _ _ _)
      have hd9 : D 9 = true := hcl 11 _ rfl hd11 ⟨9, .data⟩ (by simp) rfl
      refine step_app elLs rfl (.tmp 43) (.tmp 45) rfl wb.heap.size v2 (n2 + 2 + n3) (lsCells (S ++ [⟨5, 0, 1, 1, 0⟩, ⟨7, 0, 1, 1, 0⟩] ++ M)) E43 (hW.r2 hd11 hD) b2 [.int .i64 7, .int .i64 0, .int .i64 1, .int .i64 1, .int .i64 0] E45 (hW.k2 hd13 hD) rfl (by simp [Value.oneCell']) (by omega) (by omega) hW.bel.size ?_
      intro g7 cap7 w7 ho7 hg7 _ _
      have hn15 : D 15 = false := by cases h : D 15; rfl; have := hcl 15 _ rfl h ⟨14, .data⟩ (by simp) rfl; rw [hD] at this; cases this
      exact ⟨b1, v1, v2, b2, .slice (some ⟨g7, 0, none⟩) (n2 + 2 + n3 + 1) cap7, by rw [show frC a0 D (VC5 a2 a3 n2 c2 n3 c3 bc ba b1 v1 v2 b2 v3) = frC a0 D (VC5 a2 a3 n2 c2 n3 c3 bc ba b1 v1 v2 b2 (.slice (some ⟨g7, 0, none⟩) (n2 + 2 + n3 + 1) cap7)) from by simp only [VC5, frC, hD, hn15, Bool.false_eq_true, if_false]]; exact frC_put hD (by simp [VC5]) (VC5_nd _ _ _ _ _ _ _ _ _ _ _ _ _) (VC5_nd' _ _ _ _ _ _ _ _ _ _ _ _ _), hW.ap3 hd9 hd11 hD (by rw [lsCells_append]; exact ho7) hg7⟩
    · rintro D _ W hD hcl hdeps ⟨b1, v1, v2, b2, v3, rfl, hW⟩
      have hd14 : D 14 = true := hdeps ⟨14, .data⟩ (by simp) rfl
      have e46 := ev_get (frC_in (v := v3) hd14 (show 46 < a0.tmps.size by rw [hsz]; decide) (vs := VC5 a2 a3 n2 c2 n3 c3 bc ba b1 v1 v2 b2 v3) (by simp [VC5]) (VC5_nd _ _ _ _ _ _ _ _ _ _ _ _ _))
      refine ob_val rfl (v := v3) (by simp [execOp, go_sem, e46]) ⟨b1, v1, v2, b2, v3, frC_put hD (by simp [VC5]) (VC5_nd _ _ _ _ _ _ _ _ _ _ _ _ _) (VC5_nd' _ _ _ _ _ _ _ _ _ _ _ _ _), hW.quiet (by decide)⟩
  · rintro D _ wc hall ⟨b1, v1, v2, b2, v3, rfl, hW⟩
    rw [frC_all (fun e he => hall e.1 (by have h1 : e.1 ∈ (VC5 a2 a3 n2 c2 n3 c3 bc ba b1 v1 v2 b2 v3).map (·.1) := List.mem_map.2 ⟨e, he, rfl⟩; rw [VC5_idx] at h1; simp at h1; show e.1 < 16; omega))]
    have h3 := hW.r3 (hall 14 (by decide))
    obtain ⟨x9, y9, rfl, _, _, _⟩ := own_form h3
    have HW5 : Hid (LSt wc x9 (n2 + 2 + n3 + 1) (S ++ [⟨5, 0, 1, 1, 0⟩, ⟨7, 0, 1, 1, 0⟩] ++ M ++ [⟨7, 0, 1, 1, 0⟩]) ∧ Bel w wc ∧ Blk wc ba 29 [.int .i64 7, .int .i64 0, .int .i64 1, .int .i64 1, .int .i64 0]) := Lib.hid ⟨LSt.own h3, HB1.out.2.2.trans hW.bel, HB1.out.2.1.bel hW.bel⟩
    rw [HA0.out]
    simp only [VC5, List.foldr_cons, List.foldr_nil, Act.put, List.setIfInBounds_toArray, List.set_cons_succ, List.set_cons_zero]
    clear h3 hW hall HA0 so1 so2 so7 so8 hsz HB1 HSB HMB s0 s1 s2 s3 s4 t0 t1 t2 t3 t4
    generalize hnk : n2 + 2 + n3 = nk at HW5 ⊢
    by_cases hn0 : n1 = 0
    · subst hn0
      go_wp2
      go_ret
      exact ⟨rfl, HW5.out.2.1⟩
    go_wp2_with fail
    refine (known_any a1 n1 c1 R x9 (nk + 1) y9 (S ++ [⟨5, 0, 1, 1, 0⟩, ⟨7, 0, 1, 1, 0⟩] ++ M ++ [⟨7, 0, 1, 1, 0⟩]) wc (ents_bel HR.out HW5.out.2.1) HW5.out.1).mono ?_
    rintro e we ⟨k1, rfl, hQ, hb1⟩
    cases k1
    · clear hQ
      go_wp2
      go_ret
      exact ⟨rfl, HW5.out.2.1.trans hb1⟩
    have HQ := Lib.hid (hQ rfl); clear hQ
    have HRS := Lib.hid (And.intro HR.out.1 (And.intro HS.out.1 HM.out.1))
    have hn1 : n1 ≤ 20 := by have := HQ.out.nr; have := HRS.out.1; omega
    have hn2 : nk ≤ 499 := by have h := HQ.out.ns; have := HRS.out.2; simp only [List.length_append, List.length_cons, List.length_nil] at h; omega
    have HWE : Hid (LSt we x9 (nk + 1) (S ++ [⟨5, 0, 1, 1, 0⟩, ⟨7, 0, 1, 1, 0⟩] ++ M ++ [⟨7, 0, 1, 1, 0⟩]) ∧ Bel w we ∧ Blk we ba 29 [.int .i64 7, .int .i64 0, .int .i64 1, .int .i64 1, .int .i64 0]) := Lib.hid ⟨HW5.out.1.bel hb1, HW5.out.2.1.trans hb1, HW5.out.2.2.bel hb1⟩
    clear hb1 HW5
    have hnr : R.length ≤ 20 := HQ.out.nr
    have HBW := Lib.hid HWE.out.2.1
    have HLW := Lib.hid (fun (W : World) (hb : Bel we W) => lines_form (c1 := c1) (c2 := y9) (ents_bel HR.out (HWE.out.2.1.trans hb)) (HWE.out.1.bel hb) HQ.out.ro (fun s hs => (HQ.out.so s hs).1) hnr (by omega))
    have HLN := Lib.hid (fun (W : World) (g cp : Nat) (hb : Bel we W) (hl : LSt W (some ⟨g, 0, none⟩) (n3 + 1) (M ++ [⟨7, 0, 1, 1, 0⟩])) => lines_form (c1 := c1) (c2 := cp) (ents_bel HR.out (HWE.out.2.1.trans hb)) hl HQ.out.ro (fun s hs => (HQ.out.so s (by rw [List.append_assoc]; exact List.mem_append_right _ hs)).1) hnr (by omega))
    go_upto_region 8 with (fail)
    have t0 : we.cell? ⟨ba, 0, none⟩ = some (.int .i64 7) := HWE.out.2.2.cell 0
    have t1 : we.cell? ⟨ba, 1, none⟩ = some (.int .i64 0) := HWE.out.2.2.cell 1
    have t2 : we.cell? ⟨ba, 2, none⟩ = some (.int .i64 1) := HWE.out.2.2.cell 2
    have t3 : we.cell? ⟨ba, 3, none⟩ = some (.int .i64 1) := HWE.out.2.2.cell 3
    have t4 : we.cell? ⟨ba, 4, none⟩ = some (.int .i64 0) := HWE.out.2.2.cell 4
    refine act_name (fun a0 ha0 => ?_)
    have so0 : a0.eval (.tmp 0) = .slice a1 n1 c1 := by rw [ha0]; rfl
    have so9 : a0.eval (.tmp 9) = .slice x9 (nk + 1) y9 := by rw [ha0]; rfl
    have so2 : a0.eval (.tmp 2) = .slice a3 n3 c3 := by rw [ha0]; rfl
    have so8 : a0.eval (.tmp 8) = .pointer (some ⟨ba, 0, none⟩) := by rw [ha0]; rfl
    have hsz : a0.tmps.size = 133 := by rw [ha0]; rfl
    have HA0 := Lib.hid ha0; clear ha0
    obtain ⟨WH, hWH⟩ : ∃ L, L = S ++ [⟨5, 0, 1, 1, 0⟩, ⟨7, 0, 1, 1, 0⟩] ++ M ++ [⟨7, 0, 1, 1, 0⟩] := ⟨_, rfl⟩
    rw [← hWH] at HLW
    refine region_obs3 (fun D a' W => ∃ (ax : Option Addr) (al : Nat) (ac : Nat) (A : List Pl.LAns) (b : Nat) (g : Nat) (cp : Nat) (ex : Option Addr) (el : Nat) (ec : Nat) (B : List Pl.LAns), a' = frC a0 D (VC8 a1 a3 x9 n1 c1 n3 c3 nk y9 ba ax al ac A b g cp ex el ec B) ∧ WG we (VC8_F n3 WH M [⟨7, 0, 1, 1, 0⟩] R ax al ac A b g cp ex el ec B) D W) (by kernel_rfl) (by kernel_rfl) ⟨none, 0, 0, [], 0, 0, 0, none, 0, 0, [], (frC_none _ _).symm, WG.start _ (by simp [VC8_F])⟩ ?_ ?_
    · refine ⟨?_, ?_, ?_, ?_, ?_, ?_, ?_, ?_, ?_, ?_, ?_, ?_, ?_, ?_, ?_, ?_, trivial⟩
      · rintro D _ W hD hcl hdeps ⟨ax, al, ac, A, b, g, cp, ex, el, ec, B, rfl, hW⟩
        have e0 := ev_get ((frC_out (a0 := a0) (D := D) (VC8_not0 a1 a3 x9 n1 c1 n3 c3 nk y9 ba ax al ac A b g cp ex el ec B)).trans so0)
        refine ob_val rfl (v := .slice a1 n1 c1) (by simp [execOp, go_sem, e0]) ⟨ax, al, ac, A, b, g, cp, ex, el, ec, B, frC_put hD (by simp [VC8]) (VC8_nd _ _ _ _ _ _ _ _ _ _ _ _ _ _ _ _ _ _ _ _ _) (VC8_nd' _ _ _ _ _ _ _ _ _ _ _ _ _ _ _ _ _ _ _ _ _), hW.step (VC8_st _ _ _ _ _ _ _ _ _ _ _ _ _ _ _ _) (Bel.refl W) (by simp [VC8_F])⟩
      · rintro D _ W hD hcl hdeps ⟨ax, al, ac, A, b, g, cp, ex, el, ec, B, rfl, hW⟩
        have e9 := ev_get ((frC_out (a0 := a0) (D := D) (VC8_not9 a1 a3 x9 n1 c1 n3 c3 nk y9 ba ax al ac A b g cp ex el ec B)).trans so9)
        refine ob_val rfl (v := .slice x9 (nk + 1) y9) (by simp [execOp, go_sem, e9]) ⟨ax, al, ac, A, b, g, cp, ex, el, ec, B, frC_put hD (by simp [VC8]) (VC8_nd _ _ _ _ _ _ _ _ _ _ _ _ _ _ _ _ _ _ _ _ _) (VC8_nd' _ _ _ _ _ _ _ _ _ _ _ _ _ _ _ _ _ _ _ _ _), hW.step (VC8_st _ _ _ _ _ _ _ _ _ _ _ _ _ _ _ _) (Bel.refl W) (by simp [VC8_F])⟩
      · rintro D _ W hD hcl hdeps ⟨ax, al, ac, A, b, g, cp, ex, el, ec, B, rfl, hW⟩
        have hd0 : D 0 = true := hdeps ⟨0, .data⟩ (by simp) rfl
        have e56 := ev_get (frC_in (v := .slice a1 n1 c1) hd0 (show 56 < a0.tmps.size by rw [hsz]; decide) (vs := VC8 a1 a3 x9 n1 c1 n3 c3 nk y9 ba ax al ac A b g cp ex el ec B) (by simp [VC8]) (VC8_nd _ _ _ _ _ _ _ _ _ _ _ _ _ _ _ _ _ _ _ _ _))
        have hd1 : D 1 = true := hdeps ⟨1, .data⟩ (by simp) rfl
        have e57 := ev_get (frC_in (v := .slice x9 (nk + 1) y9) hd1 (show 57 < a0.tmps.size by rw [hsz]; decide) (vs := VC8 a1 a3 x9 n1 c1 n3 c3 nk y9 ba ax al ac A b g cp ex el ec B) (by simp [VC8]) (VC8_nd _ _ _ _ _ _ _ _ _ _ _ _ _ _ _ _ _ _ _ _ _))
        refine ob_enter' rfl (f := 9) (args := #[.slice a1 n1 c1, .slice x9 (nk + 1) y9]) (w' := W) (by simp [go_sem, e56, e57]) ((HLW.out W hW.bel).mono ?_)
        rintro e w2 ⟨ax2, al2, ac2, A2, rfl, hla, hal, hru, hb2⟩
        have hn14 : D 14 = false := by cases h : D 14; rfl; have := hcl 14 _ rfl h ⟨2, .data⟩ (by simp) rfl; rw [hD] at this; cases this
        refine ⟨.slice ax2 al2 ac2, rfl, ax2, al2, ac2, A2, b, g, cp, ex, el, ec, B, by rw [show frC a0 D (VC8 a1 a3 x9 n1 c1 n3 c3 nk y9 ba ax al ac A b g cp ex el ec B) = frC a0 D (VC8 a1 a3 x9 n1 c1 n3 c3 nk y9 ba (ax2) (al2) (ac2) (A2) b g cp ex el ec B) from by simp only [VC8, frC, hD, hn14, Bool.false_eq_true, if_false]]; exact frC_put hD (by simp [VC8]) (VC8_nd _ _ _ _ _ _ _ _ _ _ _ _ _ _ _ _ _ _ _ _ _) (VC8_nd' _ _ _ _ _ _ _ _ _ _ _ _ _ _ _ _ _ _ _ _ _), ?_⟩
        refine hW.new (VC8_st _ _ _ _ _ _ _ _ _ _ _ _ _ _ _ _) hb2 ?_
        intro f hf
        simp only [VC8_F, List.mem_cons, List.not_mem_nil, or_false] at hf
        rcases hf with rfl | rfl | rfl | rfl
        · exact .inr ⟨by simp, by simp [VC8_F]⟩
        · exact .inr ⟨by simp, by simp [VC8_F]⟩
        · exact .inr ⟨by simp, by simp [VC8_F]⟩
        · exact .inl ⟨by simp, fun hg => ⟨hla, hal, hru⟩⟩
      · rintro D _ W hD hcl hdeps ⟨ax, al, ac, A, b, g, cp, ex, el, ec, B, rfl, hW⟩
        have e0 := ev_get ((frC_out (a0 := a0) (D := D) (VC8_not0 a1 a3 x9 n1 c1 n3 c3 nk y9 ba ax al ac A b g cp ex el ec B)).trans so0)
        refine ob_val rfl (v := .slice a1 n1 c1) (by simp [execOp, go_sem, e0]) ⟨ax, al, ac, A, b, g, cp, ex, el, ec, B, frC_put hD (by simp [VC8]) (VC8_nd _ _ _ _ _ _ _ _ _ _ _ _ _ _ _ _ _ _ _ _ _) (VC8_nd' _ _ _ _ _ _ _ _ _ _ _ _ _ _ _ _ _ _ _ _ _), hW.step (VC8_st _ _ _ _ _ _ _ _ _ _ _ _ _ _ _ _) (Bel.refl W) (by simp [VC8_F])⟩
      · rintro D _ W hD hcl hdeps ⟨ax, al, ac, A, b, g, cp, ex, el, ec, B, rfl, hW⟩
        have e2 := ev_get ((frC_out (a0 := a0) (D := D) (VC8_not2 a1 a3 x9 n1 c1 n3 c3 nk y9 ba ax al ac A b g cp ex el ec B)).trans so2)
        refine ob_val rfl (v := .slice a3 n3 c3) (by simp [execOp, go_sem, e2]) ⟨ax, al, ac, A, b, g, cp, ex, el, ec, B, frC_put hD (by simp [VC8]) (VC8_nd _ _ _ _ _ _ _ _ _ _ _ _ _ _ _ _ _ _ _ _ _) (VC8_nd' _ _ _ _ _ _ _ _ _ _ _ _ _ _ _ _ _ _ _ _ _), hW.step (VC8_st _ _ _ _ _ _ _ _ _ _ _ _ _ _ _ _) (Bel.refl W) (by simp [VC8_F])⟩
      · rintro D _ W hD hcl hdeps ⟨ax, al, ac, A, b, g, cp, ex, el, ec, B, rfl, hW⟩
        have e2 := ev_get ((frC_out (a0 := a0) (D := D) (VC8_not2 a1 a3 x9 n1 c1 n3 c3 nk y9 ba ax al ac A b g cp ex el ec B)).trans so2)
        refine ob_val rfl (v := .slice a3 n3 c3) (by simp [execOp, go_sem, e2]) ⟨ax, al, ac, A, b, g, cp, ex, el, ec, B, frC_put hD (by simp [VC8]) (VC8_nd _ _ _ _ _ _ _ _ _ _ _ _ _ _ _ _ _ _ _ _ _) (VC8_nd' _ _ _ _ _ _ _ _ _ _ _ _ _ _ _ _ _ _ _ _ _), hW.step (VC8_st _ _ _ _ _ _ _ _ _ _ _ _ _ _ _ _) (Bel.refl W) (by simp [VC8_F])⟩
      · rintro D _ W hD hcl hdeps ⟨ax, al, ac, A, b, g, cp, ex, el, ec, B, rfl, hW⟩
        have hd5 : D 5 = true := hdeps ⟨5, .data⟩ (by simp) rfl
        have e61 := ev_get (frC_in (v := .slice a3 n3 c3) hd5 (show 61 < a0.tmps.size by rw [hsz]; decide) (vs := VC8 a1 a3 x9 n1 c1 n3 c3 nk y9 ba ax al ac A b g cp ex el ec B) (by simp [VC8]) (VC8_nd _ _ _ _ _ _ _ _ _ _ _ _ _ _ _ _ _ _ _ _ _))
        refine ob_val rfl (v := .int .i64 (n3 : Int)) (by simp [execOp, go_sem, e61]) ⟨ax, al, ac, A, b, g, cp, ex, el, ec, B, frC_put hD (by simp [VC8]) (VC8_nd _ _ _ _ _ _ _ _ _ _ _ _ _ _ _ _ _ _ _ _ _) (VC8_nd' _ _ _ _ _ _ _ _ _ _ _ _ _ _ _ _ _ _ _ _ _), hW.step (VC8_st _ _ _ _ _ _ _ _ _ _ _ _ _ _ _ _) (Bel.refl W) (by simp [VC8_F])⟩
      · rintro D _ W hD hcl hdeps ⟨ax, al, ac, A, b, g, cp, ex, el, ec, B, rfl, hW⟩
        have e2 := ev_get ((frC_out (a0 := a0) (D := D) (VC8_not2 a1 a3 x9 n1 c1 n3 c3 nk y9 ba ax al ac A b g cp ex el ec B)).trans so2)
        refine ob_val rfl (v := .slice a3 n3 c3) (by simp [execOp, go_sem, e2]) ⟨ax, al, ac, A, b, g, cp, ex, el, ec, B, frC_put hD (by simp [VC8]) (VC8_nd _ _ _ _ _ _ _ _ _ _ _ _ _ _ _ _ _ _ _ _ _) (VC8_nd' _ _ _ _ _ _ _ _ _ _ _ _ _ _ _ _ _ _ _ _ _), hW.step (VC8_st _ _ _ _ _ _ _ _ _ _ _ _ _ _ _ _) (Bel.refl W) (by simp [VC8_F])⟩
      · rintro D _ W hD hcl hdeps ⟨ax, al, ac, A, b, g, cp, ex, el, ec, B, rfl, hW⟩
        have hd7 : D 7 = true := hdeps ⟨7, .data⟩ (by simp) rfl
        have e63 := ev_get (frC_in (v := .slice a3 n3 c3) hd7 (show 63 < a0.tmps.size by rw [hsz]; decide) (vs := VC8 a1 a3 x9 n1 c1 n3 c3 nk y9 ba ax al ac A b g cp ex el ec B) (by simp [VC8]) (VC8_nd _ _ _ _ _ _ _ _ _ _ _ _ _ _ _ _ _ _ _ _ _))
        refine ob_val rfl (v := .int .i64 (n3 : Int)) (by simp [execOp, go_sem, e63]) ⟨ax, al, ac, A, b, g, cp, ex, el, ec, B, frC_put hD (by simp [VC8]) (VC8_nd _ _ _ _ _ _ _ _ _ _ _ _ _ _ _ _ _ _ _ _ _) (VC8_nd' _ _ _ _ _ _ _ _ _ _ _ _ _ _ _ _ _ _ _ _ _), hW.step (VC8_st _ _ _ _ _ _ _ _ _ _ _ _ _ _ _ _) (Bel.refl W) (by simp [VC8_F])⟩
      · rintro D _ W hD hcl hdeps ⟨ax, al, ac, A, b, g, cp, ex, el, ec, B, rfl, hW⟩
        have hd4 : D 4 = true := hdeps ⟨4, .data⟩ (by simp) rfl
        have E60 := frC_in (v := .slice a3 n3 c3) hd4 (show 60 < a0.tmps.size by rw [hsz]; decide) (vs := VC8 a1 a3 x9 n1 c1 n3 c3 nk y9 ba ax al ac A b g cp ex el ec B) (by simp [VC8]) (VC8_nd _ _ _ _ _ _ _ _ _ _ _ _ _ _ _ _ _ _ _ _ _)
        have hd6 : D 6 = true := hdeps ⟨6, .data⟩ (by simp) rfl
        have E62 := frC_in (v := .int .i64 (n3 : Int)) hd6 (show 62 < a0.tmps.size by rw [hsz]; decide) (vs := VC8 a1 a3 x9 n1 c1 n3 c3 nk y9 ba ax al ac A b g cp ex el ec B) (by simp [VC8]) (VC8_nd _ _ _ _ _ _ _ _ _ _ _ _ _ _ _ _ _ _ _ _ _)
        have hd8 : D 8 = true := hdeps ⟨8, .data⟩ (by simp) rfl
        have E64 := frC_in (v := .int .i64 (n3 : Int)) hd8 (show 64 < a0.tmps.size by rw [hsz]; decide) (vs := VC8 a1 a3 x9 n1 c1 n3 c3 nk y9 ba ax al ac A b g cp ex el ec B) (by simp [VC8]) (VC8_nd _ _ _ _ _ _ _ _ _ _ _ _ _ _ _ _ _ _ _ _ _)
        refine ob_val rfl (v := .slice a3 n3 n3) ?_ ⟨ax, al, ac, A, b, g, cp, ex, el, ec, B, frC_put hD (by simp [VC8]) (VC8_nd _ _ _ _ _ _ _ _ _ _ _ _ _ _ _ _ _ _ _ _ _) (VC8_nd' _ _ _ _ _ _ _ _ _ _ _ _ _ _ _ _ _ _ _ _ _), hW.step (VC8_st _ _ _ _ _ _ _ _ _ _ _ _ _ _ _ _) (Bel.refl W) (by simp [VC8_F])⟩
        simp only [execOp, Sem.run_bind, E60, E62, E64, Option.map_some, Option.map_none, run_lslice W a3 n3 c3 NC3, Result.andThen, Sem.run_pure]
      · rintro D _ W hD hcl hdeps ⟨ax, al, ac, A, b, g, cp, ex, el, ec, B, rfl, hW⟩
        have e8 := ev_get ((frC_out (a0 := a0) (D := D) (VC8_not8 a1 a3 x9 n1 c1 n3 c3 nk y9 ba ax al ac A b g cp ex el ec B)).trans so8)
        have z0 := hW.bel.cell t0
        have z1 := hW.bel.cell t1
        have z2 := hW.bel.cell t2
        have z3 := hW.bel.cell t3
        have z4 := hW.bel.cell t4
        refine ob_val rfl (v := .agg #[.int .i64 7, .int .i64 0, .int .i64 1, .int .i64 1, .int .i64 0]) (by simp [execOp, go_sem, e8, z0, z1, z2, z3, z4]) ⟨ax, al, ac, A, b, g, cp, ex, el, ec, B, frC_put hD (by simp [VC8]) (VC8_nd _ _ _ _ _ _ _ _ _ _ _ _ _ _ _ _ _ _ _ _ _) (VC8_nd' _ _ _ _ _ _ _ _ _ _ _ _ _ _ _ _ _ _ _ _ _), hW.step (VC8_st _ _ _ _ _ _ _ _ _ _ _ _ _ _ _ _) (Bel.refl W) (by simp [VC8_F])⟩
      · rintro D _ W hD hcl hdeps ⟨ax, al, ac, A, b, g, cp, ex, el, ec, B, rfl, hW⟩
        have hd10 : D 10 = true := hdeps ⟨10, .data⟩ (by simp) rfl
        have e66 := ev_get (frC_in (v := .agg #[.int .i64 7, .int .i64 0, .int .i64 1, .int .i64 1, .int .i64 0]) hd10 (show 66 < a0.tmps.size by rw [hsz]; decide) (vs := VC8 a1 a3 x9 n1 c1 n3 c3 nk y9 ba ax al ac A b g cp ex el ec B) (by simp [VC8]) (VC8_nd _ _ _ _ _ _ _ _ _ _ _ _ _ _ _ _ _ _ _ _ _))
        refine ob_val rfl (v := .slice (some ⟨W.heap.size, 0, none⟩) 1 1) (w' := W.alloc (.cells #[.int .i64 7, .int .i64 0, .int .i64 1, .int .i64 1, .int .i64 0] 29)) (by simp [execOp, go_sem, e66]) ?_
        have hb2 : Bel W (W.alloc (.cells #[.int .i64 7, .int .i64 0, .int .i64 1, .int .i64 1, .int .i64 0] 29)) := (Bel.refl W).alloc _
        refine ⟨ax, al, ac, A, W.heap.size, g, cp, ex, el, ec, B, by rw [show frC a0 D (VC8 a1 a3 x9 n1 c1 n3 c3 nk y9 ba ax al ac A b g cp ex el ec B) = frC a0 D (VC8 a1 a3 x9 n1 c1 n3 c3 nk y9 ba ax al ac A (W.heap.size) g cp ex el ec B) from by simp only [VC8, frC, hD, Bool.false_eq_true, if_false]]; exact frC_put hD (by simp [VC8]) (VC8_nd _ _ _ _ _ _ _ _ _ _ _ _ _ _ _ _ _ _ _ _ _) (VC8_nd' _ _ _ _ _ _ _ _ _ _ _ _ _ _ _ _ _ _ _ _ _), ?_⟩
        refine hW.new (VC8_st _ _ _ _ _ _ _ _ _ _ _ _ _ _ _ _) hb2 ?_
        intro f hf
        simp only [VC8_F, List.mem_cons, List.not_mem_nil, or_false] at hf
        rcases hf with rfl | rfl | rfl | rfl
        · exact .inl ⟨by simp, fun hg => Blk.new W _ [.int .i64 7, .int .i64 0, .int .i64 1, .int .i64 1, .int .i64 0]⟩
        · exact .inr ⟨by simp, by simp [VC8_F]⟩
        · exact .inr ⟨by simp, by simp [VC8_F]⟩
        · exact .inr ⟨by simp, by simp [VC8_F]⟩
      · rintro D _ W hD hcl hdeps ⟨ax, al, ac, A, b, g, cp, ex, el, ec, B, rfl, hW⟩
        have hd9 : D 9 = true := hdeps ⟨9, .data⟩ (by simp) rfl
        have E65 := frC_in (v := .slice a3 n3 n3) hd9 (show 65 < a0.tmps.size by rw [hsz]; decide) (vs := VC8 a1 a3 x9 n1 c1 n3 c3 nk y9 ba ax al ac A b g cp ex el ec B) (by simp [VC8]) (VC8_nd _ _ _ _ _ _ _ _ _ _ _ _ _ _ _ _ _ _ _ _ _)
        have hd11 : D 11 = true := hdeps ⟨11, .data⟩ (by simp) rfl
        have E67 := frC_in (v := .slice (some ⟨b, 0, none⟩) 1 1) hd11 (show 67 < a0.tmps.size by rw [hsz]; decide) (vs := VC8 a1 a3 x9 n1 c1 n3 c3 nk y9 ba ax al ac A b g cp ex el ec B) (by simp [VC8]) (VC8_nd _ _ _ _ _ _ _ _ _ _ _ _ _ _ _ _ _ _ _ _ _)
        have hbx := hW.get (k := 0) rfl (fun i hi => by simp at hi; subst hi; exact hd11)
        refine step_lcat rfl (.tmp 65) (.tmp 67) rfl a3 n3 M E65 (HM.out.bel (HBW.out.trans hW.bel)) b 1 [⟨7, 0, 1, 1, 0⟩] E67 hbx rfl (by omega) (by omega) (by omega) ?_
        intro g7 cp7 w7 ho7 hb7
        refine ⟨ax, al, ac, A, b, g7, cp7, ex, el, ec, B, by rw [show frC a0 D (VC8 a1 a3 x9 n1 c1 n3 c3 nk y9 ba ax al ac A b g cp ex el ec B) = frC a0 D (VC8 a1 a3 x9 n1 c1 n3 c3 nk y9 ba ax al ac A b (g7) (cp7) ex el ec B) from by simp only [VC8, frC, hD, Bool.false_eq_true, if_false]]; exact frC_put hD (by simp [VC8]) (VC8_nd _ _ _ _ _ _ _ _ _ _ _ _ _ _ _ _ _ _ _ _ _) (VC8_nd' _ _ _ _ _ _ _ _ _ _ _ _ _ _ _ _ _ _ _ _ _), ?_⟩
        refine hW.new (VC8_st _ _ _ _ _ _ _ _ _ _ _ _ _ _ _ _) hb7 ?_
        intro f hf
        simp only [VC8_F, List.mem_cons, List.not_mem_nil, or_false] at hf
        rcases hf with rfl | rfl | rfl | rfl
        · exact .inr ⟨by simp, by simp [VC8_F]⟩
        · exact .inl ⟨by simp, fun hg => ho7⟩
        · exact .inr ⟨by simp, by simp [VC8_F]⟩
        · exact .inr ⟨by simp, by simp [VC8_F]⟩
      · rintro D _ W hD hcl hdeps ⟨ax, al, ac, A, b, g, cp, ex, el, ec, B, rfl, hW⟩
        have hd3 : D 3 = true := hdeps ⟨3, .data⟩ (by simp) rfl
        have e59 := ev_get (frC_in (v := .slice a1 n1 c1) hd3 (show 59 < a0.tmps.size by rw [hsz]; decide) (vs := VC8 a1 a3 x9 n1 c1 n3 c3 nk y9 ba ax al ac A b g cp ex el ec B) (by simp [VC8]) (VC8_nd _ _ _ _ _ _ _ _ _ _ _ _ _ _ _ _ _ _ _ _ _))
        have hd12 : D 12 = true := hdeps ⟨12, .data⟩ (by simp) rfl
        have e68 := ev_get (frC_in (v := .slice (some ⟨g, 0, none⟩) (n3 + 1) cp) hd12 (show 68 < a0.tmps.size by rw [hsz]; decide) (vs := VC8 a1 a3 x9 n1 c1 n3 c3 nk y9 ba ax al ac A b g cp ex el ec B) (by simp [VC8]) (VC8_nd _ _ _ _ _ _ _ _ _ _ _ _ _ _ _ _ _ _ _ _ _))
        refine ob_enter' rfl (f := 9) (args := #[.slice a1 n1 c1, .slice (some ⟨g, 0, none⟩) (n3 + 1) cp]) (w' := W) (by simp [go_sem, e59, e68]) ((HLN.out W g cp hW.bel (hW.get (k := 1) rfl (fun i hi => by simp at hi; subst hi; exact hd12))).mono ?_)
        rintro e w2 ⟨ex2, el2, ec2, B2, rfl, hla, hal, hru, hb2⟩
        have hn15 : D 15 = false := by cases h : D 15; rfl; have := hcl 15 _ rfl h ⟨13, .data⟩ (by simp) rfl; rw [hD] at this; cases this
        refine ⟨.slice ex2 el2 ec2, rfl, ax, al, ac, A, b, g, cp, ex2, el2, ec2, B2, by rw [show frC a0 D (VC8 a1 a3 x9 n1 c1 n3 c3 nk y9 ba ax al ac A b g cp ex el ec B) = frC a0 D (VC8 a1 a3 x9 n1 c1 n3 c3 nk y9 ba ax al ac A b g cp (ex2) (el2) (ec2) (B2)) from by simp only [VC8, frC, hD, hn15, Bool.false_eq_true, if_false]]; exact frC_put hD (by simp [VC8]) (VC8_nd _ _ _ _ _ _ _ _ _ _ _ _ _ _ _ _ _ _ _ _ _) (VC8_nd' _ _ _ _ _ _ _ _ _ _ _ _ _ _ _ _ _ _ _ _ _), ?_⟩
        refine hW.new (VC8_st _ _ _ _ _ _ _ _ _ _ _ _ _ _ _ _) hb2 ?_
        intro f hf
        simp only [VC8_F, List.mem_cons, List.not_mem_nil, or_false] at hf
        rcases hf with rfl | rfl | rfl | rfl
        · exact .inr ⟨by simp, by simp [VC8_F]⟩
        · exact .inr ⟨by simp, by simp [VC8_F]⟩
        · exact .inl ⟨by simp, fun hg => ⟨hla, hal, hru⟩⟩
        · exact .inr ⟨by simp, by simp [VC8_F]⟩
      · rintro D _ W hD hcl hdeps ⟨ax, al, ac, A, b, g, cp, ex, el, ec, B, rfl, hW⟩
        have hd2 : D 2 = true := hdeps ⟨2, .data⟩ (by simp) rfl
        have e58 := ev_get (frC_in (v := .slice ax al ac) hd2 (show 58 < a0.tmps.size by rw [hsz]; decide) (vs := VC8 a1 a3 x9 n1 c1 n3 c3 nk y9 ba ax al ac A b g cp ex el ec B) (by simp [VC8]) (VC8_nd _ _ _ _ _ _ _ _ _ _ _ _ _ _ _ _ _ _ _ _ _))
        refine ob_val rfl (v := .slice ax al ac) (by simp [execOp, go_sem, e58]) ⟨ax, al, ac, A, b, g, cp, ex, el, ec, B, frC_put hD (by simp [VC8]) (VC8_nd _ _ _ _ _ _ _ _ _ _ _ _ _ _ _ _ _ _ _ _ _) (VC8_nd' _ _ _ _ _ _ _ _ _ _ _ _ _ _ _ _ _ _ _ _ _), hW.step (VC8_st _ _ _ _ _ _ _ _ _ _ _ _ _ _ _ _) (Bel.refl W) (by simp [VC8_F])⟩
      · rintro D _ W hD hcl hdeps ⟨ax, al, ac, A, b, g, cp, ex, el, ec, B, rfl, hW⟩
        have hd13 : D 13 = true := hdeps ⟨13, .data⟩ (by simp) rfl
        have e69 := ev_get (frC_in (v := .slice ex el ec) hd13 (show 69 < a0.tmps.size by rw [hsz]; decide) (vs := VC8 a1 a3 x9 n1 c1 n3 c3 nk y9 ba ax al ac A b g cp ex el ec B) (by simp [VC8]) (VC8_nd _ _ _ _ _ _ _ _ _ _ _ _ _ _ _ _ _ _ _ _ _))
        refine ob_val rfl (v := .slice ex el ec) (by simp [execOp, go_sem, e69]) ⟨ax, al, ac, A, b, g, cp, ex, el, ec, B, frC_put hD (by simp [VC8]) (VC8_nd _ _ _ _ _ _ _ _ _ _ _ _ _ _ _ _ _ _ _ _ _) (VC8_nd' _ _ _ _ _ _ _ _ _ _ _ _ _ _ _ _ _ _ _ _ _), hW.step (VC8_st _ _ _ _ _ _ _ _ _ _ _ _ _ _ _ _) (Bel.refl W) (by simp [VC8_F])⟩
    · rintro D _ wf hall ⟨ax, al, ac, A, b, g, cp, ex, el, ec, B, rfl, hW⟩
      have hf0 := hW.get (k := 0) rfl (fun i hi => hall i (by simp at hi; show i < 16; omega))
      have hf1 := hW.get (k := 1) rfl (fun i hi => hall i (by simp at hi; show i < 16; omega))
      have hf2 := hW.get (k := 2) rfl (fun i hi => hall i (by simp at hi; show i < 16; omega))
      have hf3 := hW.get (k := 3) rfl (fun i hi => hall i (by simp at hi; show i < 16; omega))
      have hbW := hW.bel
      rw [frC_all (fun e he => hall e.1 (by have h1 : e.1 ∈ (VC8 a1 a3 x9 n1 c1 n3 c3 nk y9 ba ax al ac A b g cp ex el ec B).map (·.1) := List.mem_map.2 ⟨e, he, rfl⟩; rw [VC8_idx] at h1; simp at h1; show e.1 < 16; omega))]
      have HA1 := Lib.hid hf3
      have HA2 := Lib.hid hf2
      have HBF := Lib.hid (HWE.out.2.1.trans hbW)
      rw [HA0.out]
      simp only [VC8, List.foldr_cons, List.foldr_nil, Act.put, List.setIfInBounds_toArray, List.set_cons_succ, List.set_cons_zero]
      clear hf0 hf1 hf2 hf3 hbW hW hall HA0 so0 so9 so2 so8 hsz HWE HBW HLW HLN t0 t1 t2 t3 t4
      obtain ⟨pa, pz, pb, hp1, hpf, hp2, hp3, T, hb1, hb2, hb3, hLl, hSQ⟩ := clear_law (x := ⟨5, 0, 1, 1, 0⟩) (y := ⟨7, 0, 1, 1, 0⟩) (z := ⟨7, 0, 1, 1, 0⟩) (S := S) (T := M) (A := A) (B := B) HQ.out.ro rfl rfl rfl (fun s hs => HQ.out.so s (by rw [List.append_assoc]; exact List.mem_append_right _ hs)) (by have h := HA1.out.2.2; rw [hWH] at h; simpa using h) HA2.out.2.2
      rw [HRS.out.2.1] at hp1 hp2
      rw [HRS.out.2.2] at hp2 hp3 hLl
      rw [hnk] at hp2
      have HSQ := Lib.hid hSQ; clear hSQ
      have hal1 : al = nk + 1 := by
        rw [HA1.out.2.1, HA1.out.2.2.1, hWH]
        simp only [List.length_append, List.length_cons, List.length_nil]
        have := HRS.out.2
        omega
      have hal2 : el = n3 + 1 := by
        rw [HA2.out.2.1, HA2.out.2.2.1]
        simp only [List.length_append, List.length_cons, List.length_nil]
        have := HRS.out.2
        omega
      obtain ⟨_, _, e1, _, _, hC1⟩ := HA1.out.1.read
      injection e1 with e1a e1b e1c
      subst e1a e1c
      obtain ⟨gA, rfl, hc1⟩ := hC1 (by omega)
      obtain ⟨_, _, _, _, _, k2, _, _, i0, _, _⟩ := hc1 (n2 + 1) pa hp1
      obtain ⟨kx, kc, rfl, _, _, _⟩ := i0
      rw [hpf, List.length_nil] at k2
      obtain ⟨u1, u2, u3, p0, p1, p2, p3, p4, i1, i2, i3⟩ := hc1 nk pz hp2
      have HIA := Lib.hid (And.intro i1 (And.intro i2 i3))
      obtain ⟨ex1, ec1, rfl, _, _, _⟩ := i1
      obtain ⟨ex2, ec2, rfl, _, _, _⟩ := i2
      obtain ⟨ex3, ec3, rfl, _, _, _⟩ := i3
      obtain ⟨en1, hna1⟩ : ∃ n, n = pz.files.length := ⟨_, rfl⟩
      obtain ⟨en2, hna2⟩ : ∃ n, n = pz.lines.length := ⟨_, rfl⟩
      obtain ⟨en3, hna3⟩ : ∃ n, n = pz.vals.length := ⟨_, rfl⟩
      rw [← hna1] at HIA p2
      rw [← hna2] at HIA p3
      rw [← hna3] at HIA p4
      clear hna1 hna2 hna3
      obtain ⟨_, _, e2, _, _, hC2⟩ := HA2.out.1.read
      injection e2 with e2a e2b e2c
      subst e2a e2c
      obtain ⟨gB, rfl, hc2⟩ := hC2 (by omega)
      obtain ⟨v1, v2, v3, r0, r1, r2, r3, r4, i1, i2, i3⟩ := hc2 n3 pb hp3
      rw [hb1] at i1
      rw [hb2] at i2
      rw [hb3] at i3
      obtain ⟨fx, fc, rfl, _, _, hfc⟩ := i1
      obtain ⟨lx, lc, rfl, _, _, hlc⟩ := i2
      obtain ⟨vx, vc, rfl, _, _, hvc⟩ := i3
      rw [List.length_map] at hfc hlc hvc r2 r3 r4
      generalize pz.ok = ok at p0
      generalize pz.val = va at p1
      generalize pb.ok = ok2 at r0
      generalize pb.val = va2 at r1
      generalize hnT : T.length = nT at hfc hlc hvc r2 r3 r4 hLl
      have HNT := Lib.hid hnT
      have HTC := Lib.hid (And.intro hfc (And.intro hlc hvc))
      subst hal1 hal2
      clear hnT hfc hlc hvc hp1 hp2 hp3 hb1 hb2 hb3 hpf e1b e2b hC1 hC2 hc1 hc2 hWH
      have jA : (n2 : Int) + 1 < (nk : Int) + 1 := by omega
      have wk2 : IntKind.i64.wrap (nk : Int) = (nk : Int) := IntWalk.i64_in _ (by omega)
      have wk : IntKind.i64.wrap ((nk : Int) + 1 - 1) = (nk : Int) := by rw [Int.add_sub_cancel]; exact wk2
      have j0 : (0 : Int) ≤ (nk : Int) := by omega
      have j1 : (nk : Int) < (nk : Int) + 1 := by omega
      have j2 : (0 : Int) ≤ (n3 : Int) := by omega
      have j3 : (n3 : Int) < (n3 : Int) + 1 := by omega
      have HHH := Lib.hid (And.intro HA1 HA2)
      clear HA1 HA2 HHH
      go_upto_region 11 with (fail)
      refine act_name (fun a0 ha0 => ?_)
      have so10 : a0.eval (.tmp 10) = .slice (some ⟨gA, 0, none⟩) (nk + 1) ac := by rw [ha0]; rfl
      have so9 : a0.eval (.tmp 9) = .slice x9 (nk + 1) y9 := by rw [ha0]; rfl
      have so11 : a0.eval (.tmp 11) = .slice (some ⟨gB, 0, none⟩) (n3 + 1) ec := by rw [ha0]; rfl
      have so2 : a0.eval (.tmp 2) = .slice a3 n3 c3 := by rw [ha0]; rfl
      have hsz : a0.tmps.size = 133 := by rw [ha0]; rfl
      have HA0 := Lib.hid ha0; clear ha0
      refine region_obs3 (fun D a' W => ∃ (bA : Nat) (bB : Nat), a' = frC a0 D (VC11 a3 x9 gA ac nk y9 gB ec n3 c3 ok ok2 va va2 ex1 ex2 ex3 fx lx vx en1 ec1 en2 ec2 en3 ec3 nT fc lc vc bA bB) ∧ WG wf (VC11_F wf.heap.size ok ok2 va va2 ex1 ex2 ex3 fx lx vx en1 ec1 en2 ec2 en3 ec3 nT fc lc vc bA bB) D W) (by kernel_rfl) (by kernel_rfl) ⟨0, 0, (frC_none _ _).symm, WG.start _ (by simp [VC11_F])⟩ ?_ ?_
      · refine ⟨?_, ?_, ?_, ?_, ?_, ?_, ?_, ?_, ?_, ?_, ?_, ?_, ?_, ?_, ?_, trivial⟩
        · rintro D _ W hD hcl hdeps ⟨bA, bB, rfl, hW⟩
          have e10 := ev_get ((frC_out (a0 := a0) (D := D) (VC11_not10 a3 x9 gA ac nk y9 gB ec n3 c3 ok ok2 va va2 ex1 ex2 ex3 fx lx vx en1 ec1 en2 ec2 en3 ec3 nT fc lc vc bA bB)).trans so10)
          refine ob_val rfl (v := .slice (some ⟨gA, 0, none⟩) (nk + 1) ac) (by simp [execOp, go_sem, e10]) ⟨bA, bB, frC_put hD (by simp [VC11]) (VC11_nd _ _ _ _ _ _ _ _ _ _ _ _ _ _ _ _ _ _ _ _ _ _ _ _ _ _ _ _ _ _ _ _) (VC11_nd' _ _ _ _ _ _ _ _ _ _ _ _ _ _ _ _ _ _ _ _ _ _ _ _ _ _ _ _ _ _ _ _), hW.step (VC11_st _ _ _ _ _ _ _ _ _ _ _ _ _ _ _ _ _ _ _ _ _ _ _) (Bel.refl W) (by simp [VC11_F])⟩
        · rintro D _ W hD hcl hdeps ⟨bA, bB, rfl, hW⟩
          have e9 := ev_get ((frC_out (a0 := a0) (D := D) (VC11_not9 a3 x9 gA ac nk y9 gB ec n3 c3 ok ok2 va va2 ex1 ex2 ex3 fx lx vx en1 ec1 en2 ec2 en3 ec3 nT fc lc vc bA bB)).trans so9)
          refine ob_val rfl (v := .slice x9 (nk + 1) y9) (by simp [execOp, go_sem, e9]) ⟨bA, bB, frC_put hD (by simp [VC11]) (VC11_nd _ _ _ _ _ _ _ _ _ _ _ _ _ _ _ _ _ _ _ _ _ _ _ _ _ _ _ _ _ _ _ _) (VC11_nd' _ _ _ _ _ _ _ _ _ _ _ _ _ _ _ _ _ _ _ _ _ _ _ _ _ _ _ _ _ _ _ _), hW.step (VC11_st _ _ _ _ _ _ _ _ _ _ _ _ _ _ _ _ _ _ _ _ _ _ _) (Bel.refl W) (by simp [VC11_F])⟩
        · rintro D _ W hD hcl hdeps ⟨bA, bB, rfl, hW⟩
          have hd1 : D 1 = true := hdeps ⟨1, .data⟩ (by simp) rfl
          have e95 := ev_get (frC_in (v := .slice x9 (nk + 1) y9) hd1 (show 95 < a0.tmps.size by rw [hsz]; decide) (vs := VC11 a3 x9 gA ac nk y9 gB ec n3 c3 ok ok2 va va2 ex1 ex2 ex3 fx lx vx en1 ec1 en2 ec2 en3 ec3 nT fc lc vc bA bB) (by simp [VC11]) (VC11_nd _ _ _ _ _ _ _ _ _ _ _ _ _ _ _ _ _ _ _ _ _ _ _ _ _ _ _ _ _ _ _ _))
          refine ob_val rfl (v := .int .i64 ((nk + 1 : Nat) : Int)) (by simp [execOp, go_sem, e95]) ⟨bA, bB, frC_put hD (by simp [VC11]) (VC11_nd _ _ _ _ _ _ _ _ _ _ _ _ _ _ _ _ _ _ _ _ _ _ _ _ _ _ _ _ _ _ _ _) (VC11_nd' _ _ _ _ _ _ _ _ _ _ _ _ _ _ _ _ _ _ _ _ _ _ _ _ _ _ _ _ _ _ _ _), hW.step (VC11_st _ _ _ _ _ _ _ _ _ _ _ _ _ _ _ _ _ _ _ _ _ _ _) (Bel.refl W) (by simp [VC11_F])⟩
        · rintro D _ W hD hcl hdeps ⟨bA, bB, rfl, hW⟩
          have hd2 : D 2 = true := hdeps ⟨2, .data⟩ (by simp) rfl
          have e96 := ev_get (frC_in (v := .int .i64 ((nk + 1 : Nat) : Int)) hd2 (show 96 < a0.tmps.size by rw [hsz]; decide) (vs := VC11 a3 x9 gA ac nk y9 gB ec n3 c3 ok ok2 va va2 ex1 ex2 ex3 fx lx vx en1 ec1 en2 ec2 en3 ec3 nT fc lc vc bA bB) (by simp [VC11]) (VC11_nd _ _ _ _ _ _ _ _ _ _ _ _ _ _ _ _ _ _ _ _ _ _ _ _ _ _ _ _ _ _ _ _))
          refine ob_val rfl (v := .int .i64 (nk : Int)) (by simp [execOp, go_sem, e96, wk, wk2]) ⟨bA, bB, frC_put hD (by simp [VC11]) (VC11_nd _ _ _ _ _ _ _ _ _ _ _ _ _ _ _ _ _ _ _ _ _ _ _ _ _ _ _ _ _ _ _ _) (VC11_nd' _ _ _ _ _ _ _ _ _ _ _ _ _ _ _ _ _ _ _ _ _ _ _ _ _ _ _ _ _ _ _ _), hW.step (VC11_st _ _ _ _ _ _ _ _ _ _ _ _ _ _ _ _ _ _ _ _ _ _ _) (Bel.refl W) (by simp [VC11_F])⟩
        · rintro D _ W hD hcl hdeps ⟨bA, bB, rfl, hW⟩
          have hd0 : D 0 = true := hdeps ⟨0, .data⟩ (by simp) rfl
          have e94 := ev_get (frC_in (v := .slice (some ⟨gA, 0, none⟩) (nk + 1) ac) hd0 (show 94 < a0.tmps.size by rw [hsz]; decide) (vs := VC11 a3 x9 gA ac nk y9 gB ec n3 c3 ok ok2 va va2 ex1 ex2 ex3 fx lx vx en1 ec1 en2 ec2 en3 ec3 nT fc lc vc bA bB) (by simp [VC11]) (VC11_nd _ _ _ _ _ _ _ _ _ _ _ _ _ _ _ _ _ _ _ _ _ _ _ _ _ _ _ _ _ _ _ _))
          have hd3 : D 3 = true := hdeps ⟨3, .data⟩ (by simp) rfl
          have e97 := ev_get (frC_in (v := .int .i64 (nk : Int)) hd3 (show 97 < a0.tmps.size by rw [hsz]; decide) (vs := VC11 a3 x9 gA ac nk y9 gB ec n3 c3 ok ok2 va va2 ex1 ex2 ex3 fx lx vx en1 ec1 en2 ec2 en3 ec3 nT fc lc vc bA bB) (by simp [VC11]) (VC11_nd _ _ _ _ _ _ _ _ _ _ _ _ _ _ _ _ _ _ _ _ _ _ _ _ _ _ _ _ _ _ _ _))
          refine ob_val rfl (v := .pointer (some ⟨gA, nk * 5, none⟩)) (by simp [execOp, go_sem, e94, e97, j0, j1]) ⟨bA, bB, frC_put hD (by simp [VC11]) (VC11_nd _ _ _ _ _ _ _ _ _ _ _ _ _ _ _ _ _ _ _ _ _ _ _ _ _ _ _ _ _ _ _ _) (VC11_nd' _ _ _ _ _ _ _ _ _ _ _ _ _ _ _ _ _ _ _ _ _ _ _ _ _ _ _ _ _ _ _ _), hW.step (VC11_st _ _ _ _ _ _ _ _ _ _ _ _ _ _ _ _ _ _ _ _ _ _ _) (Bel.refl W) (by simp [VC11_F])⟩
        · rintro D _ W hD hcl hdeps ⟨bA, bB, rfl, hW⟩
          have hd4 : D 4 = true := hdeps ⟨4, .data⟩ (by simp) rfl
          have e98 := ev_get (frC_in (v := .pointer (some ⟨gA, nk * 5, none⟩)) hd4 (show 98 < a0.tmps.size by rw [hsz]; decide) (vs := VC11 a3 x9 gA ac nk y9 gB ec n3 c3 ok ok2 va va2 ex1 ex2 ex3 fx lx vx en1 ec1 en2 ec2 en3 ec3 nT fc lc vc bA bB) (by simp [VC11]) (VC11_nd _ _ _ _ _ _ _ _ _ _ _ _ _ _ _ _ _ _ _ _ _ _ _ _ _ _ _ _ _ _ _ _))
          have z0 := hW.bel.cell p0
          have z1 := hW.bel.cell p1
          have z2 := hW.bel.cell p2
          have z3 := hW.bel.cell p3
          have z4 := hW.bel.cell p4
          refine ob_val rfl (v := .agg #[.bool ok, .int .i64 va, .slice ex1 en1 ec1, .slice ex2 en2 ec2, .slice ex3 en3 ec3]) (by simp [execOp, go_sem, e98, z0, z1, z2, z3, z4]) ⟨bA, bB, frC_put hD (by simp [VC11]) (VC11_nd _ _ _ _ _ _ _ _ _ _ _ _ _ _ _ _ _ _ _ _ _ _ _ _ _ _ _ _ _ _ _ _) (VC11_nd' _ _ _ _ _ _ _ _ _ _ _ _ _ _ _ _ _ _ _ _ _ _ _ _ _ _ _ _ _ _ _ _), hW.step (VC11_st _ _ _ _ _ _ _ _ _ _ _ _ _ _ _ _ _ _ _ _ _ _ _) (Bel.refl W) (by simp [VC11_F])⟩
        · rintro D _ W hD hcl hdeps ⟨bA, bB, rfl, hW⟩
          have e11 := ev_get ((frC_out (a0 := a0) (D := D) (VC11_not11 a3 x9 gA ac nk y9 gB ec n3 c3 ok ok2 va va2 ex1 ex2 ex3 fx lx vx en1 ec1 en2 ec2 en3 ec3 nT fc lc vc bA bB)).trans so11)
          refine ob_val rfl (v := .slice (some ⟨gB, 0, none⟩) (n3 + 1) ec) (by simp [execOp, go_sem, e11]) ⟨bA, bB, frC_put hD (by simp [VC11]) (VC11_nd _ _ _ _ _ _ _ _ _ _ _ _ _ _ _ _ _ _ _ _ _ _ _ _ _ _ _ _ _ _ _ _) (VC11_nd' _ _ _ _ _ _ _ _ _ _ _ _ _ _ _ _ _ _ _ _ _ _ _ _ _ _ _ _ _ _ _ _), hW.step (VC11_st _ _ _ _ _ _ _ _ _ _ _ _ _ _ _ _ _ _ _ _ _ _ _) (Bel.refl W) (by simp [VC11_F])⟩
        · rintro D _ W hD hcl hdeps ⟨bA, bB, rfl, hW⟩
          have e2 := ev_get ((frC_out (a0 := a0) (D := D) (VC11_not2 a3 x9 gA ac nk y9 gB ec n3 c3 ok ok2 va va2 ex1 ex2 ex3 fx lx vx en1 ec1 en2 ec2 en3 ec3 nT fc lc vc bA bB)).trans so2)
          refine ob_val rfl (v := .slice a3 n3 c3) (by simp [execOp, go_sem, e2]) ⟨bA, bB, frC_put hD (by simp [VC11]) (VC11_nd _ _ _ _ _ _ _ _ _ _ _ _ _ _ _ _ _ _ _ _ _ _ _ _ _ _ _ _ _ _ _ _) (VC11_nd' _ _ _ _ _ _ _ _ _ _ _ _ _ _ _ _ _ _ _ _ _ _ _ _ _ _ _ _ _ _ _ _), hW.step (VC11_st _ _ _ _ _ _ _ _ _ _ _ _ _ _ _ _ _ _ _ _ _ _ _) (Bel.refl W) (by simp [VC11_F])⟩
        · rintro D _ W hD hcl hdeps ⟨bA, bB, rfl, hW⟩
          have hd7 : D 7 = true := hdeps ⟨7, .data⟩ (by simp) rfl
          have e101 := ev_get (frC_in (v := .slice a3 n3 c3) hd7 (show 101 < a0.tmps.size by rw [hsz]; decide) (vs := VC11 a3 x9 gA ac nk y9 gB ec n3 c3 ok ok2 va va2 ex1 ex2 ex3 fx lx vx en1 ec1 en2 ec2 en3 ec3 nT fc lc vc bA bB) (by simp [VC11]) (VC11_nd _ _ _ _ _ _ _ _ _ _ _ _ _ _ _ _ _ _ _ _ _ _ _ _ _ _ _ _ _ _ _ _))
          refine ob_val rfl (v := .int .i64 (n3 : Int)) (by simp [execOp, go_sem, e101]) ⟨bA, bB, frC_put hD (by simp [VC11]) (VC11_nd _ _ _ _ _ _ _ _ _ _ _ _ _ _ _ _ _ _ _ _ _ _ _ _ _ _ _ _ _ _ _ _) (VC11_nd' _ _ _ _ _ _ _ _ _ _ _ _ _ _ _ _ _ _ _ _ _ _ _ _ _ _ _ _ _ _ _ _), hW.step (VC11_st _ _ _ _ _ _ _ _ _ _ _ _ _ _ _ _ _ _ _ _ _ _ _) (Bel.refl W) (by simp [VC11_F])⟩
        · rintro D _ W hD hcl hdeps ⟨bA, bB, rfl, hW⟩
          have hd6 : D 6 = true := hdeps ⟨6, .data⟩ (by simp) rfl
          have e100 := ev_get (frC_in (v := .slice (some ⟨gB, 0, none⟩) (n3 + 1) ec) hd6 (show 100 < a0.tmps.size by rw [hsz]; decide) (vs := VC11 a3 x9 gA ac nk y9 gB ec n3 c3 ok ok2 va va2 ex1 ex2 ex3 fx lx vx en1 ec1 en2 ec2 en3 ec3 nT fc lc vc bA bB) (by simp [VC11]) (VC11_nd _ _ _ _ _ _ _ _ _ _ _ _ _ _ _ _ _ _ _ _ _ _ _ _ _ _ _ _ _ _ _ _))
          have hd8 : D 8 = true := hdeps ⟨8, .data⟩ (by simp) rfl
          have e102 := ev_get (frC_in (v := .int .i64 (n3 : Int)) hd8 (show 102 < a0.tmps.size by rw [hsz]; decide) (vs := VC11 a3 x9 gA ac nk y9 gB ec n3 c3 ok ok2 va va2 ex1 ex2 ex3 fx lx vx en1 ec1 en2 ec2 en3 ec3 nT fc lc vc bA bB) (by simp [VC11]) (VC11_nd _ _ _ _ _ _ _ _ _ _ _ _ _ _ _ _ _ _ _ _ _ _ _ _ _ _ _ _ _ _ _ _))
          refine ob_val rfl (v := .pointer (some ⟨gB, n3 * 5, none⟩)) (by simp [execOp, go_sem, e100, e102, j2, j3]) ⟨bA, bB, frC_put hD (by simp [VC11]) (VC11_nd _ _ _ _ _ _ _ _ _ _ _ _ _ _ _ _ _ _ _ _ _ _ _ _ _ _ _ _ _ _ _ _) (VC11_nd' _ _ _ _ _ _ _ _ _ _ _ _ _ _ _ _ _ _ _ _ _ _ _ _ _ _ _ _ _ _ _ _), hW.step (VC11_st _ _ _ _ _ _ _ _ _ _ _ _ _ _ _ _ _ _ _ _ _ _ _) (Bel.refl W) (by simp [VC11_F])⟩
        · rintro D _ W hD hcl hdeps ⟨bA, bB, rfl, hW⟩
          have hd9 : D 9 = true := hdeps ⟨9, .data⟩ (by simp) rfl
          have e103 := ev_get (frC_in (v := .pointer (some ⟨gB, n3 * 5, none⟩)) hd9 (show 103 < a0.tmps.size by rw [hsz]; decide) (vs := VC11 a3 x9 gA ac nk y9 gB ec n3 c3 ok ok2 va va2 ex1 ex2 ex3 fx lx vx en1 ec1 en2 ec2 en3 ec3 nT fc lc vc bA bB) (by simp [VC11]) (VC11_nd _ _ _ _ _ _ _ _ _ _ _ _ _ _ _ _ _ _ _ _ _ _ _ _ _ _ _ _ _ _ _ _))
          have z0 := hW.bel.cell r0
          have z1 := hW.bel.cell r1
          have z2 := hW.bel.cell r2
          have z3 := hW.bel.cell r3
          have z4 := hW.bel.cell r4
          refine ob_val rfl (v := .agg #[.bool ok2, .int .i64 va2, .slice fx nT fc, .slice lx nT lc, .slice vx nT vc]) (by simp [execOp, go_sem, e103, z0, z1, z2, z3, z4]) ⟨bA, bB, frC_put hD (by simp [VC11]) (VC11_nd _ _ _ _ _ _ _ _ _ _ _ _ _ _ _ _ _ _ _ _ _ _ _ _ _ _ _ _ _ _ _ _) (VC11_nd' _ _ _ _ _ _ _ _ _ _ _ _ _ _ _ _ _ _ _ _ _ _ _ _ _ _ _ _ _ _ _ _), hW.step (VC11_st _ _ _ _ _ _ _ _ _ _ _ _ _ _ _ _ _ _ _ _ _ _ _) (Bel.refl W) (by simp [VC11_F])⟩
        · rintro D _ W hD hcl hdeps ⟨bA, bB, rfl, hW⟩
          refine ob_val rfl (v := .pointer (some ⟨W.heap.size, 0, none⟩)) (w' := W.alloc (.cells #[.bool false, .int .i64 0, .slice none 0 0, .slice none 0 0, .slice none 0 0] 33)) (by simp [execOp, go_sem]) ?_
          have hb2 : Bel W (W.alloc (.cells #[.bool false, .int .i64 0, .slice none 0 0, .slice none 0 0, .slice none 0 0] 33)) := (Bel.refl W).alloc _
          have hn13 : D 13 = false := by cases h : D 13; rfl; have := hcl 13 _ rfl h ⟨11, .data⟩ (by simp) rfl; rw [hD] at this; cases this
          refine ⟨W.heap.size, bB, by rw [show frC a0 D (VC11 a3 x9 gA ac nk y9 gB ec n3 c3 ok ok2 va va2 ex1 ex2 ex3 fx lx vx en1 ec1 en2 ec2 en3 ec3 nT fc lc vc bA bB) = frC a0 D (VC11 a3 x9 gA ac nk y9 gB ec n3 c3 ok ok2 va va2 ex1 ex2 ex3 fx lx vx en1 ec1 en2 ec2 en3 ec3 nT fc lc vc (W.heap.size) bB) from by simp only [VC11, frC, hD, Bool.false_eq_true, if_false]]; exact frC_put hD (by simp [VC11]) (VC11_nd _ _ _ _ _ _ _ _ _ _ _ _ _ _ _ _ _ _ _ _ _ _ _ _ _ _ _ _ _ _ _ _) (VC11_nd' _ _ _ _ _ _ _ _ _ _ _ _ _ _ _ _ _ _ _ _ _ _ _ _ _ _ _ _ _ _ _ _), ?_⟩
          refine hW.new (VC11_st _ _ _ _ _ _ _ _ _ _ _ _ _ _ _ _ _ _ _ _ _ _ _) hb2 ?_
          intro f hf
          simp only [VC11_F, List.mem_cons, List.not_mem_nil, or_false] at hf
          rcases hf with rfl | rfl | rfl | rfl | rfl
          · exact .inl ⟨by simp, fun hg => ⟨hW.bel.size, _, _, _, _, _, Blk.new W _ [_, _, _, _, _]⟩⟩
          · exact .inr ⟨by simp, by simp [VC11_F]⟩
          · exact .inl ⟨by simp, fun hg => (by obtain ⟨_, _, _, _, _, _, hB⟩ := hW.get (k := 1) rfl (fun i hi => by simp at hi; subst hi; exact (hg 12 (by simp)).resolve_left (by decide)); have := hB.lt; omega)⟩
          · exact .inl ⟨by simp, fun hg => absurd (hg 13 (by simp)) (by simp [hn13])⟩
          · exact .inr ⟨by simp, by simp [VC11_F]⟩
        · rintro D _ W hD hcl hdeps ⟨bA, bB, rfl, hW⟩
          refine ob_val rfl (v := .pointer (some ⟨W.heap.size, 0, none⟩)) (w' := W.alloc (.cells #[.bool false, .int .i64 0, .slice none 0 0, .slice none 0 0, .slice none 0 0] 33)) (by simp [execOp, go_sem]) ?_
          have hb2 : Bel W (W.alloc (.cells #[.bool false, .int .i64 0, .slice none 0 0, .slice none 0 0, .slice none 0 0] 33)) := (Bel.refl W).alloc _
          have hn14 : D 14 = false := by cases h : D 14; rfl; have := hcl 14 _ rfl h ⟨12, .data⟩ (by simp) rfl; rw [hD] at this; cases this
          refine ⟨bA, W.heap.size, by rw [show frC a0 D (VC11 a3 x9 gA ac nk y9 gB ec n3 c3 ok ok2 va va2 ex1 ex2 ex3 fx lx vx en1 ec1 en2 ec2 en3 ec3 nT fc lc vc bA bB) = frC a0 D (VC11 a3 x9 gA ac nk y9 gB ec n3 c3 ok ok2 va va2 ex1 ex2 ex3 fx lx vx en1 ec1 en2 ec2 en3 ec3 nT fc lc vc bA (W.heap.size)) from by simp only [VC11, frC, hD, Bool.false_eq_true, if_false]]; exact frC_put hD (by simp [VC11]) (VC11_nd _ _ _ _ _ _ _ _ _ _ _ _ _ _ _ _ _ _ _ _ _ _ _ _ _ _ _ _ _ _ _ _) (VC11_nd' _ _ _ _ _ _ _ _ _ _ _ _ _ _ _ _ _ _ _ _ _ _ _ _ _ _ _ _ _ _ _ _), ?_⟩
          refine hW.new (VC11_st _ _ _ _ _ _ _ _ _ _ _ _ _ _ _ _ _ _ _ _ _ _ _) hb2 ?_
          intro f hf
          simp only [VC11_F, List.mem_cons, List.not_mem_nil, or_false] at hf
          rcases hf with rfl | rfl | rfl | rfl | rfl
          · exact .inr ⟨by simp, by simp [VC11_F]⟩
          · exact .inl ⟨by simp, fun hg => ⟨hW.bel.size, _, _, _, _, _, Blk.new W _ [_, _, _, _, _]⟩⟩
          · exact .inl ⟨by simp, fun hg => (by obtain ⟨_, _, _, _, _, _, hB⟩ := hW.get (k := 0) rfl (fun i hi => by simp at hi; subst hi; exact (hg 11 (by simp)).resolve_left (by decide)); have := hB.lt; omega)⟩
          · exact .inr ⟨by simp, by simp [VC11_F]⟩
          · exact .inl ⟨by simp, fun hg => absurd (hg 14 (by simp)) (by simp [hn14])⟩
        · rintro D _ W hD hcl hdeps ⟨bA, bB, rfl, hW⟩
          have hd11 : D 11 = true := hdeps ⟨11, .data⟩ (by simp) rfl
          have e12 := ev_get (frC_in (v := .pointer (some ⟨bA, 0, none⟩)) hd11 (show 12 < a0.tmps.size by rw [hsz]; decide) (vs := VC11 a3 x9 gA ac nk y9 gB ec n3 c3 ok ok2 va va2 ex1 ex2 ex3 fx lx vx en1 ec1 en2 ec2 en3 ec3 nT fc lc vc bA bB) (by simp [VC11]) (VC11_nd _ _ _ _ _ _ _ _ _ _ _ _ _ _ _ _ _ _ _ _ _ _ _ _ _ _ _ _ _ _ _ _))
          have hd5 : D 5 = true := hdeps ⟨5, .data⟩ (by simp) rfl
          have e99 := ev_get (frC_in (v := .agg #[.bool ok, .int .i64 va, .slice ex1 en1 ec1, .slice ex2 en2 ec2, .slice ex3 en3 ec3]) hd5 (show 99 < a0.tmps.size by rw [hsz]; decide) (vs := VC11 a3 x9 gA ac nk y9 gB ec n3 c3 ok ok2 va va2 ex1 ex2 ex3 fx lx vx en1 ec1 en2 ec2 en3 ec3 nT fc lc vc bA bB) (by simp [VC11]) (VC11_nd _ _ _ _ _ _ _ _ _ _ _ _ _ _ _ _ _ _ _ _ _ _ _ _ _ _ _ _ _ _ _ _))
          obtain ⟨hle, y0, y1, y2, y3, y4, hB⟩ := hW.get (k := 0) rfl (fun i hi => by simp at hi; subst hi; exact hd11)
          have y0 : W.cell? ⟨bA, 0, none⟩ = some y0 := hB.cell 0
          have y1 : W.cell? ⟨bA, 1, none⟩ = some y1 := hB.cell 1
          have y2 : W.cell? ⟨bA, 2, none⟩ = some y2 := hB.cell 2
          have y3 : W.cell? ⟨bA, 3, none⟩ = some y3 := hB.cell 3
          have y4 : W.cell? ⟨bA, 4, none⟩ = some y4 := hB.cell 4
          have z0 := hB.frozen 0
          have z1 := hB.frozen 1
          have z2 := hB.frozen 2
          have z3 := hB.frozen 3
          have z4 := hB.frozen 4
          have hF := five hB (.bool ok) (.int .i64 va) (.slice ex1 en1 ec1) (.slice ex2 en2 ec2) (.slice ex3 en3 ec3)
          refine ob_skip rfl (w' := (((((W.setCell ⟨bA, 0, none⟩ (.bool ok)).setCell ⟨bA, 1, none⟩ (.int .i64 va)).setCell ⟨bA, 2, none⟩ (.slice ex1 en1 ec1)).setCell ⟨bA, 3, none⟩ (.slice ex2 en2 ec2)).setCell ⟨bA, 4, none⟩ (.slice ex3 en3 ec3))) (by simp [execOp, go_sem, e12, e99, y0, y1, y2, y3, y4, z0, z1, z2, z3, z4]) ⟨bA, bB, ?_, ?_⟩
          · rw [frC_also_out (by rw [VC11_idx]; decide)]
            rfl
          · refine ⟨hW.bel.kt hF.2.2 hle, fun x hx hg => ?_⟩
            simp only [VC11_F, List.mem_cons, List.not_mem_nil, or_false] at hx
            rcases hx with rfl | rfl | rfl | rfl | rfl
            · exact ⟨hle, _, _, _, _, _, hF.1⟩
            · obtain ⟨hle2, u0, u1, u2, u3, u4, hC⟩ := hW.get (k := 1) rfl (fun i hi => by simp at hi; subst hi; have := hg 12 (by simp); rwa [also_ne (by decide)] at this)
              have hne : bA ≠ bB := hW.get (k := 2) rfl (fun i hi => by simp at hi; rcases hi with rfl | rfl <;> first | exact hd11 | (have := hg 12 (by simp); rwa [also_ne (by decide)] at this))
              exact ⟨hle2, _, _, _, _, _, hC.kept hF.2.1 (by simp; omega)⟩
            · exact hW.get (k := 2) rfl (fun i hi => by simp at hi; rcases hi with rfl | rfl <;> first | exact hd11 | (have := hg 12 (by simp); rwa [also_ne (by decide)] at this))
            · exact hF.1
            · have hC := hW.get (k := 4) rfl (fun i hi => by have h1 := hg i hi; simp at hi; rcases hi with rfl | rfl <;> rwa [also_ne (by decide)] at h1)
              have hne : bA ≠ bB := hW.get (k := 2) rfl (fun i hi => by simp at hi; rcases hi with rfl | rfl <;> first | exact hd11 | (have := hg 12 (by simp); rwa [also_ne (by decide)] at this))
              exact hC.kept hF.2.1 (by simp; omega)
        · rintro D _ W hD hcl hdeps ⟨bA, bB, rfl, hW⟩
          have hd12 : D 12 = true := hdeps ⟨12, .data⟩ (by simp) rfl
          have e13 := ev_get (frC_in (v := .pointer (some ⟨bB, 0, none⟩)) hd12 (show 13 < a0.tmps.size by rw [hsz]; decide) (vs := VC11 a3 x9 gA ac nk y9 gB ec n3 c3 ok ok2 va va2 ex1 ex2 ex3 fx lx vx en1 ec1 en2 ec2 en3 ec3 nT fc lc vc bA bB) (by simp [VC11]) (VC11_nd _ _ _ _ _ _ _ _ _ _ _ _ _ _ _ _ _ _ _ _ _ _ _ _ _ _ _ _ _ _ _ _))
          have hd10 : D 10 = true := hdeps ⟨10, .data⟩ (by simp) rfl
          have e104 := ev_get (frC_in (v := .agg #[.bool ok2, .int .i64 va2, .slice fx nT fc, .slice lx nT lc, .slice vx nT vc]) hd10 (show 104 < a0.tmps.size by rw [hsz]; decide) (vs := VC11 a3 x9 gA ac nk y9 gB ec n3 c3 ok ok2 va va2 ex1 ex2 ex3 fx lx vx en1 ec1 en2 ec2 en3 ec3 nT fc lc vc bA bB) (by simp [VC11]) (VC11_nd _ _ _ _ _ _ _ _ _ _ _ _ _ _ _ _ _ _ _ _ _ _ _ _ _ _ _ _ _ _ _ _))
          obtain ⟨hle, y0, y1, y2, y3, y4, hB⟩ := hW.get (k := 1) rfl (fun i hi => by simp at hi; subst hi; exact hd12)
          have y0 : W.cell? ⟨bB, 0, none⟩ = some y0 := hB.cell 0
          have y1 : W.cell? ⟨bB, 1, none⟩ = some y1 := hB.cell 1
          have y2 : W.cell? ⟨bB, 2, none⟩ = some y2 := hB.cell 2
          have y3 : W.cell? ⟨bB, 3, none⟩ = some y3 := hB.cell 3
          have y4 : W.cell? ⟨bB, 4, none⟩ = some y4 := hB.cell 4
          have z0 := hB.frozen 0
          have z1 := hB.frozen 1
          have z2 := hB.frozen 2
          have z3 := hB.frozen 3
          have z4 := hB.frozen 4
          have hF := five hB (.bool ok2) (.int .i64 va2) (.slice fx nT fc) (.slice lx nT lc) (.slice vx nT vc)
          refine ob_skip rfl (w' := (((((W.setCell ⟨bB, 0, none⟩ (.bool ok2)).setCell ⟨bB, 1, none⟩ (.int .i64 va2)).setCell ⟨bB, 2, none⟩ (.slice fx nT fc)).setCell ⟨bB, 3, none⟩ (.slice lx nT lc)).setCell ⟨bB, 4, none⟩ (.slice vx nT vc))) (by simp [execOp, go_sem, e13, e104, y0, y1, y2, y3, y4, z0, z1, z2, z3, z4]) ⟨bA, bB, ?_, ?_⟩
          · rw [frC_also_out (by rw [VC11_idx]; decide)]
            rfl
          · refine ⟨hW.bel.kt hF.2.2 hle, fun x hx hg => ?_⟩
            simp only [VC11_F, List.mem_cons, List.not_mem_nil, or_false] at hx
            rcases hx with rfl | rfl | rfl | rfl | rfl
            · obtain ⟨hle2, u0, u1, u2, u3, u4, hC⟩ := hW.get (k := 0) rfl (fun i hi => by simp at hi; subst hi; have := hg 11 (by simp); rwa [also_ne (by decide)] at this)
              have hne : bA ≠ bB := hW.get (k := 2) rfl (fun i hi => by simp at hi; rcases hi with rfl | rfl <;> first | exact hd12 | (have := hg 11 (by simp); rwa [also_ne (by decide)] at this))
              exact ⟨hle2, _, _, _, _, _, hC.kept hF.2.1 (by simp; omega)⟩
            · exact ⟨hle, _, _, _, _, _, hF.1⟩
            · exact hW.get (k := 2) rfl (fun i hi => by simp at hi; rcases hi with rfl | rfl <;> first | exact hd12 | (have := hg 11 (by simp); rwa [also_ne (by decide)] at this))
            · have hC := hW.get (k := 3) rfl (fun i hi => by have h1 := hg i hi; simp at hi; rcases hi with rfl | rfl <;> rwa [also_ne (by decide)] at h1)
              have hne : bA ≠ bB := hW.get (k := 2) rfl (fun i hi => by simp at hi; rcases hi with rfl | rfl <;> first | exact hd12 | (have := hg 11 (by simp); rwa [also_ne (by decide)] at this))
              exact hC.kept hF.2.1 (by simp; omega)
            · exact hF.1
      · rintro D _ wg hall ⟨bA, bB, rfl, hW⟩
        have hf0 := hW.get (k := 0) rfl (fun i hi => hall i (by simp at hi; show i < 15; omega))
        have hf1 := hW.get (k := 1) rfl (fun i hi => hall i (by simp at hi; show i < 15; omega))
        have hf2 := hW.get (k := 2) rfl (fun i hi => hall i (by simp at hi; show i < 15; omega))
        have hf3 := hW.get (k := 3) rfl (fun i hi => hall i (by simp at hi; show i < 15; omega))
        have hf4 := hW.get (k := 4) rfl (fun i hi => hall i (by simp at hi; show i < 15; omega))
        have hbW := hW.bel
        rw [frC_all (fun e he => hall e.1 (by have h1 : e.1 ∈ (VC11 a3 x9 gA ac nk y9 gB ec n3 c3 ok ok2 va va2 ex1 ex2 ex3 fx lx vx en1 ec1 en2 ec2 en3 ec3 nT fc lc vc bA bB).map (·.1) := List.mem_map.2 ⟨e, he, rfl⟩; rw [VC11_idx] at h1; simp at h1; show e.1 < 15; omega))]
        have HBG : Hid (Blk wg bA 33 [.bool ok, .int .i64 va, .slice ex1 en1 ec1, .slice ex2 en2 ec2, .slice ex3 en3 ec3] ∧ Blk wg bB 33 [.bool ok2, .int .i64 va2, .slice fx nT fc, .slice lx nT lc, .slice vx nT vc] ∧ Bel w wg ∧ Bel wf wg) := Lib.hid ⟨hf3, hf4, HBF.out.trans hbW, hbW⟩
        rw [HA0.out]
        simp only [VC11, List.foldr_cons, List.foldr_nil, Act.put, List.setIfInBounds_toArray, List.set_cons_succ, List.set_cons_zero]
        clear hf0 hf1 hf2 hf3 hf4 hbW hW hall HA0 so10 so9 so11 so2 hsz HBF p0 p1 p2 p3 p4 r0 r1 r2 r3 r4 k2 j0 j1 j2 j3 wk wk2 jA
        have H0 : Hid ((wg.alloc (.cells #[] 37)).ownsRow wg.heap.size 37 3 (.slice (some ⟨wg.heap.size, 0, none⟩) 0 0) 0 (lnCells (T.take 0)) ∧ Bel wg (wg.alloc (.cells #[] 37))) := Lib.hid
          ⟨owns_empty wg wg.heap.size _ 3 _ rfl (Nat.le_refl _), (Bel.refl wg).alloc _⟩
        have r2 : (wg.alloc (.cells #[] 37)).cell? ⟨bB, 2, none⟩ = some (.slice fx nT fc) := H0.out.2.cell (HBG.out.2.1.cell 2)
        go_wp2
        generalize wg.alloc (.cells #[] 37) = w6 at H0 r2 ⊢
        clear r2
        generalize hB6 : wg.heap.size = B6 at H0 ⊢
        go_loopw [14, 109] (fun t i wq => ∃ q : Nat, q ≤ nT ∧ i = .int .i64 q ∧ wq.ownsRow B6 37 3 t q (lnCells (T.take q)) ∧ Bel wg wq) (fun _ i _ => nT - (intOf i).toNat)
        case atStart => exact ⟨0, Nat.zero_le _, rfl, H0.out⟩
        case round =>
          obtain ⟨q, hq, rfl, hS⟩ := hrel
          have HS7 := Lib.hid hS; clear hS H0
          have HZ : Hid (B6 ≤ wr.heap.size) := Lib.hid (by have := HS7.out.2.size; omega)
          by_cases hlq : q < nT
          · obtain ⟨hfc, hlc, hvc⟩ := HTC.out
            obtain ⟨fb, fo, rfl, kfc⟩ := hfc (by omega)
            obtain ⟨lb, lo, rfl, klc⟩ := hlc (by omega)
            obtain ⟨vb, vo, rfl, kvc⟩ := hvc (by omega)
            obtain ⟨e, he⟩ : ∃ e, T[q]? = some e := ⟨_, List.getElem?_eq_getElem (by rw [HNT.out]; exact hlq)⟩
            have d1 := (HBG.out.2.2.2.trans HS7.out.2).cell (kfc q e.file (by rw [List.getElem?_map, he]; rfl))
            have d2 := (HBG.out.2.2.2.trans HS7.out.2).cell (klc q e.line (by rw [List.getElem?_map, he]; rfl))
            have d3 := (HBG.out.2.2.2.trans HS7.out.2).cell (kvc q e.val (by rw [List.getElem?_map, he]; rfl))
            have r3 : wr.cell? ⟨bB, 3, none⟩ = some (.slice (some ⟨lb, lo, none⟩) nT lc) := (HBG.out.2.1.bel HS7.out.2).cell 3
            have r4 : wr.cell? ⟨bB, 4, none⟩ = some (.slice (some ⟨vb, vo, none⟩) nT vc) := (HBG.out.2.1.bel HS7.out.2).cell 4
            have HTQ : Hid (lnCells (T.take (q + 1)) = lnCells (T.take q) ++ [.int .i64 e.file, .int .i64 e.line, .int .i64 e.val]) := Lib.hid (by
              rw [List.take_add_one, he, Option.toList_some, lnCells_append]; rfl)
            have HCL := Lib.hid (And.intro HBG.out.2.1.lt (And.intro (World.block_lt_of_cell? wg _ (HBG.out.2.2.2.cell (klc q e.line (by rw [List.getElem?_map, he]; rfl)))) (World.block_lt_of_cell? wg _ (HBG.out.2.2.2.cell (kvc q e.val (by rw [List.getElem?_map, he]; rfl))))))
            have j0 : (0 : Int) ≤ (q : Int) := by omega
            have j1 : (q : Int) < (nT : Int) := by omega
            clear hfc hlc hvc kfc klc kvc he
            go_upto_region 16 with (fail)
            obtain ⟨f, l, x⟩ := e
            simp only at d1 d2 d3 HTQ
            have HNB : Hid (∀ g, g < wg.heap.size → g ∉ u14.ownBlock.toList) := Lib.hid (fun g hg hm => by
              have h1 := (HS7.out.1.lt g (by simpa using hm)).1
              omega)
            have HEI : Hid (ZI 13 14 wr B6 q (lnCells (T.take q)) u14 f l x (fun _ => false) 0 (.bool false) wr.drew) := Lib.hid
              ⟨(Kept.refl _ wr).drew, fun _ => own_bel HS7.out.1 (Bel.refl wr).drew, (fun h => by cases h), (fun h => by cases h)⟩
            refine act_name (fun a0 ha0 => ?_)
            have so14 : a0.eval (.tmp 14) = u14 := by rw [ha0]; rfl
            have so16 : a0.eval (.tmp 16) = .int .i64 f := by rw [ha0]; rfl
            have so13 : a0.eval (.tmp 13) = .pointer (some ⟨bB, 0, none⟩) := by rw [ha0]; rfl
            have so15 : a0.eval (.tmp 15) = .int .i64 (q : Int) := by rw [ha0]; rfl
            have hsz : a0.tmps.size = 133 := by rw [ha0]; rfl
            have HA0 := Lib.hid ha0; clear ha0
            refine region_obs3 (fun D a' W => ∃ (b : Nat) (v : Value), a' = frC a0 D (VC16 u14 f l x bB nT lb lo lc q vb vo vc b v) ∧ ZI 13 14 wr B6 q (lnCells (T.take q)) u14 f l x D b v W) (by kernel_rfl) (by kernel_rfl) ⟨0, .bool false, (frC_none _ _).symm, HEI.out⟩ ?_ ?_
            · refine ⟨?_, ?_, ?_, ?_, ?_, ?_, ?_, ?_, ?_, ?_, ?_, ?_, ?_, ?_, ?_, ?_, trivial⟩
              · rintro D _ W hD hcl hdeps ⟨b, v, rfl, hW⟩
                have hm15 : D 15 = false := by cases h : D 15; rfl; have := hcl 15 _ rfl h ⟨0, .phase⟩ (by simp) rfl; rw [hD] at this; cases this
                have e14 := ev_get ((frC_wait (a0 := a0) (D := D) (t := 14) (vs := VC16 u14 f l x bB nT lb lo lc q vb vo vc b v) (fun e he ht => by simp only [VC16, List.mem_cons, List.not_mem_nil, or_false] at he; rcases he with rfl | rfl | rfl | rfl | rfl | rfl | rfl | rfl | rfl | rfl | rfl | rfl | rfl | rfl | rfl | rfl <;> first | exact hm15 | (simp at ht))).trans so14)
                refine ob_val rfl (v := u14) (by simp [execOp, go_sem, e14]) ⟨b, v, frC_put hD (by simp [VC16]) (VC16_nd _ _ _ _ _ _ _ _ _ _ _ _ _ _ _) (VC16_nd' _ _ _ _ _ _ _ _ _ _ _ _ _ _ _), hW.quiet (by decide) (by decide)⟩
              · rintro D _ W hD hcl hdeps ⟨b, v, rfl, hW⟩
                have e16 := ev_get ((frC_out (a0 := a0) (D := D) (VC16_not16 u14 f l x bB nT lb lo lc q vb vo vc b v)).trans so16)
                refine ob_val rfl (v := .int .i64 f) (by simp [execOp, go_sem, e16]) ⟨b, v, frC_put hD (by simp [VC16]) (VC16_nd _ _ _ _ _ _ _ _ _ _ _ _ _ _ _) (VC16_nd' _ _ _ _ _ _ _ _ _ _ _ _ _ _ _), hW.quiet (by decide) (by decide)⟩
              · rintro D _ W hD hcl hdeps ⟨b, v, rfl, hW⟩
                have e13 := ev_get ((frC_out (a0 := a0) (D := D) (VC16_not13 u14 f l x bB nT lb lo lc q vb vo vc b v)).trans so13)
                refine ob_val rfl (v := .pointer (some ⟨bB, 3, none⟩)) (by simp [execOp, go_sem, e13]) ⟨b, v, frC_put hD (by simp [VC16]) (VC16_nd _ _ _ _ _ _ _ _ _ _ _ _ _ _ _) (VC16_nd' _ _ _ _ _ _ _ _ _ _ _ _ _ _ _), hW.quiet (by decide) (by decide)⟩
              · rintro D _ W hD hcl hdeps ⟨b, v, rfl, hW⟩
                have hd2 : D 2 = true := hdeps ⟨2, .data⟩ (by simp) rfl
                have e116 := ev_get (frC_in (v := .pointer (some ⟨bB, 3, none⟩)) hd2 (show 116 < a0.tmps.size by rw [hsz]; decide) (vs := VC16 u14 f l x bB nT lb lo lc q vb vo vc b v) (by simp [VC16]) (VC16_nd _ _ _ _ _ _ _ _ _ _ _ _ _ _ _))
                have z0 := hW.kp.cell r3 (HNB.out _ HCL.out.1)
                refine ob_val rfl (v := .slice (some ⟨lb, lo, none⟩) nT lc) (by simp [execOp, go_sem, e116, z0]) ⟨b, v, frC_put hD (by simp [VC16]) (VC16_nd _ _ _ _ _ _ _ _ _ _ _ _ _ _ _) (VC16_nd' _ _ _ _ _ _ _ _ _ _ _ _ _ _ _), hW.quiet (by decide) (by decide)⟩
              · rintro D _ W hD hcl hdeps ⟨b, v, rfl, hW⟩
                have e15 := ev_get ((frC_out (a0 := a0) (D := D) (VC16_not15 u14 f l x bB nT lb lo lc q vb vo vc b v)).trans so15)
                refine ob_val rfl (v := .int .i64 (q : Int)) (by simp [execOp, go_sem, e15]) ⟨b, v, frC_put hD (by simp [VC16]) (VC16_nd _ _ _ _ _ _ _ _ _ _ _ _ _ _ _) (VC16_nd' _ _ _ _ _ _ _ _ _ _ _ _ _ _ _), hW.quiet (by decide) (by decide)⟩
              · rintro D _ W hD hcl hdeps ⟨b, v, rfl, hW⟩
                have hd3 : D 3 = true := hdeps ⟨3, .data⟩ (by simp) rfl
                have e117 := ev_get (frC_in (v := .slice (some ⟨lb, lo, none⟩) nT lc) hd3 (show 117 < a0.tmps.size by rw [hsz]; decide) (vs := VC16 u14 f l x bB nT lb lo lc q vb vo vc b v) (by simp [VC16]) (VC16_nd _ _ _ _ _ _ _ _ _ _ _ _ _ _ _))
                have hd4 : D 4 = true := hdeps ⟨4, .data⟩ (by simp) rfl
                have e118 := ev_get (frC_in (v := .int .i64 (q : Int)) hd4 (show 118 < a0.tmps.size by rw [hsz]; decide) (vs := VC16 u14 f l x bB nT lb lo lc q vb vo vc b v) (by simp [VC16]) (VC16_nd _ _ _ _ _ _ _ _ _ _ _ _ _ _ _))
                refine ob_val rfl (v := .pointer (some ⟨lb, lo + q, none⟩)) (by simp [execOp, go_sem, e117, e118, j0, j1]) ⟨b, v, frC_put hD (by simp [VC16]) (VC16_nd _ _ _ _ _ _ _ _ _ _ _ _ _ _ _) (VC16_nd' _ _ _ _ _ _ _ _ _ _ _ _ _ _ _), hW.quiet (by decide) (by decide)⟩
              · rintro D _ W hD hcl hdeps ⟨b, v, rfl, hW⟩
                have hd5 : D 5 = true := hdeps ⟨5, .data⟩ (by simp) rfl
                have e119 := ev_get (frC_in (v := .pointer (some ⟨lb, lo + q, none⟩)) hd5 (show 119 < a0.tmps.size by rw [hsz]; decide) (vs := VC16 u14 f l x bB nT lb lo lc q vb vo vc b v) (by simp [VC16]) (VC16_nd _ _ _ _ _ _ _ _ _ _ _ _ _ _ _))
                have z0 := hW.kp.cell d2 (HNB.out _ HCL.out.2.1)
                refine ob_val rfl (v := .int .i64 l) (by simp [execOp, go_sem, e119, z0]) ⟨b, v, frC_put hD (by simp [VC16]) (VC16_nd _ _ _ _ _ _ _ _ _ _ _ _ _ _ _) (VC16_nd' _ _ _ _ _ _ _ _ _ _ _ _ _ _ _), hW.quiet (by decide) (by decide)⟩
              · rintro D _ W hD hcl hdeps ⟨b, v, rfl, hW⟩
                have e13 := ev_get ((frC_out (a0 := a0) (D := D) (VC16_not13 u14 f l x bB nT lb lo lc q vb vo vc b v)).trans so13)
                refine ob_val rfl (v := .pointer (some ⟨bB, 4, none⟩)) (by simp [execOp, go_sem, e13]) ⟨b, v, frC_put hD (by simp [VC16]) (VC16_nd _ _ _ _ _ _ _ _ _ _ _ _ _ _ _) (VC16_nd' _ _ _ _ _ _ _ _ _ _ _ _ _ _ _), hW.quiet (by decide) (by decide)⟩
              · rintro D _ W hD hcl hdeps ⟨b, v, rfl, hW⟩
                have hd7 : D 7 = true := hdeps ⟨7, .data⟩ (by simp) rfl
                have e121 := ev_get (frC_in (v := .pointer (some ⟨bB, 4, none⟩)) hd7 (show 121 < a0.tmps.size by rw [hsz]; decide) (vs := VC16 u14 f l x bB nT lb lo lc q vb vo vc b v) (by simp [VC16]) (VC16_nd _ _ _ _ _ _ _ _ _ _ _ _ _ _ _))
                have z0 := hW.kp.cell r4 (HNB.out _ HCL.out.1)
                refine ob_val rfl (v := .slice (some ⟨vb, vo, none⟩) nT vc) (by simp [execOp, go_sem, e121, z0]) ⟨b, v, frC_put hD (by simp [VC16]) (VC16_nd _ _ _ _ _ _ _ _ _ _ _ _ _ _ _) (VC16_nd' _ _ _ _ _ _ _ _ _ _ _ _ _ _ _), hW.quiet (by decide) (by decide)⟩
              · rintro D _ W hD hcl hdeps ⟨b, v, rfl, hW⟩
                have e15 := ev_get ((frC_out (a0 := a0) (D := D) (VC16_not15 u14 f l x bB nT lb lo lc q vb vo vc b v)).trans so15)
                refine ob_val rfl (v := .int .i64 (q : Int)) (by simp [execOp, go_sem, e15]) ⟨b, v, frC_put hD (by simp [VC16]) (VC16_nd _ _ _ _ _ _ _ _ _ _ _ _ _ _ _) (VC16_nd' _ _ _ _ _ _ _ _ _ _ _ _ _ _ _), hW.quiet (by decide) (by decide)⟩
              · rintro D _ W hD hcl hdeps ⟨b, v, rfl, hW⟩
                have hd8 : D 8 = true := hdeps ⟨8, .data⟩ (by simp) rfl
                have e122 := ev_get (frC_in (v := .slice (some ⟨vb, vo, none⟩) nT vc) hd8 (show 122 < a0.tmps.size by rw [hsz]; decide) (vs := VC16 u14 f l x bB nT lb lo lc q vb vo vc b v) (by simp [VC16]) (VC16_nd _ _ _ _ _ _ _ _ _ _ _ _ _ _ _))
                have hd9 : D 9 = true := hdeps ⟨9, .data⟩ (by simp) rfl
                have e123 := ev_get (frC_in (v := .int .i64 (q : Int)) hd9 (show 123 < a0.tmps.size by rw [hsz]; decide) (vs := VC16 u14 f l x bB nT lb lo lc q vb vo vc b v) (by simp [VC16]) (VC16_nd _ _ _ _ _ _ _ _ _ _ _ _ _ _ _))
                refine ob_val rfl (v := .pointer (some ⟨vb, vo + q, none⟩)) (by simp [execOp, go_sem, e122, e123, j0, j1]) ⟨b, v, frC_put hD (by simp [VC16]) (VC16_nd _ _ _ _ _ _ _ _ _ _ _ _ _ _ _) (VC16_nd' _ _ _ _ _ _ _ _ _ _ _ _ _ _ _), hW.quiet (by decide) (by decide)⟩
              · rintro D _ W hD hcl hdeps ⟨b, v, rfl, hW⟩
                have hd10 : D 10 = true := hdeps ⟨10, .data⟩ (by simp) rfl
                have e124 := ev_get (frC_in (v := .pointer (some ⟨vb, vo + q, none⟩)) hd10 (show 124 < a0.tmps.size by rw [hsz]; decide) (vs := VC16 u14 f l x bB nT lb lo lc q vb vo vc b v) (by simp [VC16]) (VC16_nd _ _ _ _ _ _ _ _ _ _ _ _ _ _ _))
                have z0 := hW.kp.cell d3 (HNB.out _ HCL.out.2.2)
                refine ob_val rfl (v := .int .i64 x) (by simp [execOp, go_sem, e124, z0]) ⟨b, v, frC_put hD (by simp [VC16]) (VC16_nd _ _ _ _ _ _ _ _ _ _ _ _ _ _ _) (VC16_nd' _ _ _ _ _ _ _ _ _ _ _ _ _ _ _), hW.quiet (by decide) (by decide)⟩
              · rintro D _ W hD hcl hdeps ⟨b, v, rfl, hW⟩
                have hd1 : D 1 = true := hdeps ⟨1, .data⟩ (by simp) rfl
                have e115 := ev_get (frC_in (v := .int .i64 f) hd1 (show 115 < a0.tmps.size by rw [hsz]; decide) (vs := VC16 u14 f l x bB nT lb lo lc q vb vo vc b v) (by simp [VC16]) (VC16_nd _ _ _ _ _ _ _ _ _ _ _ _ _ _ _))
                have hd6 : D 6 = true := hdeps ⟨6, .data⟩ (by simp) rfl
                have e120 := ev_get (frC_in (v := .int .i64 l) hd6 (show 120 < a0.tmps.size by rw [hsz]; decide) (vs := VC16 u14 f l x bB nT lb lo lc q vb vo vc b v) (by simp [VC16]) (VC16_nd _ _ _ _ _ _ _ _ _ _ _ _ _ _ _))
                have hd11 : D 11 = true := hdeps ⟨11, .data⟩ (by simp) rfl
                have e125 := ev_get (frC_in (v := .int .i64 x) hd11 (show 125 < a0.tmps.size by rw [hsz]; decide) (vs := VC16 u14 f l x bB nT lb lo lc q vb vo vc b v) (by simp [VC16]) (VC16_nd _ _ _ _ _ _ _ _ _ _ _ _ _ _ _))
                refine ob_val rfl (v := .agg #[.int .i64 f, .int .i64 l, .int .i64 x]) (by simp [execOp, go_sem, e115, e120, e125]) ⟨b, v, frC_put hD (by simp [VC16]) (VC16_nd _ _ _ _ _ _ _ _ _ _ _ _ _ _ _) (VC16_nd' _ _ _ _ _ _ _ _ _ _ _ _ _ _ _), hW.quiet (by decide) (by decide)⟩
              · rintro D _ W hD hcl hdeps ⟨b, v, rfl, hW⟩
                have hd12 : D 12 = true := hdeps ⟨12, .data⟩ (by simp) rfl
                have e126 := ev_get (frC_in (v := .agg #[.int .i64 f, .int .i64 l, .int .i64 x]) hd12 (show 126 < a0.tmps.size by rw [hsz]; decide) (vs := VC16 u14 f l x bB nT lb lo lc q vb vo vc b v) (by simp [VC16]) (VC16_nd _ _ _ _ _ _ _ _ _ _ _ _ _ _ _))
                refine ob_val rfl (v := .slice (some ⟨W.heap.size, 0, none⟩) 1 1) (w' := W.alloc (.cells #[.int .i64 f, .int .i64 l, .int .i64 x] 37)) (by simp [execOp, go_sem, e126]) ⟨W.heap.size, v, by rw [show frC a0 D (VC16 u14 f l x bB nT lb lo lc q vb vo vc b v) = frC a0 D (VC16 u14 f l x bB nT lb lo lc q vb vo vc (W.heap.size) v) from by simp only [VC16, frC, hD, Bool.false_eq_true, if_false]]; exact frC_put hD (by simp [VC16]) (VC16_nd _ _ _ _ _ _ _ _ _ _ _ _ _ _ _) (VC16_nd' _ _ _ _ _ _ _ _ _ _ _ _ _ _ _), hW.box (by decide)⟩
              · rintro D _ W hD hcl hdeps ⟨b, v, rfl, hW⟩
                have hd0 : D 0 = true := hdeps ⟨0, .data⟩ (by simp) rfl
                have E114 := frC_in (v := u14) hd0 (show 114 < a0.tmps.size by rw [hsz]; decide) (vs := VC16 u14 f l x bB nT lb lo lc q vb vo vc b v) (by simp [VC16]) (VC16_nd _ _ _ _ _ _ _ _ _ _ _ _ _ _ _)
                have hd13 : D 13 = true := hdeps ⟨13, .data⟩ (by simp) rfl
                have E127 := frC_in (v := .slice (some ⟨b, 0, none⟩) 1 1) hd13 (show 127 < a0.tmps.size by rw [hsz]; decide) (vs := VC16 u14 f l x bB nT lb lo lc q vb vo vc b v) (by simp [VC16]) (VC16_nd _ _ _ _ _ _ _ _ _ _ _ _ _ _ _)
                refine step_app elLn rfl (.tmp 114) (.tmp 127) rfl B6 u14 q (lnCells (T.take q)) E114 (hW.old hD) b [.int .i64 f, .int .i64 l, .int .i64 x] E127 (hW.blk hd13 hD) rfl (by simp [Value.oneCell']) (by omega) (by omega) (Nat.le_trans HZ.out hW.kp.size) ?_
                intro g7 cap7 w7 ho7 hg7 _ _
                have hn15 : D 15 = false := by cases h : D 15; rfl; have := hcl 15 _ rfl h ⟨14, .data⟩ (by simp) rfl; rw [hD] at this; cases this
                exact ⟨b, .slice (some ⟨g7, 0, none⟩) (q + 1) cap7, by rw [show frC a0 D (VC16 u14 f l x bB nT lb lo lc q vb vo vc b v) = frC a0 D (VC16 u14 f l x bB nT lb lo lc q vb vo vc b (.slice (some ⟨g7, 0, none⟩) (q + 1) cap7)) from by simp only [VC16, frC, hD, hn15, Bool.false_eq_true, if_false]]; exact frC_put hD (by simp [VC16]) (VC16_nd _ _ _ _ _ _ _ _ _ _ _ _ _ _ _) (VC16_nd' _ _ _ _ _ _ _ _ _ _ _ _ _ _ _), hW.app ho7 hg7⟩
              · rintro D _ W hD hcl hdeps ⟨b, v, rfl, hW⟩
                have hd14 : D 14 = true := hdeps ⟨14, .data⟩ (by simp) rfl
                have e128 := ev_get (frC_in (v := v) hd14 (show 128 < a0.tmps.size by rw [hsz]; decide) (vs := VC16 u14 f l x bB nT lb lo lc q vb vo vc b v) (by simp [VC16]) (VC16_nd _ _ _ _ _ _ _ _ _ _ _ _ _ _ _))
                refine ob_val rfl (v := v) (by simp [execOp, go_sem, e128]) ⟨b, v, frC_put hD (by simp [VC16]) (VC16_nd _ _ _ _ _ _ _ _ _ _ _ _ _ _ _) (VC16_nd' _ _ _ _ _ _ _ _ _ _ _ _ _ _ _), hW.quiet (by decide) (by decide)⟩
            · rintro D _ w8 hall ⟨b, v, rfl, hW⟩
              rw [frC_all (fun e he => hall e.1 (by have h1 : e.1 ∈ (VC16 u14 f l x bB nT lb lo lc q vb vo vc b v).map (·.1) := List.mem_map.2 ⟨e, he, rfl⟩; rw [VC16_idx] at h1; simp at h1; show e.1 < 16; omega))]
              have HN8 : Hid (w8.ownsRow B6 37 3 v (q + 1) (lnCells (T.take (q + 1))) ∧ Bel wg w8) := Lib.hid (by
                refine ⟨by rw [HTQ.out]; exact hW.new (hall 14 (by decide)), HS7.out.2.kept hW.kp (fun k hk => ?_)⟩
                have := (HS7.out.1.lt k (by simpa using hk)).1
                omega)
              rw [HA0.out]
              simp only [VC16, List.foldr_cons, List.foldr_nil, Act.put, List.setIfInBounds_toArray, List.set_cons_succ, List.set_cons_zero]
              clear hW hall HA0 so14 so16 so13 so15 hsz HEI HNB HCL HS7 d1 d2 d3 r3 r4 j0 j1
              go_wp2
              go_roundw
              case rel => exact ⟨q + 1, by omega, by go_num, HN8.out⟩
              case measure => simp [intOf]; omega
          · obtain rfl : q = nT := by omega
            have HE9 : Hid (LnS wr u14 T) := Lib.hid (by
              have h1 := HS7.out.1
              rw [List.take_of_length_le (by rw [HNT.out]; exact Nat.le_refl _)] at h1
              exact LnS.own h1)
            have hbf := HBG.out.2.2.2.trans HS7.out.2
            have HSL := Lib.hid (sameLines_right u14 T (.bool ok) (.int .i64 va) (.slice ex1 en1 ec1) (.slice ex2 en2 ec2) (.slice ex3 en3 ec3) pz.files pz.lines pz.vals wr HE9.out (HIA.out.1.bel hbf) (HIA.out.2.1.bel hbf) (HIA.out.2.2.bel hbf) HSQ.out)
            have HBE := Lib.hid (HBG.out.2.2.1.trans HS7.out.2)
            have m0 : wr.cell? ⟨bA, 0, none⟩ = some (.bool ok) := (HBG.out.1.bel HS7.out.2).cell 0
            have m1 : wr.cell? ⟨bA, 1, none⟩ = some (.int .i64 va) := (HBG.out.1.bel HS7.out.2).cell 1
            have m2 : wr.cell? ⟨bA, 2, none⟩ = some (.slice ex1 en1 ec1) := (HBG.out.1.bel HS7.out.2).cell 2
            have m3 : wr.cell? ⟨bA, 3, none⟩ = some (.slice ex2 en2 ec2) := (HBG.out.1.bel HS7.out.2).cell 3
            have m4 : wr.cell? ⟨bA, 4, none⟩ = some (.slice ex3 en3 ec3) := (HBG.out.1.bel HS7.out.2).cell 4
            clear hbf HS7
            go_wp2_with fail
            refine HSL.out.mono ?_
            rintro e w9 ⟨rfl, hb9⟩
            have HB9 := Lib.hid (HBE.out.trans hb9)
            clear hb9 m0 m1 m2 m3 m4 HSL HBE
            go_wp2
            go_ret
            exact ⟨rfl, HB9.out⟩
end Go.Proofs.Ytangceejmjklcaa
