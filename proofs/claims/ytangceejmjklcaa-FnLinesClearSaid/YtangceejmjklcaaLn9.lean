/- Foreach; impl.lineStep: one step over a map of lines. -/
import Derived.Test.YtangceejmjklcaaLn8
namespace Go.Proofs.Ytangceejmjklcaa
open Go.RowKit Go.BigFrame

theorem lForeach_any {w : World} {B B2 x m o : Nat} {F : Nat → FileS} {d : Nat → List Pl.Ent} (h : LnW w B x m F d) {ok va : Value} (ho : OutW w B2 o ok va [] [] []) :
    Calls Try.prog 31 #[mptr x, .func (Fn.func 32) #[] #[mptr o]] w fun e w' => (∃ u, e = .returned u) ∧ LnW w' B x m F d ∧ KT outT B2 w w' ∧ ∃ q, q.Perm (List.range m) ∧ OutW w' B2 o ok va (Pl.entF d q) (Pl.entL (fun i => (F i).f) d q) (Pl.entV d q) := by
  have H := Lib.hid (lforeach0 h ho)
  clear h ho
  go_enter Try.func31, Try.ntmps31
  go_wp2_with fail
  refine H.out.mono ?_
  rintro e w2 ⟨⟨u, rfl⟩, hs⟩
  have HS := Lib.hid hs; clear hs
  go_wp2
  go_end0
  exact ⟨⟨_, rfl⟩, HS.out⟩

namespace Pl
structure LStep where
  kind : Int
  file : Int
  line : Int
  col : Int
  val : Int
structure LAns where
  ok : Bool
  val : Int
  files : List Int
  lines : List Int
  vals : List Int
def lans0 : LAns := ⟨false, 0, [], [], []⟩
/-- What a step makes of the maps of m files (file i has ns i lines from fs i on). -/
def lineD (fs : Nat → Int) (ns : Nat → Nat) (d : Nat → List Ent) (i : Nat) (s : LStep) : Nat → List Ent :=
  if s.kind = 0 then upd d i (bputE (ns i) (fs i) (d i) s.line s.val) else if s.kind = 8 then upd d i (bputE (ns i) (fs i) (d i) s.line 0)
  else if s.kind = 1 then upd d i (outE (d i) (s.line - fs i)) else if s.kind = 5 then fun _ => [] else d
/-- .. and what it answers; the files told are the table's, from 1 on. -/
def lineA (fs : Nat → Int) (m : Nat) (d : Nat → List Ent) (i : Nat) (s : LStep) (a : LAns) : Prop :=
  if s.kind = 2 then a = ⟨hasB (shE (fs i) (d i)) s.line, 0, [], [], []⟩ else if s.kind = 3 then a = ⟨hasB (shE (fs i) (d i)) s.line, getV (shE (fs i) (d i)) s.line, [], [], []⟩
  else if s.kind = 7 then ∃ q, q.Perm (List.range m) ∧ a = ⟨false, 0, entF d q, entL fs d q, entV d q⟩ else a = lans0
end Pl
def stepV (s : Pl.LStep) : Value := .agg #[.int .i64 s.kind, .int .i64 s.file, .int .i64 s.line, .int .i64 s.col, .int .i64 s.val]
/-- An answer's value: its three rows are own memory, the first one apart from the others. -/
def AnsR (w : World) (B : Nat) (v : Value) (a : Pl.LAns) : Prop :=
  ∃ n u1 u2 u3, v = .agg #[.bool a.ok, .int .i64 a.val, u1, u2, u3] ∧ w.ownsRow B 2 1 u1 n (a.files.map (Value.int .i64)) ∧ w.ownsRow B 2 1 u2 n (a.lines.map (Value.int .i64)) ∧ w.ownsRow B 2 1 u3 n (a.vals.map (Value.int .i64)) ∧ Dj u1 u2 ∧ Dj u1 u3 ∧ Dj u2 u3
theorem AnsR.plain (w : World) (B : Nat) (ok : Bool) (va : Int) : AnsR w B (.agg #[.bool ok, .int .i64 va, .slice none 0 0, .slice none 0 0, .slice none 0 0]) ⟨ok, va, [], [], []⟩ :=
  ⟨0, _, _, _, rfl, World.ownsRow_nil _ _ _ _, World.ownsRow_nil _ _ _ _, World.ownsRow_nil _ _ _ _, fun q hq => by simp [Value.ownBlock] at hq, fun q hq => by simp [Value.ownBlock] at hq, fun q hq => by simp [Value.ownBlock] at hq⟩
theorem five {W : World} {b : Nat} {c0 c1 c2 c3 c4 : Value} (h : Blk W b 33 [c0, c1, c2, c3, c4]) (v0 v1 v2 v3 v4 : Value) :
    Blk (((((W.setCell ⟨b, 0, none⟩ v0).setCell ⟨b, 1, none⟩ v1).setCell ⟨b, 2, none⟩ v2).setCell ⟨b, 3, none⟩ v3).setCell ⟨b, 4, none⟩ v4) b 33 [v0, v1, v2, v3, v4] ∧
    Kept [b] W (((((W.setCell ⟨b, 0, none⟩ v0).setCell ⟨b, 1, none⟩ v1).setCell ⟨b, 2, none⟩ v2).setCell ⟨b, 3, none⟩ v3).setCell ⟨b, 4, none⟩ v4) ∧
    KT outT b W (((((W.setCell ⟨b, 0, none⟩ v0).setCell ⟨b, 1, none⟩ v1).setCell ⟨b, 2, none⟩ v2).setCell ⟨b, 3, none⟩ v3).setCell ⟨b, 4, none⟩ v4) := by
  have hk : Kept [b] W (((((W.setCell ⟨b, 0, none⟩ v0).setCell ⟨b, 1, none⟩ v1).setCell ⟨b, 2, none⟩ v2).setCell ⟨b, 3, none⟩ v3).setCell ⟨b, 4, none⟩ v4) :=
    (((((Kept.refl _ W).setCell (p := ⟨b, 0, none⟩) (.inl (by simp)) _).setCell (p := ⟨b, 1, none⟩) (.inl (by simp)) _).setCell (p := ⟨b, 2, none⟩) (.inl (by simp)) _).setCell (p := ⟨b, 3, none⟩) (.inl (by simp)) _).setCell (p := ⟨b, 4, none⟩) (.inl (by simp)) _
  exact ⟨((((h.set 0 v0).set 1 v1).set 2 v2).set 3 v3).set 4 v4, hk, KT.of_kept hk (fun i hi => by simp at hi; subst hi; exact .inr ⟨Nat.le_refl _, _, _, _, h, by simp [outT]⟩)⟩
/-- Behind a frame of the maps' types a frame that begins behind all that was there. -/
theorem KT.onto {T U : List TypeId} {B C : Nat} {a b c : World} (h : KT T B a b) (k : KT U C b c) (hC : a.heap.size ≤ C) : KT T B a c :=
  ⟨k.os.trans h.os, k.tape.trans h.tape, k.output.trans h.output, Nat.le_trans h.size k.size, fun i o hi hs => k.block i o (h.block i o hi hs) (.inl (by have := lt_of_block hi; omega))⟩
theorem LnW.out {w w' : World} {B B2 x m : Nat} {F : Nat → FileS} {d : Nat → List Pl.Ent} (h : LnW w B x m F d) (hk : KT outT B2 w w') : LnW w' B x m F d := by
  obtain ⟨vd, bm, p, h⟩ := h
  exact ⟨vd, bm, p, h.out hk⟩
theorem getV_val32 {d : List Pl.Ent} (h : ∀ e ∈ d, Val32 e.2) (x : Int) : Val32 (getV d x) := by
  unfold getV
  cases hf : d.find? (fun e => decide (e.1 = x)) with
  | none => exact ⟨by decide, by decide⟩
  | some e => exact h e (List.mem_of_find?_eq_some hf)
theorem LnW.val32 {w : World} {B x m : Nat} {F : Nat → FileS} {d : Nat → List Pl.Ent} (h : LnW w B x m F d) {i : Nat} (hi : i < m) (y : Int) : Val32 (getV (shE (F i).f (d i)) y) := by
  obtain ⟨vd, bm, p, hM⟩ := h
  obtain ⟨sp, hs⟩ := hM.hb i hi
  rw [getV_sh]
  exact getV_val32 hs.hm.hz _
/-- What a step leaves. -/
def StepTo (w : World) (B x m : Nat) (F : Nat → FileS) (d : Nat → List Pl.Ent) (i : Nat) (s : Pl.LStep) (e : Ending) (w' : World) : Prop :=
  ∃ v a, e = .returned v ∧ AnsR w' w.heap.size v a ∧ Pl.lineA (fun i => (F i).f) m d i s a ∧ LnW w' B x m F (Pl.lineD (fun i => (F i).f) (fun i => (F i).n) d i s) ∧ KT lnT B w w'

set_option maxRecDepth 100000 in
set_option maxHeartbeats 4000000 in
theorem step_0 {w : World} {B x m : Nat} {F : Nat → FileS} {d : Nat → List Pl.Ent} (h : LnW w B x m F d) {i : Nat} (hi : i < m) {lc : Int} (h0 : 0 ≤ lc) (h1 : lc < 4294967296) {kd fl ln co va : Int} (hl : lc / 4096 = ln) (hv : Val32 va) (hkd : kd = 0) :
    Calls Try.prog 17 #[mptr x, xpos i lc, stepV ⟨kd, fl, ln, co, va⟩] w (StepTo w B x m F d i ⟨kd, fl, ln, co, va⟩) := by
  have e0 : (kd == 0) = true := by simp; omega
  have iv : IntKind.i32.wrap va = va := IntWalk.i32_in _ (by unfold Val32 at hv; omega)
  have HV := Lib.hid hv; clear hv
  have HKD := Lib.hid hkd; clear hkd
  unfold stepV
  dsimp only
  have HCALL := Lib.hid (fun (w1 : World) (h : LnW w1 B x m F d) => lSet_any h hi h0 h1 HV.out)
  have HL := Lib.hid h; clear h
  rw [hl] at HCALL
  unfold xpos at HCALL ⊢
  generalize hkk : (i : Int) + 1 = k at HCALL ⊢
  clear hkk
  have hb0 : Bel w (((w.alloc (.cells #[.int .i32 k, .int .u32 lc] 58)).alloc (.cells #[.int .i64 kd, .int .i64 fl, .int .i64 ln, .int .i64 co, .int .i64 va] 29)).alloc (.cells #[.bool false, .int .i64 0, .slice none 0 0, .slice none 0 0, .slice none 0 0] 33)) := (((Bel.refl w).alloc _).alloc _).alloc _
  have hB3 : Blk (((w.alloc (.cells #[.int .i32 k, .int .u32 lc] 58)).alloc (.cells #[.int .i64 kd, .int .i64 fl, .int .i64 ln, .int .i64 co, .int .i64 va] 29)).alloc (.cells #[.bool false, .int .i64 0, .slice none 0 0, .slice none 0 0, .slice none 0 0] 33)) (w.heap.size + 1 + 1) 33 [.bool false, .int .i64 0, .slice none 0 0, .slice none 0 0, .slice none 0 0] := by
    have := Blk.new ((w.alloc (.cells #[.int .i32 k, .int .u32 lc] 58)).alloc (.cells #[.int .i64 kd, .int .i64 fl, .int .i64 ln, .int .i64 co, .int .i64 va] 29)) 33 [.bool false, .int .i64 0, .slice none 0 0, .slice none 0 0, .slice none 0 0]
    rwa [World.size_alloc, World.size_alloc] at this
  have HW := Lib.hid (And.intro hb0 hB3)
  clear hb0 hB3
  go_enter Try.func17, Try.ntmps17
  go_wp2_with fail
  generalize ((w.alloc (.cells #[.int .i32 k, .int .u32 lc] 58)).alloc (.cells #[.int .i64 kd, .int .i64 fl, .int .i64 ln, .int .i64 co, .int .i64 va] 29)).alloc (.cells #[.bool false, .int .i64 0, .slice none 0 0, .slice none 0 0, .slice none 0 0] 33) = w1 at HW ⊢
  refine (HCALL.out _ (HL.out.bel HW.out.1)).mono ?_
  rintro e w2 ⟨⟨u, rfl⟩, hL2, hk2⟩
  have hB4 := HW.out.2.kt hk2 (.inl (by decide))
  have HK := Lib.hid ((KT.of_bel HW.out.1).trans hk2)
  have HL2 := Lib.hid hL2
  have HB4 := Lib.hid hB4
  have m0 : w2.cell? ⟨w.heap.size + 1 + 1, 0, none⟩ = some (.bool false) := hB4.cell 0
  have m1 : w2.cell? ⟨w.heap.size + 1 + 1, 1, none⟩ = some (.int .i64 0) := hB4.cell 1
  have m2 : w2.cell? ⟨w.heap.size + 1 + 1, 2, none⟩ = some (.slice none 0 0) := hB4.cell 2
  have m3 : w2.cell? ⟨w.heap.size + 1 + 1, 3, none⟩ = some (.slice none 0 0) := hB4.cell 3
  have m4 : w2.cell? ⟨w.heap.size + 1 + 1, 4, none⟩ = some (.slice none 0 0) := hB4.cell 4
  have n0 := hB4.frozen 0
  have n1 := hB4.frozen 1
  have n2 := hB4.frozen 2
  have n3 := hB4.frozen 3
  have n4 := hB4.frozen 4
  clear hB4 hk2 hL2 HCALL HL HW
  go_wp2
  have HF := Lib.hid (five HB4.out (.bool false) (.int .i64 0) (.slice none 0 0) (.slice none 0 0) (.slice none 0 0))
  generalize ((((w2.setCell ⟨w.heap.size + 1 + 1, 0, none⟩ (.bool false)).setCell ⟨w.heap.size + 1 + 1, 1, none⟩ (.int .i64 0)).setCell ⟨w.heap.size + 1 + 1, 2, none⟩ (.slice none 0 0)).setCell ⟨w.heap.size + 1 + 1, 3, none⟩ (.slice none 0 0)).setCell ⟨w.heap.size + 1 + 1, 4, none⟩ (.slice none 0 0) = w3 at HF ⊢
  clear m0 m1 m2 m3 m4 n0 n1 n2 n3 n4
  have m0 := HF.out.1.cell 0
  have m1 := HF.out.1.cell 1
  have m2 := HF.out.1.cell 2
  have m3 := HF.out.1.cell 3
  have m4 := HF.out.1.cell 4
  simp only [List.getElem?_cons_succ, List.getElem?_cons_zero] at m0 m1 m2 m3 m4
  refine bodyPost_ret (v := .agg #[.bool false, .int .i64 0, .slice none 0 0, .slice none 0 0, .slice none 0 0]) (by simp [results, Try.results17, go_sem, m0, m1, m2, m3, m4]) rfl ?_
  refine ⟨_, ⟨false, 0, [], [], []⟩, rfl, AnsR.plain _ _ _ _, ?_, ?_, HK.out.onto HF.out.2.2 (by omega)⟩
  · simp [Pl.lineA, Pl.lans0, HKD.out]
  · have := HL2.out.out HF.out.2.2
    simpa [Pl.lineD, HKD.out] using this

set_option maxRecDepth 100000 in
set_option maxHeartbeats 4000000 in
theorem step_8 {w : World} {B x m : Nat} {F : Nat → FileS} {d : Nat → List Pl.Ent} (h : LnW w B x m F d) {i : Nat} (hi : i < m) {lc : Int} (h0 : 0 ≤ lc) (h1 : lc < 4294967296) {kd fl ln co va : Int} (hl : lc / 4096 = ln) (hv : Val32 va) (hkd : kd = 8) :
    Calls Try.prog 17 #[mptr x, xpos i lc, stepV ⟨kd, fl, ln, co, va⟩] w (StepTo w B x m F d i ⟨kd, fl, ln, co, va⟩) := by
  have e0 : (kd == 0) = false := by simp; omega
  have e1 : (kd == 8) = true := by simp; omega
  have iv : IntKind.i32.wrap va = va := IntWalk.i32_in _ (by unfold Val32 at hv; omega)
  have HV := Lib.hid hv; clear hv
  have HKD := Lib.hid hkd; clear hkd
  unfold stepV
  dsimp only
  have HCALL := Lib.hid (fun (w1 : World) (h : LnW w1 B x m F d) => lAdd_any h hi h0 h1)
  have HL := Lib.hid h; clear h
  rw [hl] at HCALL
  unfold xpos at HCALL ⊢
  generalize hkk : (i : Int) + 1 = k at HCALL ⊢
  clear hkk
  have hb0 : Bel w (((w.alloc (.cells #[.int .i32 k, .int .u32 lc] 58)).alloc (.cells #[.int .i64 kd, .int .i64 fl, .int .i64 ln, .int .i64 co, .int .i64 va] 29)).alloc (.cells #[.bool false, .int .i64 0, .slice none 0 0, .slice none 0 0, .slice none 0 0] 33)) := (((Bel.refl w).alloc _).alloc _).alloc _
  have hB3 : Blk (((w.alloc (.cells #[.int .i32 k, .int .u32 lc] 58)).alloc (.cells #[.int .i64 kd, .int .i64 fl, .int .i64 ln, .int .i64 co, .int .i64 va] 29)).alloc (.cells #[.bool false, .int .i64 0, .slice none 0 0, .slice none 0 0, .slice none 0 0] 33)) (w.heap.size + 1 + 1) 33 [.bool false, .int .i64 0, .slice none 0 0, .slice none 0 0, .slice none 0 0] := by
    have := Blk.new ((w.alloc (.cells #[.int .i32 k, .int .u32 lc] 58)).alloc (.cells #[.int .i64 kd, .int .i64 fl, .int .i64 ln, .int .i64 co, .int .i64 va] 29)) 33 [.bool false, .int .i64 0, .slice none 0 0, .slice none 0 0, .slice none 0 0]
    rwa [World.size_alloc, World.size_alloc] at this
  have HW := Lib.hid (And.intro hb0 hB3)
  clear hb0 hB3
  go_enter Try.func17, Try.ntmps17
  go_wp2_with fail
  generalize ((w.alloc (.cells #[.int .i32 k, .int .u32 lc] 58)).alloc (.cells #[.int .i64 kd, .int .i64 fl, .int .i64 ln, .int .i64 co, .int .i64 va] 29)).alloc (.cells #[.bool false, .int .i64 0, .slice none 0 0, .slice none 0 0, .slice none 0 0] 33) = w1 at HW ⊢
  refine (HCALL.out _ (HL.out.bel HW.out.1)).mono ?_
  rintro e w2 ⟨⟨u, rfl⟩, hL2, hk2⟩
  have hB4 := HW.out.2.kt hk2 (.inl (by decide))
  have HK := Lib.hid ((KT.of_bel HW.out.1).trans hk2)
  have HL2 := Lib.hid hL2
  have HB4 := Lib.hid hB4
  have m0 : w2.cell? ⟨w.heap.size + 1 + 1, 0, none⟩ = some (.bool false) := hB4.cell 0
  have m1 : w2.cell? ⟨w.heap.size + 1 + 1, 1, none⟩ = some (.int .i64 0) := hB4.cell 1
  have m2 : w2.cell? ⟨w.heap.size + 1 + 1, 2, none⟩ = some (.slice none 0 0) := hB4.cell 2
  have m3 : w2.cell? ⟨w.heap.size + 1 + 1, 3, none⟩ = some (.slice none 0 0) := hB4.cell 3
  have m4 : w2.cell? ⟨w.heap.size + 1 + 1, 4, none⟩ = some (.slice none 0 0) := hB4.cell 4
  have n0 := hB4.frozen 0
  have n1 := hB4.frozen 1
  have n2 := hB4.frozen 2
  have n3 := hB4.frozen 3
  have n4 := hB4.frozen 4
  clear hB4 hk2 hL2 HCALL HL HW
  go_wp2
  have HF := Lib.hid (five HB4.out (.bool false) (.int .i64 0) (.slice none 0 0) (.slice none 0 0) (.slice none 0 0))
  generalize ((((w2.setCell ⟨w.heap.size + 1 + 1, 0, none⟩ (.bool false)).setCell ⟨w.heap.size + 1 + 1, 1, none⟩ (.int .i64 0)).setCell ⟨w.heap.size + 1 + 1, 2, none⟩ (.slice none 0 0)).setCell ⟨w.heap.size + 1 + 1, 3, none⟩ (.slice none 0 0)).setCell ⟨w.heap.size + 1 + 1, 4, none⟩ (.slice none 0 0) = w3 at HF ⊢
  clear m0 m1 m2 m3 m4 n0 n1 n2 n3 n4
  have m0 := HF.out.1.cell 0
  have m1 := HF.out.1.cell 1
  have m2 := HF.out.1.cell 2
  have m3 := HF.out.1.cell 3
  have m4 := HF.out.1.cell 4
  simp only [List.getElem?_cons_succ, List.getElem?_cons_zero] at m0 m1 m2 m3 m4
  refine bodyPost_ret (v := .agg #[.bool false, .int .i64 0, .slice none 0 0, .slice none 0 0, .slice none 0 0]) (by simp [results, Try.results17, go_sem, m0, m1, m2, m3, m4]) rfl ?_
  refine ⟨_, ⟨false, 0, [], [], []⟩, rfl, AnsR.plain _ _ _ _, ?_, ?_, HK.out.onto HF.out.2.2 (by omega)⟩
  · simp [Pl.lineA, Pl.lans0, HKD.out]
  · have := HL2.out.out HF.out.2.2
    simpa [Pl.lineD, HKD.out] using this

set_option maxRecDepth 100000 in
set_option maxHeartbeats 4000000 in
theorem step_1 {w : World} {B x m : Nat} {F : Nat → FileS} {d : Nat → List Pl.Ent} (h : LnW w B x m F d) {i : Nat} (hi : i < m) {lc : Int} (h0 : 0 ≤ lc) (h1 : lc < 4294967296) {kd fl ln co va : Int} (hl : lc / 4096 = ln) (hv : Val32 va) (hkd : kd = 1) :
    Calls Try.prog 17 #[mptr x, xpos i lc, stepV ⟨kd, fl, ln, co, va⟩] w (StepTo w B x m F d i ⟨kd, fl, ln, co, va⟩) := by
  have e0 : (kd == 0) = false := by simp; omega
  have e1 : (kd == 8) = false := by simp; omega
  have e2 : (kd == 1) = true := by simp; omega
  have iv : IntKind.i32.wrap va = va := IntWalk.i32_in _ (by unfold Val32 at hv; omega)
  have HV := Lib.hid hv; clear hv
  have HKD := Lib.hid hkd; clear hkd
  unfold stepV
  dsimp only
  have HCALL := Lib.hid (fun (w1 : World) (h : LnW w1 B x m F d) => lRemove_any h hi h0 h1)
  have HL := Lib.hid h; clear h
  rw [hl] at HCALL
  unfold xpos at HCALL ⊢
  generalize hkk : (i : Int) + 1 = k at HCALL ⊢
  clear hkk
  have hb0 : Bel w (((w.alloc (.cells #[.int .i32 k, .int .u32 lc] 58)).alloc (.cells #[.int .i64 kd, .int .i64 fl, .int .i64 ln, .int .i64 co, .int .i64 va] 29)).alloc (.cells #[.bool false, .int .i64 0, .slice none 0 0, .slice none 0 0, .slice none 0 0] 33)) := (((Bel.refl w).alloc _).alloc _).alloc _
  have hB3 : Blk (((w.alloc (.cells #[.int .i32 k, .int .u32 lc] 58)).alloc (.cells #[.int .i64 kd, .int .i64 fl, .int .i64 ln, .int .i64 co, .int .i64 va] 29)).alloc (.cells #[.bool false, .int .i64 0, .slice none 0 0, .slice none 0 0, .slice none 0 0] 33)) (w.heap.size + 1 + 1) 33 [.bool false, .int .i64 0, .slice none 0 0, .slice none 0 0, .slice none 0 0] := by
    have := Blk.new ((w.alloc (.cells #[.int .i32 k, .int .u32 lc] 58)).alloc (.cells #[.int .i64 kd, .int .i64 fl, .int .i64 ln, .int .i64 co, .int .i64 va] 29)) 33 [.bool false, .int .i64 0, .slice none 0 0, .slice none 0 0, .slice none 0 0]
    rwa [World.size_alloc, World.size_alloc] at this
  have HW := Lib.hid (And.intro hb0 hB3)
  clear hb0 hB3
  go_enter Try.func17, Try.ntmps17
  go_wp2_with fail
  generalize ((w.alloc (.cells #[.int .i32 k, .int .u32 lc] 58)).alloc (.cells #[.int .i64 kd, .int .i64 fl, .int .i64 ln, .int .i64 co, .int .i64 va] 29)).alloc (.cells #[.bool false, .int .i64 0, .slice none 0 0, .slice none 0 0, .slice none 0 0] 33) = w1 at HW ⊢
  refine (HCALL.out _ (HL.out.bel HW.out.1)).mono ?_
  rintro e w2 ⟨⟨u, rfl⟩, hL2, hk2⟩
  have hB4 := HW.out.2.kt hk2 (.inl (by decide))
  have HK := Lib.hid ((KT.of_bel HW.out.1).trans hk2)
  have HL2 := Lib.hid hL2
  have HB4 := Lib.hid hB4
  have m0 : w2.cell? ⟨w.heap.size + 1 + 1, 0, none⟩ = some (.bool false) := hB4.cell 0
  have m1 : w2.cell? ⟨w.heap.size + 1 + 1, 1, none⟩ = some (.int .i64 0) := hB4.cell 1
  have m2 : w2.cell? ⟨w.heap.size + 1 + 1, 2, none⟩ = some (.slice none 0 0) := hB4.cell 2
  have m3 : w2.cell? ⟨w.heap.size + 1 + 1, 3, none⟩ = some (.slice none 0 0) := hB4.cell 3
  have m4 : w2.cell? ⟨w.heap.size + 1 + 1, 4, none⟩ = some (.slice none 0 0) := hB4.cell 4
  have n0 := hB4.frozen 0
  have n1 := hB4.frozen 1
  have n2 := hB4.frozen 2
  have n3 := hB4.frozen 3
  have n4 := hB4.frozen 4
  clear hB4 hk2 hL2 HCALL HL HW
  go_wp2
  have HF := Lib.hid (five HB4.out (.bool false) (.int .i64 0) (.slice none 0 0) (.slice none 0 0) (.slice none 0 0))
  generalize ((((w2.setCell ⟨w.heap.size + 1 + 1, 0, none⟩ (.bool false)).setCell ⟨w.heap.size + 1 + 1, 1, none⟩ (.int .i64 0)).setCell ⟨w.heap.size + 1 + 1, 2, none⟩ (.slice none 0 0)).setCell ⟨w.heap.size + 1 + 1, 3, none⟩ (.slice none 0 0)).setCell ⟨w.heap.size + 1 + 1, 4, none⟩ (.slice none 0 0) = w3 at HF ⊢
  clear m0 m1 m2 m3 m4 n0 n1 n2 n3 n4
  have m0 := HF.out.1.cell 0
  have m1 := HF.out.1.cell 1
  have m2 := HF.out.1.cell 2
  have m3 := HF.out.1.cell 3
  have m4 := HF.out.1.cell 4
  simp only [List.getElem?_cons_succ, List.getElem?_cons_zero] at m0 m1 m2 m3 m4
  refine bodyPost_ret (v := .agg #[.bool false, .int .i64 0, .slice none 0 0, .slice none 0 0, .slice none 0 0]) (by simp [results, Try.results17, go_sem, m0, m1, m2, m3, m4]) rfl ?_
  refine ⟨_, ⟨false, 0, [], [], []⟩, rfl, AnsR.plain _ _ _ _, ?_, ?_, HK.out.onto HF.out.2.2 (by omega)⟩
  · simp [Pl.lineA, Pl.lans0, HKD.out]
  · have := HL2.out.out HF.out.2.2
    simpa [Pl.lineD, HKD.out] using this

set_option maxRecDepth 100000 in
set_option maxHeartbeats 4000000 in
theorem step_2 {w : World} {B x m : Nat} {F : Nat → FileS} {d : Nat → List Pl.Ent} (h : LnW w B x m F d) {i : Nat} (hi : i < m) {lc : Int} (h0 : 0 ≤ lc) (h1 : lc < 4294967296) {kd fl ln co va : Int} (hl : lc / 4096 = ln) (hv : Val32 va) (hkd : kd = 2) :
    Calls Try.prog 17 #[mptr x, xpos i lc, stepV ⟨kd, fl, ln, co, va⟩] w (StepTo w B x m F d i ⟨kd, fl, ln, co, va⟩) := by
  have e0 : (kd == 0) = false := by simp; omega
  have e1 : (kd == 8) = false := by simp; omega
  have e2 : (kd == 1) = false := by simp; omega
  have e3 : (kd == 2) = true := by simp; omega
  have iv : IntKind.i32.wrap va = va := IntWalk.i32_in _ (by unfold Val32 at hv; omega)
  have HV := Lib.hid hv; clear hv
  have HKD := Lib.hid hkd; clear hkd
  unfold stepV
  dsimp only
  have HCALL := Lib.hid (fun (w1 : World) (h : LnW w1 B x m F d) => lContains_any h hi h0 h1)
  have HL := Lib.hid h; clear h
  rw [hl] at HCALL
  unfold xpos at HCALL ⊢
  generalize hkk : (i : Int) + 1 = k at HCALL ⊢
  clear hkk
  have hb0 : Bel w (((w.alloc (.cells #[.int .i32 k, .int .u32 lc] 58)).alloc (.cells #[.int .i64 kd, .int .i64 fl, .int .i64 ln, .int .i64 co, .int .i64 va] 29)).alloc (.cells #[.bool false, .int .i64 0, .slice none 0 0, .slice none 0 0, .slice none 0 0] 33)) := (((Bel.refl w).alloc _).alloc _).alloc _
  have hB3 : Blk (((w.alloc (.cells #[.int .i32 k, .int .u32 lc] 58)).alloc (.cells #[.int .i64 kd, .int .i64 fl, .int .i64 ln, .int .i64 co, .int .i64 va] 29)).alloc (.cells #[.bool false, .int .i64 0, .slice none 0 0, .slice none 0 0, .slice none 0 0] 33)) (w.heap.size + 1 + 1) 33 [.bool false, .int .i64 0, .slice none 0 0, .slice none 0 0, .slice none 0 0] := by
    have := Blk.new ((w.alloc (.cells #[.int .i32 k, .int .u32 lc] 58)).alloc (.cells #[.int .i64 kd, .int .i64 fl, .int .i64 ln, .int .i64 co, .int .i64 va] 29)) 33 [.bool false, .int .i64 0, .slice none 0 0, .slice none 0 0, .slice none 0 0]
    rwa [World.size_alloc, World.size_alloc] at this
  have HW := Lib.hid (And.intro hb0 hB3)
  clear hb0 hB3
  go_enter Try.func17, Try.ntmps17
  go_wp2_with fail
  generalize ((w.alloc (.cells #[.int .i32 k, .int .u32 lc] 58)).alloc (.cells #[.int .i64 kd, .int .i64 fl, .int .i64 ln, .int .i64 co, .int .i64 va] 29)).alloc (.cells #[.bool false, .int .i64 0, .slice none 0 0, .slice none 0 0, .slice none 0 0] 33) = w1 at HW ⊢
  refine (HCALL.out _ (HL.out.bel HW.out.1)).mono ?_
  rintro e w2 ⟨rfl, hL2, hk2⟩
  have hB4 := HW.out.2.kt hk2 (.inl (by decide))
  have HK := Lib.hid ((KT.of_bel HW.out.1).trans hk2)
  have HL2 := Lib.hid hL2
  have HB4 := Lib.hid hB4
  have m0 : w2.cell? ⟨w.heap.size + 1 + 1, 0, none⟩ = some (.bool false) := hB4.cell 0
  have m1 : w2.cell? ⟨w.heap.size + 1 + 1, 1, none⟩ = some (.int .i64 0) := hB4.cell 1
  have m2 : w2.cell? ⟨w.heap.size + 1 + 1, 2, none⟩ = some (.slice none 0 0) := hB4.cell 2
  have m3 : w2.cell? ⟨w.heap.size + 1 + 1, 3, none⟩ = some (.slice none 0 0) := hB4.cell 3
  have m4 : w2.cell? ⟨w.heap.size + 1 + 1, 4, none⟩ = some (.slice none 0 0) := hB4.cell 4
  have n0 := hB4.frozen 0
  have n1 := hB4.frozen 1
  have n2 := hB4.frozen 2
  have n3 := hB4.frozen 3
  have n4 := hB4.frozen 4
  clear hB4 hk2 hL2 HCALL HL HW
  go_wp2
  have HF := Lib.hid (five HB4.out (.bool (hasB (shE (F i).f (d i)) ln)) (.int .i64 0) (.slice none 0 0) (.slice none 0 0) (.slice none 0 0))
  generalize ((((w2.setCell ⟨w.heap.size + 1 + 1, 0, none⟩ (.bool (hasB (shE (F i).f (d i)) ln))).setCell ⟨w.heap.size + 1 + 1, 1, none⟩ (.int .i64 0)).setCell ⟨w.heap.size + 1 + 1, 2, none⟩ (.slice none 0 0)).setCell ⟨w.heap.size + 1 + 1, 3, none⟩ (.slice none 0 0)).setCell ⟨w.heap.size + 1 + 1, 4, none⟩ (.slice none 0 0) = w3 at HF ⊢
  clear m0 m1 m2 m3 m4 n0 n1 n2 n3 n4
  have m0 := HF.out.1.cell 0
  have m1 := HF.out.1.cell 1
  have m2 := HF.out.1.cell 2
  have m3 := HF.out.1.cell 3
  have m4 := HF.out.1.cell 4
  simp only [List.getElem?_cons_succ, List.getElem?_cons_zero] at m0 m1 m2 m3 m4
  refine bodyPost_ret (v := .agg #[.bool (hasB (shE (F i).f (d i)) ln), .int .i64 0, .slice none 0 0, .slice none 0 0, .slice none 0 0]) (by simp [results, Try.results17, go_sem, m0, m1, m2, m3, m4]) rfl ?_
  refine ⟨_, ⟨hasB (shE (F i).f (d i)) ln, 0, [], [], []⟩, rfl, AnsR.plain _ _ _ _, ?_, ?_, HK.out.onto HF.out.2.2 (by omega)⟩
  · simp [Pl.lineA, HKD.out]
  · have := HL2.out.out HF.out.2.2
    simpa [Pl.lineD, HKD.out] using this

set_option maxRecDepth 100000 in
set_option maxHeartbeats 4000000 in
theorem step_3 {w : World} {B x m : Nat} {F : Nat → FileS} {d : Nat → List Pl.Ent} (h : LnW w B x m F d) {i : Nat} (hi : i < m) {lc : Int} (h0 : 0 ≤ lc) (h1 : lc < 4294967296) {kd fl ln co va : Int} (hl : lc / 4096 = ln) (hv : Val32 va) (hkd : kd = 3) :
    Calls Try.prog 17 #[mptr x, xpos i lc, stepV ⟨kd, fl, ln, co, va⟩] w (StepTo w B x m F d i ⟨kd, fl, ln, co, va⟩) := by
  have e0 : (kd == 0) = false := by simp; omega
  have e1 : (kd == 8) = false := by simp; omega
  have e2 : (kd == 1) = false := by simp; omega
  have e3 : (kd == 2) = false := by simp; omega
  have e4 : (kd == 3) = true := by simp; omega
  have iv : IntKind.i32.wrap va = va := IntWalk.i32_in _ (by unfold Val32 at hv; omega)
  have HV := Lib.hid hv; clear hv
  have HKD := Lib.hid hkd; clear hkd
  unfold stepV
  dsimp only
  have iw : IntKind.i64.wrap (getV (shE (F i).f (d i)) ln) = getV (shE (F i).f (d i)) ln := IntWalk.i64_in _ (by have := h.val32 hi ln; unfold Val32 at this; omega)
  have HCALL := Lib.hid (fun (w1 : World) (h : LnW w1 B x m F d) => lGet_any h hi h0 h1)
  have HL := Lib.hid h; clear h
  rw [hl] at HCALL
  unfold xpos at HCALL ⊢
  generalize hkk : (i : Int) + 1 = k at HCALL ⊢
  clear hkk
  have hb0 : Bel w (((w.alloc (.cells #[.int .i32 k, .int .u32 lc] 58)).alloc (.cells #[.int .i64 kd, .int .i64 fl, .int .i64 ln, .int .i64 co, .int .i64 va] 29)).alloc (.cells #[.bool false, .int .i64 0, .slice none 0 0, .slice none 0 0, .slice none 0 0] 33)) := (((Bel.refl w).alloc _).alloc _).alloc _
  have hB3 : Blk (((w.alloc (.cells #[.int .i32 k, .int .u32 lc] 58)).alloc (.cells #[.int .i64 kd, .int .i64 fl, .int .i64 ln, .int .i64 co, .int .i64 va] 29)).alloc (.cells #[.bool false, .int .i64 0, .slice none 0 0, .slice none 0 0, .slice none 0 0] 33)) (w.heap.size + 1 + 1) 33 [.bool false, .int .i64 0, .slice none 0 0, .slice none 0 0, .slice none 0 0] := by
    have := Blk.new ((w.alloc (.cells #[.int .i32 k, .int .u32 lc] 58)).alloc (.cells #[.int .i64 kd, .int .i64 fl, .int .i64 ln, .int .i64 co, .int .i64 va] 29)) 33 [.bool false, .int .i64 0, .slice none 0 0, .slice none 0 0, .slice none 0 0]
    rwa [World.size_alloc, World.size_alloc] at this
  have HW := Lib.hid (And.intro hb0 hB3)
  clear hb0 hB3
  go_enter Try.func17, Try.ntmps17
  go_wp2_with fail
  generalize ((w.alloc (.cells #[.int .i32 k, .int .u32 lc] 58)).alloc (.cells #[.int .i64 kd, .int .i64 fl, .int .i64 ln, .int .i64 co, .int .i64 va] 29)).alloc (.cells #[.bool false, .int .i64 0, .slice none 0 0, .slice none 0 0, .slice none 0 0] 33) = w1 at HW ⊢
  refine (HCALL.out _ (HL.out.bel HW.out.1)).mono ?_
  rintro e w2 ⟨rfl, hL2, hk2⟩
  have hB4 := HW.out.2.kt hk2 (.inl (by decide))
  have HK := Lib.hid ((KT.of_bel HW.out.1).trans hk2)
  have HL2 := Lib.hid hL2
  have HB4 := Lib.hid hB4
  have m0 : w2.cell? ⟨w.heap.size + 1 + 1, 0, none⟩ = some (.bool false) := hB4.cell 0
  have m1 : w2.cell? ⟨w.heap.size + 1 + 1, 1, none⟩ = some (.int .i64 0) := hB4.cell 1
  have m2 : w2.cell? ⟨w.heap.size + 1 + 1, 2, none⟩ = some (.slice none 0 0) := hB4.cell 2
  have m3 : w2.cell? ⟨w.heap.size + 1 + 1, 3, none⟩ = some (.slice none 0 0) := hB4.cell 3
  have m4 : w2.cell? ⟨w.heap.size + 1 + 1, 4, none⟩ = some (.slice none 0 0) := hB4.cell 4
  have n0 := hB4.frozen 0
  have n1 := hB4.frozen 1
  have n2 := hB4.frozen 2
  have n3 := hB4.frozen 3
  have n4 := hB4.frozen 4
  clear hB4 hk2 hL2 HCALL HL HW
  go_wp2
  have HF := Lib.hid (five HB4.out (.bool (hasB (shE (F i).f (d i)) ln)) (.int .i64 (getV (shE (F i).f (d i)) ln)) (.slice none 0 0) (.slice none 0 0) (.slice none 0 0))
  generalize ((((w2.setCell ⟨w.heap.size + 1 + 1, 0, none⟩ (.bool (hasB (shE (F i).f (d i)) ln))).setCell ⟨w.heap.size + 1 + 1, 1, none⟩ (.int .i64 (getV (shE (F i).f (d i)) ln))).setCell ⟨w.heap.size + 1 + 1, 2, none⟩ (.slice none 0 0)).setCell ⟨w.heap.size + 1 + 1, 3, none⟩ (.slice none 0 0)).setCell ⟨w.heap.size + 1 + 1, 4, none⟩ (.slice none 0 0) = w3 at HF ⊢
  clear m0 m1 m2 m3 m4 n0 n1 n2 n3 n4
  have m0 := HF.out.1.cell 0
  have m1 := HF.out.1.cell 1
  have m2 := HF.out.1.cell 2
  have m3 := HF.out.1.cell 3
  have m4 := HF.out.1.cell 4
  simp only [List.getElem?_cons_succ, List.getElem?_cons_zero] at m0 m1 m2 m3 m4
  refine bodyPost_ret (v := .agg #[.bool (hasB (shE (F i).f (d i)) ln), .int .i64 (getV (shE (F i).f (d i)) ln), .slice none 0 0, .slice none 0 0, .slice none 0 0]) (by simp [results, Try.results17, go_sem, m0, m1, m2, m3, m4]) rfl ?_
  refine ⟨_, ⟨hasB (shE (F i).f (d i)) ln, getV (shE (F i).f (d i)) ln, [], [], []⟩, rfl, AnsR.plain _ _ _ _, ?_, ?_, HK.out.onto HF.out.2.2 (by omega)⟩
  · simp [Pl.lineA, HKD.out]
  · have := HL2.out.out HF.out.2.2
    simpa [Pl.lineD, HKD.out] using this

set_option maxRecDepth 100000 in
set_option maxHeartbeats 4000000 in
theorem step_5 {w : World} {B x m : Nat} {F : Nat → FileS} {d : Nat → List Pl.Ent} (h : LnW w B x m F d) {i : Nat} (_hi : i < m) {lc : Int} (_h0 : 0 ≤ lc) (_h1 : lc < 4294967296) {kd fl ln co va : Int} (_hl : lc / 4096 = ln) (hv : Val32 va) (hkd : kd = 5) :
    Calls Try.prog 17 #[mptr x, xpos i lc, stepV ⟨kd, fl, ln, co, va⟩] w (StepTo w B x m F d i ⟨kd, fl, ln, co, va⟩) := by
  have e0 : (kd == 0) = false := by simp; omega
  have e1 : (kd == 8) = false := by simp; omega
  have e2 : (kd == 1) = false := by simp; omega
  have e3 : (kd == 2) = false := by simp; omega
  have e4 : (kd == 3) = false := by simp; omega
  have e5 : (kd == 5) = true := by simp; omega
  have iv : IntKind.i32.wrap va = va := IntWalk.i32_in _ (by unfold Val32 at hv; omega)
  have HV := Lib.hid hv; clear hv
  have HKD := Lib.hid hkd; clear hkd
  unfold stepV
  dsimp only
  have HCALL := Lib.hid (fun (w1 : World) (h : LnW w1 B x m F d) => lClear_any h)
  have HL := Lib.hid h; clear h
  unfold xpos
  generalize hkk : (i : Int) + 1 = k
  clear hkk
  have hb0 : Bel w (((w.alloc (.cells #[.int .i32 k, .int .u32 lc] 58)).alloc (.cells #[.int .i64 kd, .int .i64 fl, .int .i64 ln, .int .i64 co, .int .i64 va] 29)).alloc (.cells #[.bool false, .int .i64 0, .slice none 0 0, .slice none 0 0, .slice none 0 0] 33)) := (((Bel.refl w).alloc _).alloc _).alloc _
  have hB3 : Blk (((w.alloc (.cells #[.int .i32 k, .int .u32 lc] 58)).alloc (.cells #[.int .i64 kd, .int .i64 fl, .int .i64 ln, .int .i64 co, .int .i64 va] 29)).alloc (.cells #[.bool false, .int .i64 0, .slice none 0 0, .slice none 0 0, .slice none 0 0] 33)) (w.heap.size + 1 + 1) 33 [.bool false, .int .i64 0, .slice none 0 0, .slice none 0 0, .slice none 0 0] := by
    have := Blk.new ((w.alloc (.cells #[.int .i32 k, .int .u32 lc] 58)).alloc (.cells #[.int .i64 kd, .int .i64 fl, .int .i64 ln, .int .i64 co, .int .i64 va] 29)) 33 [.bool false, .int .i64 0, .slice none 0 0, .slice none 0 0, .slice none 0 0]
    rwa [World.size_alloc, World.size_alloc] at this
  have HW := Lib.hid (And.intro hb0 hB3)
  clear hb0 hB3
  go_enter Try.func17, Try.ntmps17
  go_wp2_with fail
  generalize ((w.alloc (.cells #[.int .i32 k, .int .u32 lc] 58)).alloc (.cells #[.int .i64 kd, .int .i64 fl, .int .i64 ln, .int .i64 co, .int .i64 va] 29)).alloc (.cells #[.bool false, .int .i64 0, .slice none 0 0, .slice none 0 0, .slice none 0 0] 33) = w1 at HW ⊢
  refine (HCALL.out _ (HL.out.bel HW.out.1)).mono ?_
  rintro e w2 ⟨⟨u, rfl⟩, hL2, hk2⟩
  have hB4 := HW.out.2.kt hk2 (.inl (by decide))
  have HK := Lib.hid ((KT.of_bel HW.out.1).trans hk2)
  have HL2 := Lib.hid hL2
  have HB4 := Lib.hid hB4
  have m0 : w2.cell? ⟨w.heap.size + 1 + 1, 0, none⟩ = some (.bool false) := hB4.cell 0
  have m1 : w2.cell? ⟨w.heap.size + 1 + 1, 1, none⟩ = some (.int .i64 0) := hB4.cell 1
  have m2 : w2.cell? ⟨w.heap.size + 1 + 1, 2, none⟩ = some (.slice none 0 0) := hB4.cell 2
  have m3 : w2.cell? ⟨w.heap.size + 1 + 1, 3, none⟩ = some (.slice none 0 0) := hB4.cell 3
  have m4 : w2.cell? ⟨w.heap.size + 1 + 1, 4, none⟩ = some (.slice none 0 0) := hB4.cell 4
  have n0 := hB4.frozen 0
  have n1 := hB4.frozen 1
  have n2 := hB4.frozen 2
  have n3 := hB4.frozen 3
  have n4 := hB4.frozen 4
  clear hB4 hk2 hL2 HCALL HL HW
  go_wp2
  have HF := Lib.hid (five HB4.out (.bool false) (.int .i64 0) (.slice none 0 0) (.slice none 0 0) (.slice none 0 0))
  generalize ((((w2.setCell ⟨w.heap.size + 1 + 1, 0, none⟩ (.bool false)).setCell ⟨w.heap.size + 1 + 1, 1, none⟩ (.int .i64 0)).setCell ⟨w.heap.size + 1 + 1, 2, none⟩ (.slice none 0 0)).setCell ⟨w.heap.size + 1 + 1, 3, none⟩ (.slice none 0 0)).setCell ⟨w.heap.size + 1 + 1, 4, none⟩ (.slice none 0 0) = w3 at HF ⊢
  clear m0 m1 m2 m3 m4 n0 n1 n2 n3 n4
  have m0 := HF.out.1.cell 0
  have m1 := HF.out.1.cell 1
  have m2 := HF.out.1.cell 2
  have m3 := HF.out.1.cell 3
  have m4 := HF.out.1.cell 4
  simp only [List.getElem?_cons_succ, List.getElem?_cons_zero] at m0 m1 m2 m3 m4
  refine bodyPost_ret (v := .agg #[.bool false, .int .i64 0, .slice none 0 0, .slice none 0 0, .slice none 0 0]) (by simp [results, Try.results17, go_sem, m0, m1, m2, m3, m4]) rfl ?_
  refine ⟨_, ⟨false, 0, [], [], []⟩, rfl, AnsR.plain _ _ _ _, ?_, ?_, HK.out.onto HF.out.2.2 (by omega)⟩
  · simp [Pl.lineA, Pl.lans0, HKD.out]
  · have := HL2.out.out HF.out.2.2
    simpa [Pl.lineD, HKD.out] using this

set_option maxRecDepth 100000 in
set_option maxHeartbeats 4000000 in
theorem step_no {w : World} {B x m : Nat} {F : Nat → FileS} {d : Nat → List Pl.Ent} (h : LnW w B x m F d) {i : Nat} (_hi : i < m) {lc : Int} (_h0 : 0 ≤ lc) (_h1 : lc < 4294967296) {kd fl ln co va : Int} (_hl : lc / 4096 = ln) (_hv : Val32 va) (hkd : kd ≠ 0 ∧ kd ≠ 8 ∧ kd ≠ 1 ∧ kd ≠ 2 ∧ kd ≠ 3 ∧ kd ≠ 5 ∧ kd ≠ 7) :
    Calls Try.prog 17 #[mptr x, xpos i lc, stepV ⟨kd, fl, ln, co, va⟩] w (StepTo w B x m F d i ⟨kd, fl, ln, co, va⟩) := by
  have e0 : (kd == 0) = false := by simp; omega
  have e1 : (kd == 8) = false := by simp; omega
  have e2 : (kd == 1) = false := by simp; omega
  have e3 : (kd == 2) = false := by simp; omega
  have e4 : (kd == 3) = false := by simp; omega
  have e5 : (kd == 5) = false := by simp; omega
  have e6 : (kd == 7) = false := by simp; omega
  have HKD := Lib.hid hkd; clear hkd
  have HL := Lib.hid h; clear h
  unfold stepV xpos
  dsimp only
  generalize hkk : (i : Int) + 1 = k
  clear hkk
  have hb0 : Bel w (((w.alloc (.cells #[.int .i32 k, .int .u32 lc] 58)).alloc (.cells #[.int .i64 kd, .int .i64 fl, .int .i64 ln, .int .i64 co, .int .i64 va] 29)).alloc (.cells #[.bool false, .int .i64 0, .slice none 0 0, .slice none 0 0, .slice none 0 0] 33)) := (((Bel.refl w).alloc _).alloc _).alloc _
  have hB3 : Blk (((w.alloc (.cells #[.int .i32 k, .int .u32 lc] 58)).alloc (.cells #[.int .i64 kd, .int .i64 fl, .int .i64 ln, .int .i64 co, .int .i64 va] 29)).alloc (.cells #[.bool false, .int .i64 0, .slice none 0 0, .slice none 0 0, .slice none 0 0] 33)) (w.heap.size + 1 + 1) 33 [.bool false, .int .i64 0, .slice none 0 0, .slice none 0 0, .slice none 0 0] := by
    have := Blk.new ((w.alloc (.cells #[.int .i32 k, .int .u32 lc] 58)).alloc (.cells #[.int .i64 kd, .int .i64 fl, .int .i64 ln, .int .i64 co, .int .i64 va] 29)) 33 [.bool false, .int .i64 0, .slice none 0 0, .slice none 0 0, .slice none 0 0]
    rwa [World.size_alloc, World.size_alloc] at this
  have HW := Lib.hid (And.intro hb0 hB3)
  clear hb0 hB3
  go_enter Try.func17, Try.ntmps17
  go_wp2
  generalize ((w.alloc (.cells #[.int .i32 k, .int .u32 lc] 58)).alloc (.cells #[.int .i64 kd, .int .i64 fl, .int .i64 ln, .int .i64 co, .int .i64 va] 29)).alloc (.cells #[.bool false, .int .i64 0, .slice none 0 0, .slice none 0 0, .slice none 0 0] 33) = w1 at HW ⊢
  have m0 := HW.out.2.cell 0
  have m1 := HW.out.2.cell 1
  have m2 := HW.out.2.cell 2
  have m3 := HW.out.2.cell 3
  have m4 := HW.out.2.cell 4
  simp only [List.getElem?_cons_succ, List.getElem?_cons_zero] at m0 m1 m2 m3 m4
  refine bodyPost_ret (v := .agg #[.bool false, .int .i64 0, .slice none 0 0, .slice none 0 0, .slice none 0 0]) (by simp [results, Try.results17, go_sem, m0, m1, m2, m3, m4]) rfl ?_
  obtain ⟨k0, k8, k1, k2, k3, k5, k7⟩ := HKD.out
  refine ⟨_, ⟨false, 0, [], [], []⟩, rfl, AnsR.plain _ _ _ _, ?_, ?_, KT.of_bel HW.out.1⟩
  · simp [Pl.lineA, Pl.lans0, k2, k3, k7]
  · have := HL.out.bel HW.out.1
    simpa [Pl.lineD, k0, k8, k1, k5] using this

set_option maxRecDepth 100000 in
set_option maxHeartbeats 4000000 in
theorem step_7 {w : World} {B x m : Nat} {F : Nat → FileS} {d : Nat → List Pl.Ent} (h : LnW w B x m F d) {i : Nat} (_hi : i < m) {lc : Int} (_h0 : 0 ≤ lc) (_h1 : lc < 4294967296) {kd fl ln co va : Int} (_hl : lc / 4096 = ln) (_hv : Val32 va) (hkd : kd = 7) :
    Calls Try.prog 17 #[mptr x, xpos i lc, stepV ⟨kd, fl, ln, co, va⟩] w (StepTo w B x m F d i ⟨kd, fl, ln, co, va⟩) := by
  have e0 : (kd == 0) = false := by simp; omega
  have e1 : (kd == 8) = false := by simp; omega
  have e2 : (kd == 1) = false := by simp; omega
  have e3 : (kd == 2) = false := by simp; omega
  have e4 : (kd == 3) = false := by simp; omega
  have e5 : (kd == 5) = false := by simp; omega
  have e6 : (kd == 7) = true := by simp; omega
  have hmf : ∀ (fn : Fn) (first cap : Array Value) (w : World), (Instr.makeFunc fn first cap).run Try.prog w = .ok (.func fn first cap) w := fun _ _ _ _ => rfl
  have HKD := Lib.hid hkd; clear hkd
  have HL := Lib.hid h; clear h
  unfold stepV xpos
  dsimp only
  generalize hkk : (i : Int) + 1 = k
  clear hkk
  have hb0 : Bel w (((w.alloc (.cells #[.int .i32 k, .int .u32 lc] 58)).alloc (.cells #[.int .i64 kd, .int .i64 fl, .int .i64 ln, .int .i64 co, .int .i64 va] 29)).alloc (.cells #[.bool false, .int .i64 0, .slice none 0 0, .slice none 0 0, .slice none 0 0] 33)) := (((Bel.refl w).alloc _).alloc _).alloc _
  have hB3 : Blk (((w.alloc (.cells #[.int .i32 k, .int .u32 lc] 58)).alloc (.cells #[.int .i64 kd, .int .i64 fl, .int .i64 ln, .int .i64 co, .int .i64 va] 29)).alloc (.cells #[.bool false, .int .i64 0, .slice none 0 0, .slice none 0 0, .slice none 0 0] 33)) (w.heap.size + 1 + 1) 33 [.bool false, .int .i64 0, .slice none 0 0, .slice none 0 0, .slice none 0 0] := by
    have := Blk.new ((w.alloc (.cells #[.int .i32 k, .int .u32 lc] 58)).alloc (.cells #[.int .i64 kd, .int .i64 fl, .int .i64 ln, .int .i64 co, .int .i64 va] 29)) 33 [.bool false, .int .i64 0, .slice none 0 0, .slice none 0 0, .slice none 0 0]
    rwa [World.size_alloc, World.size_alloc] at this
  have hb1 : Bel w ((((w.alloc (.cells #[.int .i32 k, .int .u32 lc] 58)).alloc (.cells #[.int .i64 kd, .int .i64 fl, .int .i64 ln, .int .i64 co, .int .i64 va] 29)).alloc (.cells #[.bool false, .int .i64 0, .slice none 0 0, .slice none 0 0, .slice none 0 0] 33)).alloc (.cells #[.bool false, .int .i64 0, .slice none 0 0, .slice none 0 0, .slice none 0 0] 33)) := hb0.alloc _
  have hB4 : Blk ((((w.alloc (.cells #[.int .i32 k, .int .u32 lc] 58)).alloc (.cells #[.int .i64 kd, .int .i64 fl, .int .i64 ln, .int .i64 co, .int .i64 va] 29)).alloc (.cells #[.bool false, .int .i64 0, .slice none 0 0, .slice none 0 0, .slice none 0 0] 33)).alloc (.cells #[.bool false, .int .i64 0, .slice none 0 0, .slice none 0 0, .slice none 0 0] 33)) (w.heap.size + 1 + 1) 33 [.bool false, .int .i64 0, .slice none 0 0, .slice none 0 0, .slice none 0 0] := hB3.alloc _
  have hB5 : Blk ((((w.alloc (.cells #[.int .i32 k, .int .u32 lc] 58)).alloc (.cells #[.int .i64 kd, .int .i64 fl, .int .i64 ln, .int .i64 co, .int .i64 va] 29)).alloc (.cells #[.bool false, .int .i64 0, .slice none 0 0, .slice none 0 0, .slice none 0 0] 33)).alloc (.cells #[.bool false, .int .i64 0, .slice none 0 0, .slice none 0 0, .slice none 0 0] 33)) (w.heap.size + 1 + 1 + 1) 33 [.bool false, .int .i64 0, .slice none 0 0, .slice none 0 0, .slice none 0 0] := by
    have := Blk.new (((w.alloc (.cells #[.int .i32 k, .int .u32 lc] 58)).alloc (.cells #[.int .i64 kd, .int .i64 fl, .int .i64 ln, .int .i64 co, .int .i64 va] 29)).alloc (.cells #[.bool false, .int .i64 0, .slice none 0 0, .slice none 0 0, .slice none 0 0] 33)) 33 [.bool false, .int .i64 0, .slice none 0 0, .slice none 0 0, .slice none 0 0]
    rwa [World.size_alloc, World.size_alloc, World.size_alloc] at this
  have HW := Lib.hid (And.intro hb1 (And.intro hB4 hB5))
  clear hb0 hB3 hb1 hB4 hB5
  go_enter Try.func17, Try.ntmps17
  go_wp2_with fail
  generalize (((w.alloc (.cells #[.int .i32 k, .int .u32 lc] 58)).alloc (.cells #[.int .i64 kd, .int .i64 fl, .int .i64 ln, .int .i64 co, .int .i64 va] 29)).alloc (.cells #[.bool false, .int .i64 0, .slice none 0 0, .slice none 0 0, .slice none 0 0] 33)).alloc (.cells #[.bool false, .int .i64 0, .slice none 0 0, .slice none 0 0, .slice none 0 0] 33) = w1 at HW ⊢
  have hO : OutW w1 (w.heap.size + 1 + 1 + 1) (w.heap.size + 1 + 1 + 1) (.bool false) (.int .i64 0) [] [] [] :=
    ⟨0, _, _, _, HW.out.2.2, World.ownsRow_nil _ _ _ _, World.ownsRow_nil _ _ _ _, World.ownsRow_nil _ _ _ _, fun q hq => by simp [Value.ownBlock] at hq, fun q hq => by simp [Value.ownBlock] at hq, fun q hq => by simp [Value.ownBlock] at hq, Nat.le_refl _⟩
  refine (lForeach_any (HL.out.bel HW.out.1) hO).mono ?_
  rintro e w2 ⟨⟨u, rfl⟩, hL2, hk2, q, hq, n, u1, u2, u3, hBx, r1, r2, r3, d12, d13, d23, _⟩
  have hB4 := HW.out.2.1.kt hk2 (.inr (by omega))
  obtain ⟨a1, c1, rfl, _, _, _⟩ := own_form r1
  obtain ⟨a2, c2, rfl, _, _, _⟩ := own_form r2
  obtain ⟨a3, c3, rfl, _, _, _⟩ := own_form r3
  have o0 : w2.cell? ⟨w.heap.size + 1 + 1 + 1, 0, none⟩ = some (.bool false) := hBx.cell 0
  have o1 : w2.cell? ⟨w.heap.size + 1 + 1 + 1, 1, none⟩ = some (.int .i64 0) := hBx.cell 1
  have o2 : w2.cell? ⟨w.heap.size + 1 + 1 + 1, 2, none⟩ = some (.slice a1 n c1) := hBx.cell 2
  have o3 : w2.cell? ⟨w.heap.size + 1 + 1 + 1, 3, none⟩ = some (.slice a2 n c2) := hBx.cell 3
  have o4 : w2.cell? ⟨w.heap.size + 1 + 1 + 1, 4, none⟩ = some (.slice a3 n c3) := hBx.cell 4
  have HK := Lib.hid ((KT.of_bel (T := lnT) (B := B) HW.out.1).onto hk2 (by omega))
  have HL2 := Lib.hid hL2
  have HB4 := Lib.hid hB4
  have HR := Lib.hid (And.intro hq (And.intro r1 (And.intro r2 (And.intro r3 (And.intro d12 (And.intro d13 d23))))))
  have m0 : w2.cell? ⟨w.heap.size + 1 + 1, 0, none⟩ = some (.bool false) := hB4.cell 0
  have m1 : w2.cell? ⟨w.heap.size + 1 + 1, 1, none⟩ = some (.int .i64 0) := hB4.cell 1
  have m2 : w2.cell? ⟨w.heap.size + 1 + 1, 2, none⟩ = some (.slice none 0 0) := hB4.cell 2
  have m3 : w2.cell? ⟨w.heap.size + 1 + 1, 3, none⟩ = some (.slice none 0 0) := hB4.cell 3
  have m4 : w2.cell? ⟨w.heap.size + 1 + 1, 4, none⟩ = some (.slice none 0 0) := hB4.cell 4
  have n0 := hB4.frozen 0
  have n1 := hB4.frozen 1
  have n2 := hB4.frozen 2
  have n3 := hB4.frozen 3
  have n4 := hB4.frozen 4
  clear hB4 hk2 hL2 HL HW hBx r1 r2 r3 d12 d13 d23 hq hO
  go_wp2
  have HF := Lib.hid (five HB4.out (.bool false) (.int .i64 0) (.slice a1 n c1) (.slice a2 n c2) (.slice a3 n c3))
  generalize ((((w2.setCell ⟨w.heap.size + 1 + 1, 0, none⟩ (.bool false)).setCell ⟨w.heap.size + 1 + 1, 1, none⟩ (.int .i64 0)).setCell ⟨w.heap.size + 1 + 1, 2, none⟩ (.slice a1 n c1)).setCell ⟨w.heap.size + 1 + 1, 3, none⟩ (.slice a2 n c2)).setCell ⟨w.heap.size + 1 + 1, 4, none⟩ (.slice a3 n c3) = w3 at HF ⊢
  clear m0 m1 m2 m3 m4 n0 n1 n2 n3 n4
  have m0 := HF.out.1.cell 0
  have m1 := HF.out.1.cell 1
  have m2 := HF.out.1.cell 2
  have m3 := HF.out.1.cell 3
  have m4 := HF.out.1.cell 4
  simp only [List.getElem?_cons_succ, List.getElem?_cons_zero] at m0 m1 m2 m3 m4
  refine bodyPost_ret (v := .agg #[.bool false, .int .i64 0, .slice a1 n c1, .slice a2 n c2, .slice a3 n c3]) (by simp [results, Try.results17, go_sem, m0, m1, m2, m3, m4]) rfl ?_
  obtain ⟨hq, r1, r2, r3, d12, d13, d23⟩ := HR.out
  have hrow : ∀ (u : Value) (xs : List Value), w2.ownsRow (w.heap.size + 1 + 1 + 1) 2 1 u n xs → w3.ownsRow w.heap.size 2 1 u n xs := fun u xs hr =>
    own_base (own_kept hr HF.out.2.1 (fun z hz => by have := (hr.lt z hz).1; simp; omega)) (fun z hz => by have := (hr.lt z hz).1; omega)
  refine ⟨_, ⟨false, 0, _, _, _⟩, rfl, ⟨n, _, _, _, rfl, hrow _ _ r1, hrow _ _ r2, hrow _ _ r3, d12, d13, d23⟩, ?_, ?_, HK.out.onto HF.out.2.2 (by omega)⟩
  · simp only [Pl.lineA, HKD.out]
    exact ⟨q, hq, rfl⟩
  · have := HL2.out.out HF.out.2.2
    simpa [Pl.lineD, HKD.out] using this
theorem lineStep_any {w : World} {B x m : Nat} {F : Nat → FileS} {d : Nat → List Pl.Ent} (h : LnW w B x m F d) {i : Nat} (hi : i < m) {lc : Int} (h0 : 0 ≤ lc) (h1 : lc < 4294967296) (s : Pl.LStep) (hl : lc / 4096 = s.line) (hv : Val32 s.val) :
    Calls Try.prog 17 #[mptr x, xpos i lc, stepV s] w (StepTo w B x m F d i s) := by
  obtain ⟨kd, fl, ln, co, va⟩ := s
  by_cases k0 : kd = 0
  · exact step_0 h hi h0 h1 hl hv k0
  by_cases k8 : kd = 8
  · exact step_8 h hi h0 h1 hl hv k8
  by_cases k1 : kd = 1
  · exact step_1 h hi h0 h1 hl hv k1
  by_cases k2 : kd = 2
  · exact step_2 h hi h0 h1 hl hv k2
  by_cases k3 : kd = 3
  · exact step_3 h hi h0 h1 hl hv k3
  by_cases k5 : kd = 5
  · exact step_5 h hi h0 h1 hl hv k5
  by_cases k7 : kd = 7
  · exact step_7 h hi h0 h1 hl hv k7
  exact step_no h hi h0 h1 hl hv ⟨k0, k8, k1, k2, k3, k5, k7⟩
end Go.Proofs.Ytangceejmjklcaa
