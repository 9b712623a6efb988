/- The walk of the reference's Rules.Answers. -/
import Derived.Test.YtdmjcgipfkhibaaSpec4
import Derived.Test.YtdmjcgipfkhibaaTail
import Derived.Deep.DrawnRows
import Derived.RegionTactic
import Derived.Deep.Cut
import Derived.Deep.RegionHeld3
import Derived.Deep.CutBlock
import Derived.Deep.DeepCutAuto
import Derived.Outline
namespace Go.Proofs.Ytdmjcgipfkhibaa
open Go.RowKit Go.BigFrame
attribute [local go_sem ↓] Go.wp_at_zero Go.wp_at_succ

def AnsPost (w : World) (l : List Pl.Ent) (b : Bool) (e : Ending) (w' : World) : Prop := ∃ u, e = .returned (.tuple #[u, .bool b]) ∧ EntS w' u l ∧ Bel w w'

/-- What stands in memory behind the first statements: the boxes of the rules, the step, the answer, and of what is due. -/
structure AnsMem (w : World) (H : Nat) (r : Pl.RulesD) (s0 s1 s2 : Int) (sl : Value) (ok : Bool) (val : Int) (ks vs : Value) (dok : Bool) (dv : Int) : Prop where
  r : Blk w H 28 (rulesCells r)
  s : Blk w (H + 1) 39 [.int .i64 s0, .int .i64 s1, .int .i64 s2, sl]
  g : Blk w (H + 1 + 1) 43 [.bool ok, .int .i64 val, ks, vs]
  d : Blk w (H + 1 + 1 + 1) 43 [.bool dok, .int .i64 dv, .slice none 0 0, .slice none 0 0]
theorem AnsMem.bel {w w' : World} {H : Nat} {r : Pl.RulesD} {s0 s1 s2 : Int} {sl : Value} {ok : Bool} {val : Int} {ks vs : Value} {dok : Bool} {dv : Int} (h : AnsMem w H r s0 s1 s2 sl ok val ks vs dok dv) (hb : Bel w w') : AnsMem w' H r s0 s1 s2 sl ok val ks vs dok dv :=
  ⟨h.r.bel hb, h.s.bel hb, h.g.bel hb, h.d.bel hb⟩
theorem AnsMem.drew {w : World} {H : Nat} {r : Pl.RulesD} {s0 s1 s2 : Int} {sl : Value} {ok : Bool} {val : Int} {ks vs : Value} {dok : Bool} {dv : Int} (h : AnsMem w H r s0 s1 s2 sl ok val ks vs dok dv) : AnsMem w.drew H r s0 s1 s2 sl ok val ks vs dok dv := ⟨h.r, h.s, h.g, h.d⟩
theorem AnsMem.setOk {w : World} {H : Nat} {r : Pl.RulesD} {s0 s1 s2 : Int} {sl : Value} {ok : Bool} {val : Int} {ks vs : Value} {dok : Bool} {dv : Int} (h : AnsMem w H r s0 s1 s2 sl ok val ks vs dok dv) (b : Bool) : AnsMem (w.setCell ⟨H + 1 + 1 + 1, 0, none⟩ (.bool b)) H r s0 s1 s2 sl ok val ks vs b dv :=
  ⟨h.r.far (by simp; omega) _, h.s.far (by simp) _, h.g.far (by simp) _, h.d.set 0 _⟩
theorem AnsMem.setVal {w : World} {H : Nat} {r : Pl.RulesD} {s0 s1 s2 : Int} {sl : Value} {ok : Bool} {val : Int} {ks vs : Value} {dok : Bool} {dv : Int} (h : AnsMem w H r s0 s1 s2 sl ok val ks vs dok dv) (x : Int) : AnsMem (w.setCell ⟨H + 1 + 1 + 1, 1, none⟩ (.int .i64 x)) H r s0 s1 s2 sl ok val ks vs dok x :=
  ⟨h.r.far (by simp; omega) _, h.s.far (by simp) _, h.g.far (by simp) _, h.d.set 1 _⟩
theorem bel_set {w w' : World} {p : Addr} {v : Value} (h : Bel w w') (hp : w.heap.size ≤ p.block) : Bel w (w'.setCell p v) := ((Kept.of_bel (S := []) h).setCell (.inr hp) v).bel
/-- The meeting point ahead of the last statement. -/
def AnsMeet (w wc : World) (s1v : Value) (r : Pl.RulesD) (l : List Pl.Ent) (S : Pl.StepD) (A : Pl.Ans) (sl ks vs : Value) : Prop :=
  EntS wc s1v (Pl.ansList r l S A) ∧ AnsMem wc w.heap.size r S.kind S.key S.val sl A.ok A.val ks vs (Pl.dueOk r l S) (Pl.dueVal r l S) ∧ Bel w wc ∧ Pl.ansB r l S A = (A.ok == Pl.dueOk r l S && decide (A.val = Pl.dueVal r l S) && Pl.none0 A)

theorem ansB_plain {r : Pl.RulesD} {l : List Pl.Ent} {S : Pl.StepD} {A : Pl.Ans} (h6 : S.kind = 6 → ¬ (r.values = false ∧ 0 < l.length)) (h7 : S.kind ≠ 7) :
    Pl.ansB r l S A = (A.ok == Pl.dueOk r l S && decide (A.val = Pl.dueVal r l S) && Pl.none0 A) := by
  unfold Pl.ansB
  rw [if_neg (by rintro ⟨h, h'⟩; exact h6 h h'), if_neg h7]

theorem len_zero (a b : Nat) : decide (a + b = 0) = ((a : Int) + (b : Int) == 0) := by
  by_cases h : a + b = 0
  · obtain ⟨rfl, rfl⟩ : a = 0 ∧ b = 0 := by omega
    rfl
  · rw [decide_eq_false h]
    symm
    exact beq_eq_false_iff_ne.2 (by omega)

/-- All cells of the four boxes. -/
theorem AnsMem.cells {w : World} {H : Nat} {r : Pl.RulesD} {s0 s1 s2 : Int} {sl : Value} {ok : Bool} {val : Int} {ks vs : Value} {dok : Bool} {dv : Int} (h : AnsMem w H r s0 s1 s2 sl ok val ks vs dok dv) :
    (w.cell? ⟨H, 0, none⟩ = some (.int .i64 r.first) ∧ w.cell? ⟨H, 1, none⟩ = some (.int .i64 r.last) ∧ w.cell? ⟨H, 2, none⟩ = some (.int .i64 r.cap) ∧ w.cell? ⟨H, 3, none⟩ = some (.bool r.values) ∧ w.cell? ⟨H, 4, none⟩ = some (.int .i64 r.absent) ∧ w.cell? ⟨H, 5, none⟩ = some (.bool r.found)) ∧
    (w.cell? ⟨H + 1, 0, none⟩ = some (.int .i64 s0) ∧ w.cell? ⟨H + 1, 1, none⟩ = some (.int .i64 s1) ∧ w.cell? ⟨H + 1, 2, none⟩ = some (.int .i64 s2) ∧ w.cell? ⟨H + 1, 3, none⟩ = some sl) ∧
    (w.cell? ⟨H + 1 + 1, 0, none⟩ = some (.bool ok) ∧ w.cell? ⟨H + 1 + 1, 1, none⟩ = some (.int .i64 val) ∧ w.cell? ⟨H + 1 + 1, 2, none⟩ = some ks ∧ w.cell? ⟨H + 1 + 1, 3, none⟩ = some vs) ∧
    (w.cell? ⟨H + 1 + 1 + 1, 0, none⟩ = some (.bool dok) ∧ w.cell? ⟨H + 1 + 1 + 1, 1, none⟩ = some (.int .i64 dv) ∧ w.frozen? ⟨H + 1 + 1 + 1, 0, none⟩ = false ∧ w.frozen? ⟨H + 1 + 1 + 1, 1, none⟩ = false) :=
  ⟨⟨h.r.cell 0, h.r.cell 1, h.r.cell 2, h.r.cell 3, h.r.cell 4, h.r.cell 5⟩, ⟨h.s.cell 0, h.s.cell 1, h.s.cell 2, h.s.cell 3⟩, ⟨h.g.cell 0, h.g.cell 1, h.g.cell 2, h.g.cell 3⟩, ⟨h.d.cell 0, h.d.cell 1, h.d.frozen 0, h.d.frozen 1⟩⟩

theorem bel_ents {w w1 : World} {v : Value} {l : List Pl.Ent} {p : Addr} {u : Value} (h : EntS w v l) (hb : Bel w w1) (hp : w.heap.size ≤ p.block) : EntS (w1.setCell p u) v l := h.bel (bel_set hb hp)

set_option maxRecDepth 100000 in
set_option maxHeartbeats 4000000 in
theorem answers_pop (r : Pl.RulesD) (lv sv gv : Value) (l : List Pl.Ent) (S : Pl.StepD) (A : Pl.Ans) (w : World) (hl : EntS w lv l) (hs : StepV w sv S) (hg : AnsV w gv A)
    (hn : l.length ≤ 500000) (hk : A.keys.length ≤ 1000000) (hv : A.vals.length ≤ 1000000) (h6 : S.kind = 6) (h3 : r.values = false) (hl0 : 0 < l.length) (hth : Pl.there l A.val = true) (hok : A.ok = true) :
    Calls Try.prog 35 #[rulesV r, lv, sv, gv] w (AnsPost w (Pl.ansList r l S A) (Pl.ansB r l S A)) := by
  obtain ⟨sl, rfl, hSL⟩ := hs
  obtain ⟨ks, vs, rfl, hK, hX⟩ := hg
  obtain ⟨r0, r1, r2, r3, r4, r5⟩ := r
  obtain ⟨s0, s1, s2, sl'⟩ := S
  obtain ⟨ok, val, kl, vl⟩ := A
  simp only at *
  subst h6 h3 hok
  have e6 : Pl.ansList ⟨r0, r1, r2, false, r4, r5⟩ l ⟨6, s1, s2, sl'⟩ ⟨true, val, kl, vl⟩ = Pl.without l val ∧ Pl.ansB ⟨r0, r1, r2, false, r4, r5⟩ l ⟨6, s1, s2, sl'⟩ ⟨true, val, kl, vl⟩ = (Pl.there l val && true && decide (kl.length + vl.length = 0)) := ⟨by simp [Pl.ansList, hl0], by simp [Pl.ansB, hl0, Pl.none0]⟩
  rw [e6.1, e6.2, len_zero, hth]
  simp only [Bool.true_and]
  clear e6 hSL
  have HG := Lib.hid (fun (W : World) (hb : Bel w W) (k : Int) => get_any' lv l k W (hl.bel hb) (by omega))
  have HG2 := Lib.hid (fun (W : World) (hb : Bel w W) => get_any' lv l val W (hl.bel hb) (by omega))
  have HWO := Lib.hid (fun (W : World) (hW : Bel w W) => without_any lv l val W (hl.bel hW) (by omega))
  have HL := Lib.hid hl
  obtain ⟨la, lc, rfl, _, _, _⟩ := hl
  obtain ⟨ka, kc, rfl, _, _, _⟩ := hK
  obtain ⟨va, vc, rfl, _, _, _⟩ := hX
  rw [hth] at HG2
  clear hth
  have m1 : IntKind.i64.wrap ((kl.length : Int) + (vl.length : Int)) = (kl.length : Int) + (vl.length : Int) := IntWalk.i64_in _ (by omega)
  go_enter Try.func35, Try.ntmps35
  go_wp2_with fail
  refine (HG.out _ ((((Bel.refl w).alloc _).alloc _).alloc _ |>.alloc _) _).mono ?_
  rintro e w1 ⟨rfl, hb1⟩
  obtain ⟨hB0, hB1, hB2, hB3, hbw⟩ := blk4 hb1
  have cr3 : w1.cell? ⟨w.heap.size, 3, none⟩ = some (.bool false) := hB0.cell 3
  have cs0 : w1.cell? ⟨w.heap.size + 1, 0, none⟩ = some (.int .i64 6) := hB1.cell 0
  have cg1 : w1.cell? ⟨w.heap.size + 1 + 1, 1, none⟩ = some (.int .i64 val) := hB2.cell 1
  clear hb1
  go_wp2_with fail
  refine (HG2.out _ hbw).mono ?_
  rintro e w2 ⟨rfl, hb2⟩
  have hbw2 := hbw.trans hb2
  have hG2 := hB2.bel hb2
  have dg0 : w2.cell? ⟨w.heap.size + 1 + 1, 0, none⟩ = some (.bool true) := hG2.cell 0
  have dg1 : w2.cell? ⟨w.heap.size + 1 + 1, 1, none⟩ = some (.int .i64 val) := hG2.cell 1
  have dg2 : w2.cell? ⟨w.heap.size + 1 + 1, 2, none⟩ = some (.slice ka kl.length kc) := hG2.cell 2
  have dg3 : w2.cell? ⟨w.heap.size + 1 + 1, 3, none⟩ = some (.slice va vl.length vc) := hG2.cell 3
  have HG3 := Lib.hid hG2
  clear cr3 cs0 cg1 hbw hb2 HG HG2 hB0 hB1 hB2 hB3 hG2
  go_upto_region 24 with (fail)
  go_region_held3 (fun w' => w'.cell? ⟨w.heap.size + 1 + 1, 0, none⟩ = some (.bool true) ∧ w'.cell? ⟨w.heap.size + 1 + 1, 1, none⟩ = some (.int .i64 val) ∧ w'.cell? ⟨w.heap.size + 1 + 1, 2, none⟩ = some (.slice ka kl.length kc) ∧ w'.cell? ⟨w.heap.size + 1 + 1, 3, none⟩ = some (.slice va vl.length vc))
    (first | exact k3 | go_keep)
    (first
      | (go_at_call 25; refine (HWO.out _ hbw2.drew).mono ?_; rintro e w3 ⟨u, rfl, hu, hb3⟩; have HU := Lib.hid (And.intro hu hb3); clear hu; have k3 := And.intro (hb3.cell (show w2.drew.cell? _ = _ from dg0)) (And.intro (hb3.cell (show w2.drew.cell? _ = _ from dg1)) (And.intro (hb3.cell (show w2.drew.cell? _ = _ from dg2)) (hb3.cell (show w2.drew.cell? _ = _ from dg3))))))
  go_wp2
  go_ret2
  exact ⟨_, rfl, HU.out.1, (hbw2.drew).trans HU.out.2⟩
end Go.Proofs.Ytdmjcgipfkhibaa
