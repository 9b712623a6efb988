/- The walk of laws.alike (answers that are alike); a map's answers tell their keys once. -/
import Derived.Test.YtdmjcgipfkhibaaBia5
import Derived.Test.YtdmjcgipfkhibaaMapL2
namespace Go.Proofs.Ytdmjcgipfkhibaa
open Go.RowKit

theorem sorted_len {ks vs : List Int} {t : List Pl.Ent} (h : Pl.sortedOf ks vs = some t) : t.length ≤ ks.length := by
  unfold Pl.sortedOf at h
  split at h
  · have := Pl.sortedFrom_length _ _ _ h
    simp only [List.length_nil, List.length_zip] at this
    omega
  · cases h
theorem bbb (b : Bool) : (b == b) = true := by cases b <;> rfl

set_option maxHeartbeats 2000000 in
theorem alike_right {w : World} {v u : Value} {A B : Pl.Ans} (hv : AnsV w v A) (hu : AnsV w u B) {t : List Pl.Ent} (hA : Pl.sortedOf A.keys A.vals = some t) (hB : Pl.sortedOf B.keys B.vals = some t) (hk : A.keys.length ≤ 1000000) (hk' : B.keys.length ≤ 1000000) (ho : A.ok = B.ok) (hx : A.val = B.val) :
    Calls Try.prog 31 #[v, u] w fun e w' => e = .returned (.bool true) ∧ Bel w w' := by
  obtain ⟨k, x, rfl, hK, hX⟩ := hv
  obtain ⟨k', x', rfl, hK', hX'⟩ := hu
  obtain ⟨ok, val, ks, vs⟩ := A
  obtain ⟨ok', val', ks', vs'⟩ := B
  simp only at *
  subst ho hx
  have htl := sorted_len hA
  have HA := Lib.hid hA; clear hA
  have HB := Lib.hid hB; clear hB
  have HK := Lib.hid hK
  have HX := Lib.hid hX
  have HK' := Lib.hid hK'
  have HX' := Lib.hid hX'
  obtain ⟨ka, kc, rfl, _, _, _⟩ := hK
  obtain ⟨xa, xc, rfl, _, _, _⟩ := hX
  obtain ⟨ka', kc', rfl, _, _, _⟩ := hK'
  obtain ⟨xa', xc', rfl, _, _, _⟩ := hX'
  have n0 := bbb ok
  have n1 : (val == val) = true := by simp
  go_enter Try.func31, Try.ntmps31
  go_wp2_with fail
  have hb0 := ((Bel.refl w).alloc (.cells #[.bool ok, .int .i64 val, .slice ka ks.length kc, .slice xa vs.length xc] 43)).alloc (.cells #[.bool ok, .int .i64 val, .slice ka' ks'.length kc', .slice xa' vs'.length xc'] 43)
  have hB1 := (Blk.new w 43 [.bool ok, .int .i64 val, .slice ka ks.length kc, .slice xa vs.length xc]).alloc (.cells #[.bool ok, .int .i64 val, .slice ka' ks'.length kc', .slice xa' vs'.length xc'] 43)
  have hB2 := Blk.new (w.alloc (.cells #[.bool ok, .int .i64 val, .slice ka ks.length kc, .slice xa vs.length xc] 43)) 43 [.bool ok, .int .i64 val, .slice ka' ks'.length kc', .slice xa' vs'.length xc']
  rw [World.size_alloc] at hB2
  have HBB := Lib.hid (And.intro hB1 hB2); clear hB1 hB2
  refine (sorted_any _ _ ks vs _ (HK.out.bel hb0) (HX.out.bel hb0) hk).mono ?_
  rw [HA.out]
  rintro e w1 ⟨u1, rfl, hE1, hb1⟩
  have HE1 : Hid (EntS w1 u1 t) := Lib.hid hE1
  clear hE1
  obtain ⟨⟨c0, c1, c2, c3⟩, _⟩ := four_cells (HBB.out.1.bel hb1)
  obtain ⟨⟨d0, d1, d2, d3⟩, _⟩ := four_cells (HBB.out.2.bel hb1)
  have hb01 := hb0.trans hb1
  have HBB1 := Lib.hid (And.intro (HBB.out.1.bel hb1) (HBB.out.2.bel hb1))
  clear hb0 hb1
  go_wp2_with fail
  refine (sorted_any _ _ ks' vs' _ (HK'.out.bel hb01) (HX'.out.bel hb01) hk').mono ?_
  rw [HB.out]
  rintro e w2 ⟨u2, rfl, hE2, hb2⟩
  have HE2 : Hid (EntS w2 u2 t) := Lib.hid hE2
  clear hE2 c0 c1 c2 c3 d0 d1 d2 d3
  have HSM := Lib.hid (same_ents _ _ t t w2 (HE1.out.bel hb2) HE2.out (by omega) (by omega))
  rw [decide_eq_true rfl] at HSM
  go_wp2_with fail
  refine HSM.out.mono ?_
  rintro e w3 ⟨rfl, hb3⟩
  obtain ⟨⟨c0, c1, c2, c3⟩, _⟩ := four_cells ((HBB1.out.1.bel hb2).bel hb3)
  obtain ⟨⟨d0, d1, d2, d3⟩, _⟩ := four_cells ((HBB1.out.2.bel hb2).bel hb3)
  have hb4 := (hb01.trans hb2).trans hb3
  clear hb01 hb2 hb3
  go_wp2
  go_ret
  exact ⟨rfl, hb4⟩

theorem mapA_sorted {r : Pl.RulesD} {l d : List Pl.Ent} (h : Pl.Rep l d) (s : Pl.StepD) : ∃ t, Pl.sortedOf (Pl.mapA r d s).keys (Pl.mapA r d s).vals = some t := by
  unfold Pl.mapA
  repeat' split
  all_goals first | exact ⟨l, sorted_rep h⟩ | exact ⟨[], rfl⟩
theorem mapRun_sorted {r : Pl.RulesD} (hr : r.values = true) : ∀ (S : List Pl.StepD) (l d : List Pl.Ent), Pl.Rep l d → ∀ A ∈ Pl.mapRun r d S, ∃ t, Pl.sortedOf A.keys A.vals = some t
  | [], _, _, _, A, hA => by cases hA
  | s :: S, l, d, h, A, hA => by
    rcases List.mem_cons.1 hA with rfl | hA
    · exact mapA_sorted h s
    · exact mapRun_sorted hr S _ _ (map_step hr h s).2 A hA
end Go.Proofs.Ytdmjcgipfkhibaa
