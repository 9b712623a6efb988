/- The walk of FnSetUndone. -/
import Derived.Test.YtlagnbiokhnhlaaLaw3
import Derived.Deep.RegionHeld3
import Derived.Deep.DrawnRows
import Derived.Deep.Cut
namespace Go.Proofs.Ytlagnbiokhnhlaa
open Go.RowKit

attribute [local go_sem ↓] Go.wp_at_zero Go.wp_at_succ

/-- What the set has behind both steps. -/
def undE (b : Bool) (d : List Pl.Ent) (x : Int) : List Pl.Ent := if b then addE (remE d x) x else remE (addE d x) x
theorem und_rep {l d : List Pl.Ent} (h : Pl.Rep l d) (hz : Zero d) (x : Int) : Pl.Rep l (undE (inB d x) d x) ∧ Zero (undE (inB d x) d x) := by
  unfold undE
  cases hb : inB d x
  · have hno : ∀ v, (x, v) ∉ d := fun v hv => by rw [inB_iff.2 ⟨v, hv⟩] at hb; cases hb
    have h1 := rep_rem (rep_add h hz x) x
    refine ⟨?_, remE_zero (rep_add h hz x).nodup (addE_zero hz x) x⟩
    have e : Pl.without (Pl.put l x 0) x = l := Pl.srt_ext (Pl.without_srt (Pl.put_srt h.srt x 0) x) h.srt (fun e => by
      rw [Pl.mem_without, Pl.mem_put h.srt]
      constructor
      · rintro ⟨rfl | ⟨h2, _⟩, h3⟩
        · exact absurd rfl h3
        · exact h2
      · intro he
        have hne : e.1 ≠ x := fun hx => hno e.2 (by rw [← hx]; exact (h.mem e).1 he)
        exact ⟨.inr ⟨he, hne⟩, hne⟩)
    rw [e] at h1
    exact h1
  · obtain ⟨v, hv⟩ := inB_iff.1 hb
    have : v = 0 := hz _ hv
    subst this
    have h1 := rep_add (rep_rem h x) (remE_zero h.nodup hz x) x
    refine ⟨?_, addE_zero (remE_zero h.nodup hz x) x⟩
    have e : Pl.put (Pl.without l x) x 0 = l := Pl.srt_ext (Pl.put_srt (Pl.without_srt h.srt x) x 0) h.srt (fun e => by
      rw [Pl.mem_put (Pl.without_srt h.srt x), Pl.mem_without]
      constructor
      · rintro (rfl | ⟨⟨h2, _⟩, _⟩)
        · exact (h.mem _).2 hv
        · exact h2
      · intro he
        by_cases hx : e.1 = x
        · exact .inl (Pl.srt_unique h.srt he ((h.mem _).2 hv) hx)
        · exact .inr ⟨⟨he, hx⟩, hx⟩)
    rw [e] at h1
    exact h1
theorem four_two {w : World} {b b' : Nat} {t : TypeId} {c0 c1 c2 c3 d0 d1 d2 d3 : Value} (h : Blk w b t [c0, c1, c2, c3]) (h' : Blk w b' t [d0, d1, d2, d3]) : w.cell? ⟨b, 0, none⟩ = some c0 ∧ w.cell? ⟨b, 1, none⟩ = some c1 ∧ w.cell? ⟨b, 2, none⟩ = some c2 ∧ w.cell? ⟨b, 3, none⟩ = some c3 ∧ w.cell? ⟨b', 0, none⟩ = some d0 ∧ w.cell? ⟨b', 1, none⟩ = some d1 ∧ w.cell? ⟨b', 2, none⟩ = some d2 ∧ w.cell? ⟨b', 3, none⟩ = some d3 :=
  ⟨h.cell 0, h.cell 1, h.cell 2, h.cell 3, h'.cell 0, h'.cell 1, h'.cell 2, h'.cell 3⟩

set_option maxRecDepth 100000 in
set_option maxHeartbeats 8000000 in
theorem undone_false (n : Nat) (l : List Int) (v : Value) (x : Int) (w : World) (h : IntS w v l) (hp : plainB n l = true) (hx0 : 0 ≤ x) (hx1 : x < n) (hb : inB (Pl.setAt [] (l.map addS)) x = false) :
    Calls Try.prog 11 #[.int .i64 n, v, .int .i64 x] w fun e w' => e = .returned (.bool true) ∧ Bel w w' := by
  have HP := Lib.hid (plain_any n v l w h)
  rw [hp] at HP
  obtain ⟨p0, p1, p2, p3⟩ := plainB_iff.1 hp
  clear hp
  have HH := Lib.hid h
  obtain ⟨a, c, rfl, hlc, hcm, _⟩ := h
  have HP3 := Lib.hid p3; clear p3
  have hple := Pl.putAll_length [] l
  simp only [List.length_nil] at hple
  have y0 : ¬ x < 0 := by omega
  have y1 : ¬ (n : Int) ≤ x := by omega
  have HBB := Lib.hid hb; clear hb
  go_enter Try.func11, Try.ntmps11
  go_wp2_with fail
  refine HP.out.mono ?_
  rintro e w' ⟨rfl, rfl⟩
  go_wp2_with fail
  refine (entries_any (HH.out.bel (((Bel.refl w).alloc _).alloc _)) (by omega)).mono ?_
  rintro e wA ⟨uA, rfl, hEA, hbA⟩
  have HEA := Lib.hid hEA; clear hEA
  go_wp2_with fail
  refine (place_ents _ _ x _ HEA.out (by omega)).mono ?_
  rintro e wB ⟨rfl, hbB⟩
  rw [there_inB (adds_rep l).1 x, HBB.out]
  obtain ⟨hB0, hB1, hbwB⟩ := blk2 (hbA.trans hbB)
  clear hbA hbB HEA
  obtain ⟨⟨r0, r1, r2, r3⟩, t0, t1, t2, t3⟩ := four_cells hB0
  obtain ⟨⟨r4, r5, r6, r7⟩, t4, t5, t6, t7⟩ := four_cells hB1
  go_upto_region 9 with (fail)
  have hbw0 := hbwB
  have hC0 := hB0
  have hC1 := hB1
  clear hB0 hB1 hbwB r0 r1 r2 r3 r4 r5 r6 r7 t0 t1 t2 t3 t4 t5 t6 t7
  obtain ⟨w0, hw0⟩ : ∃ w0 : World, w0 = wB := ⟨_, rfl⟩
  subst hw0
  have HB0 := Lib.hid hC0
  have HB1 := Lib.hid hC1
  obtain ⟨c0, c1, c2, c3, c4, c5, c6, c7⟩ := four_two hC0 hC1
  have hlt0 := hC0.lt
  have hlt1 := hC1.lt
  clear hC0 hC1
  go_region_held3 (fun w' => w'.cell? ⟨w.heap.size, 0, none⟩ = some (.int .i64 0) ∧ w'.cell? ⟨w.heap.size, 1, none⟩ = some (.int .i64 x) ∧ w'.cell? ⟨w.heap.size, 2, none⟩ = some (.int .i64 0) ∧ w'.cell? ⟨w.heap.size, 3, none⟩ = some (.slice none 0 0) ∧ w'.cell? ⟨w.heap.size + 1, 0, none⟩ = some (.int .i64 1) ∧ w'.cell? ⟨w.heap.size + 1, 1, none⟩ = some (.int .i64 x) ∧ w'.cell? ⟨w.heap.size + 1, 2, none⟩ = some (.int .i64 0) ∧ w'.cell? ⟨w.heap.size + 1, 3, none⟩ = some (.slice none 0 0))
    (first | exact k6 | exact k5 | exact k2 | exact k1 | go_keep)
    (first
      | (go_at_call 21; refine (adds_any (HH.out.bel hbw0.drew) (by omega)).mono ?_; rintro e w1 ⟨u1, rfl, ho1, hb1⟩; have HO1 := Lib.hid ho1; clear ho1; have hD0 := HB0.out.drew.bel hb1; have hD1 := HB1.out.drew.bel hb1; have k1 := four_two hD0 hD1; have z1 : w0.heap.size ≤ w1.heap.size := hb1.size)
      | (go_at_call 22; refine (step_any 7 _).mono ?_; rintro e w2 ⟨rfl, hb2⟩; have k2 := four_two (hD0.bel hb2) (hD1.bel hb2); have z2 : w1.heap.size ≤ w2.heap.size := hb2.size)
      | (refine step_appm el30 (by rfl) (.tmp 44) (.tmp 48) (by rfl) w0.heap.size u1 l.length (stepCells (l.map addT)) (by rfl) ((own_bel HO1.out hb2).alloc _) w2.heap.size 3 3 [.int .i64 0, .int .i64 x, .int .i64 0, .slice none 0 0, .int .i64 1, .int .i64 x, .int .i64 0, .slice none 0 0, .int .i64 7, .int .i64 0, .int .i64 0, .slice none 0 0] (by rfl) (Blk.new _ _ _) (by rfl) (by decide) (by simp [Value.oneCell']) (by omega) (by omega) (by simp only [World.size_alloc]; omega) ?_; intro g5 cap5 w5 ho5 hg5 _ _; have HJ := Lib.hid (held_app (T := [⟨0, x, 0, []⟩, ⟨1, x, 0, []⟩, ⟨7, 0, 0, []⟩]) hbw0 hb1 hb2 HO1.out hg5 ho5 (by simp)); have hF0 := HJ.out.2.2 (hD0.bel hb2) hlt0; have hF1 := HJ.out.2.2 (hD1.bel hb2) hlt1; have k5 := four_two hF0 hF1; clear ho5 hg5)
      | (go_at_call 19; refine (set_any n _ _ _ (by omega) HJ.out.2.1 (by simp; omega) (stepIn_script HP3.out (by simp; exact ⟨keyS_in 0 hx0 hx1, keyS_in 1 hx0 hx1, StepIn.kind (by omega) 7⟩))).mono ?_; rintro e w6 ⟨u6, rfl, hA6, hb6⟩; have HA6 := Lib.hid hA6; clear hA6; have k6 := four_two (hF0.bel hb6) (hF1.bel hb6)))
  have hbw6 := HJ.out.1.trans hb6
  clear k1 k2 k5 k6 hD0 hD1 hF0 hF1 HB0 HB1 HO1 hb1 hb2 hb6 HJ c0 c1 c2 c3 c4 c5 c6 c7 hbw0 z1 z2
  obtain ⟨hR, hZ⟩ := und_rep (adds_rep l).1 (adds_rep l).2 x
  rw [HBB.out] at hR hZ
  have q1' : (Pl.setRun n [] (l.map addS ++ [⟨0, x, 0, []⟩, ⟨1, x, 0, []⟩, ⟨7, 0, 0, []⟩]))[l.length + 2]? = some ⟨false, 0, (undE false (Pl.setAt [] (l.map addS)) x).map (·.1), []⟩ := script_at n l [⟨0, x, 0, []⟩, ⟨1, x, 0, []⟩, ⟨7, 0, 0, []⟩] 2
  have hAl : (Pl.setRun n [] (l.map addS ++ [⟨0, x, 0, []⟩, ⟨1, x, 0, []⟩, ⟨7, 0, 0, []⟩])).length = l.length + 3 := by rw [setRun_length]; simp
  have hA6 := HA6.out
  obtain ⟨a6, c6, rfl, _, _, _⟩ := id hA6
  obtain ⟨b, k0, x0, rfl, _, _, g1, _, hk1, _⟩ := ansS_at hA6 q1'
  have HK1 := Lib.hid hk1
  obtain ⟨ka, kc, rfl, _, _, _⟩ := hk1
  clear hA6 q1' HA6
  have HRZ := Lib.hid (tells_rep hR hZ)
  generalize hD : undE false (Pl.setAt [] (l.map addS)) x = D at *
  have hDl : D.length ≤ 1000 := by have h1 := hR.length; omega
  clear hD hR hZ
  rw [hAl]
  clear hAl
  simp only [List.length_map] at g1 HK1
  have m3 : (((l.length + 3 : Nat) : Int) == (l.length : Int) + 3) = true := by simp
  have i1 : IntKind.i64.wrap ((l.length : Int) + 3) = (l.length : Int) + 3 := IntWalk.i64_in _ (by omega)
  have i3 : IntKind.i64.wrap ((l.length : Int) + 2) = (l.length : Int) + 2 := IntWalk.i64_in _ (by omega)
  have j3 : (0 : Int) ≤ (l.length : Int) + 2 := by omega
  have j4 : (l.length : Int) + 2 < ((l.length + 3 : Nat) : Int) := by omega
  have j6 : ((l.length : Int) + 2).toNat = l.length + 2 := by omega
  go_upto_region 10 with (fail)
  go_region_held3 (fun w' => w'.cell? ⟨b, (l.length + 2) * 4 + 2, none⟩ = some (.slice ka D.length kc))
    (first | exact k9 | exact k7 | go_keep)
    (first
      | (go_at_call 23; refine (entries_any (HH.out.bel hbw6.drew) (by omega)).mono ?_; rintro e w7 ⟨u7, rfl, hE7, hb7⟩; have HE7 := Lib.hid hE7; clear hE7; have k7 := hb7.cell g1)
      | (go_at_call 24; refine (tells_any (HK1.out.bel ((Bel.refl w6).drew.trans hb7)) HE7.out (by simp; omega) (by omega)).mono ?_; rw [HRZ.out]; rintro e w9 ⟨rfl, hb9⟩; have k9 := hb9.cell k7))
  go_wp2
  go_ret
  exact ⟨rfl, hbw6.drew.trans (hb7.trans hb9)⟩

set_option maxRecDepth 100000 in
set_option maxHeartbeats 8000000 in
theorem undone_true (n : Nat) (l : List Int) (v : Value) (x : Int) (w : World) (h : IntS w v l) (hp : plainB n l = true) (hx0 : 0 ≤ x) (hx1 : x < n) (hb : inB (Pl.setAt [] (l.map addS)) x = true) :
    Calls Try.prog 11 #[.int .i64 n, v, .int .i64 x] w fun e w' => e = .returned (.bool true) ∧ Bel w w' := by
  have HP := Lib.hid (plain_any n v l w h)
  rw [hp] at HP
  obtain ⟨p0, p1, p2, p3⟩ := plainB_iff.1 hp
  clear hp
  have HH := Lib.hid h
  obtain ⟨a, c, rfl, hlc, hcm, _⟩ := h
  have HP3 := Lib.hid p3; clear p3
  have hple := Pl.putAll_length [] l
  simp only [List.length_nil] at hple
  have y0 : ¬ x < 0 := by omega
  have y1 : ¬ (n : Int) ≤ x := by omega
  have HBB := Lib.hid hb; clear hb
  go_enter Try.func11, Try.ntmps11
  go_wp2_with fail
  refine HP.out.mono ?_
  rintro e w' ⟨rfl, rfl⟩
  go_wp2_with fail
  refine (entries_any (HH.out.bel (((Bel.refl w).alloc _).alloc _)) (by omega)).mono ?_
  rintro e wA ⟨uA, rfl, hEA, hbA⟩
  have HEA := Lib.hid hEA; clear hEA
  go_wp2_with fail
  refine (place_ents _ _ x _ HEA.out (by omega)).mono ?_
  rintro e wB ⟨rfl, hbB⟩
  rw [there_inB (adds_rep l).1 x, HBB.out]
  obtain ⟨hB0, hB1, hbwB⟩ := blk2 (hbA.trans hbB)
  clear hbA hbB HEA
  obtain ⟨⟨r0, r1, r2, r3⟩, t0, t1, t2, t3⟩ := four_cells hB0
  obtain ⟨⟨r4, r5, r6, r7⟩, t4, t5, t6, t7⟩ := four_cells hB1
  go_upto_region 9 with (fail)
  have hC0 := ((((((((hB0.set 0 (.int .i64 1)).set 1 (.int .i64 x)).set 2 (.int .i64 0)).set 3 (.slice none 0 0)).far (p := ⟨w.heap.size + 1, 0, none⟩) (by simp) (.int .i64 0)).far (p := ⟨w.heap.size + 1, 1, none⟩) (by simp) (.int .i64 x)).far (p := ⟨w.heap.size + 1, 2, none⟩) (by simp) (.int .i64 0)).far (p := ⟨w.heap.size + 1, 3, none⟩) (by simp) (.slice none 0 0))
  have hC1 := ((((((((hB1.far (p := ⟨w.heap.size, 0, none⟩) (by simp) (.int .i64 1)).far (p := ⟨w.heap.size, 1, none⟩) (by simp) (.int .i64 x)).far (p := ⟨w.heap.size, 2, none⟩) (by simp) (.int .i64 0)).far (p := ⟨w.heap.size, 3, none⟩) (by simp) (.slice none 0 0)).set 0 (.int .i64 0)).set 1 (.int .i64 x)).set 2 (.int .i64 0)).set 3 (.slice none 0 0))
  have hbw0 := ((((((((Kept.of_bel (S := []) hbwB).setCell (p := ⟨w.heap.size, 0, none⟩) (.inr (Nat.le_refl _)) (.int .i64 1)).setCell (p := ⟨w.heap.size, 1, none⟩) (.inr (Nat.le_refl _)) (.int .i64 x)).setCell (p := ⟨w.heap.size, 2, none⟩) (.inr (Nat.le_refl _)) (.int .i64 0)).setCell (p := ⟨w.heap.size, 3, none⟩) (.inr (Nat.le_refl _)) (.slice none 0 0)).setCell (p := ⟨w.heap.size + 1, 0, none⟩) (.inr (Nat.le_succ _)) (.int .i64 0)).setCell (p := ⟨w.heap.size + 1, 1, none⟩) (.inr (Nat.le_succ _)) (.int .i64 x)).setCell (p := ⟨w.heap.size + 1, 2, none⟩) (.inr (Nat.le_succ _)) (.int .i64 0)).setCell (p := ⟨w.heap.size + 1, 3, none⟩) (.inr (Nat.le_succ _)) (.slice none 0 0) |>.bel
  clear hB0 hB1 hbwB r0 r1 r2 r3 r4 r5 r6 r7 t0 t1 t2 t3 t4 t5 t6 t7
  simp only [List.set_cons_zero, List.set_cons_succ] at hC0 hC1
  generalize (((((((wB.setCell ⟨w.heap.size, 0, none⟩ (.int .i64 1)).setCell ⟨w.heap.size, 1, none⟩ (.int .i64 x)).setCell ⟨w.heap.size, 2, none⟩ (.int .i64 0)).setCell ⟨w.heap.size, 3, none⟩ (.slice none 0 0)).setCell ⟨w.heap.size + 1, 0, none⟩ (.int .i64 0)).setCell ⟨w.heap.size + 1, 1, none⟩ (.int .i64 x)).setCell ⟨w.heap.size + 1, 2, none⟩ (.int .i64 0)).setCell ⟨w.heap.size + 1, 3, none⟩ (.slice none 0 0) = w0 at hC0 hC1 hbw0 ⊢
  have HB0 := Lib.hid hC0
  have HB1 := Lib.hid hC1
  obtain ⟨c0, c1, c2, c3, c4, c5, c6, c7⟩ := four_two hC0 hC1
  have hlt0 := hC0.lt
  have hlt1 := hC1.lt
  clear hC0 hC1
  go_region_held3 (fun w' => w'.cell? ⟨w.heap.size, 0, none⟩ = some (.int .i64 1) ∧ w'.cell? ⟨w.heap.size, 1, none⟩ = some (.int .i64 x) ∧ w'.cell? ⟨w.heap.size, 2, none⟩ = some (.int .i64 0) ∧ w'.cell? ⟨w.heap.size, 3, none⟩ = some (.slice none 0 0) ∧ w'.cell? ⟨w.heap.size + 1, 0, none⟩ = some (.int .i64 0) ∧ w'.cell? ⟨w.heap.size + 1, 1, none⟩ = some (.int .i64 x) ∧ w'.cell? ⟨w.heap.size + 1, 2, none⟩ = some (.int .i64 0) ∧ w'.cell? ⟨w.heap.size + 1, 3, none⟩ = some (.slice none 0 0))
    (first | exact k6 | exact k5 | exact k2 | exact k1 | go_keep)
    (first
      | (go_at_call 21; refine (adds_any (HH.out.bel hbw0.drew) (by omega)).mono ?_; rintro e w1 ⟨u1, rfl, ho1, hb1⟩; have HO1 := Lib.hid ho1; clear ho1; have hD0 := HB0.out.drew.bel hb1; have hD1 := HB1.out.drew.bel hb1; have k1 := four_two hD0 hD1; have z1 : w0.heap.size ≤ w1.heap.size := hb1.size)
      | (go_at_call 22; refine (step_any 7 _).mono ?_; rintro e w2 ⟨rfl, hb2⟩; have k2 := four_two (hD0.bel hb2) (hD1.bel hb2); have z2 : w1.heap.size ≤ w2.heap.size := hb2.size)
      | (refine step_appm el30 (by rfl) (.tmp 44) (.tmp 48) (by rfl) w0.heap.size u1 l.length (stepCells (l.map addT)) (by rfl) ((own_bel HO1.out hb2).alloc _) w2.heap.size 3 3 [.int .i64 1, .int .i64 x, .int .i64 0, .slice none 0 0, .int .i64 0, .int .i64 x, .int .i64 0, .slice none 0 0, .int .i64 7, .int .i64 0, .int .i64 0, .slice none 0 0] (by rfl) (Blk.new _ _ _) (by rfl) (by decide) (by simp [Value.oneCell']) (by omega) (by omega) (by simp only [World.size_alloc]; omega) ?_; intro g5 cap5 w5 ho5 hg5 _ _; have HJ := Lib.hid (held_app (T := [⟨1, x, 0, []⟩, ⟨0, x, 0, []⟩, ⟨7, 0, 0, []⟩]) hbw0 hb1 hb2 HO1.out hg5 ho5 (by simp)); have hF0 := HJ.out.2.2 (hD0.bel hb2) hlt0; have hF1 := HJ.out.2.2 (hD1.bel hb2) hlt1; have k5 := four_two hF0 hF1; clear ho5 hg5)
      | (go_at_call 19; refine (set_any n _ _ _ (by omega) HJ.out.2.1 (by simp; omega) (stepIn_script HP3.out (by simp; exact ⟨keyS_in 1 hx0 hx1, keyS_in 0 hx0 hx1, StepIn.kind (by omega) 7⟩))).mono ?_; rintro e w6 ⟨u6, rfl, hA6, hb6⟩; have HA6 := Lib.hid hA6; clear hA6; have k6 := four_two (hF0.bel hb6) (hF1.bel hb6)))
  have hbw6 := HJ.out.1.trans hb6
  clear k1 k2 k5 k6 hD0 hD1 hF0 hF1 HB0 HB1 HO1 hb1 hb2 hb6 HJ c0 c1 c2 c3 c4 c5 c6 c7 hbw0 z1 z2
  obtain ⟨hR, hZ⟩ := und_rep (adds_rep l).1 (adds_rep l).2 x
  rw [HBB.out] at hR hZ
  have q1' : (Pl.setRun n [] (l.map addS ++ [⟨1, x, 0, []⟩, ⟨0, x, 0, []⟩, ⟨7, 0, 0, []⟩]))[l.length + 2]? = some ⟨false, 0, (undE true (Pl.setAt [] (l.map addS)) x).map (·.1), []⟩ := script_at n l [⟨1, x, 0, []⟩, ⟨0, x, 0, []⟩, ⟨7, 0, 0, []⟩] 2
  have hAl : (Pl.setRun n [] (l.map addS ++ [⟨1, x, 0, []⟩, ⟨0, x, 0, []⟩, ⟨7, 0, 0, []⟩])).length = l.length + 3 := by rw [setRun_length]; simp
  have hA6 := HA6.out
  obtain ⟨a6, c6, rfl, _, _, _⟩ := id hA6
  obtain ⟨b, k0, x0, rfl, _, _, g1, _, hk1, _⟩ := ansS_at hA6 q1'
  have HK1 := Lib.hid hk1
  obtain ⟨ka, kc, rfl, _, _, _⟩ := hk1
  clear hA6 q1' HA6
  have HRZ := Lib.hid (tells_rep hR hZ)
  generalize hD : undE true (Pl.setAt [] (l.map addS)) x = D at *
  have hDl : D.length ≤ 1000 := by have h1 := hR.length; omega
  clear hD hR hZ
  rw [hAl]
  clear hAl
  simp only [List.length_map] at g1 HK1
  have m3 : (((l.length + 3 : Nat) : Int) == (l.length : Int) + 3) = true := by simp
  have i1 : IntKind.i64.wrap ((l.length : Int) + 3) = (l.length : Int) + 3 := IntWalk.i64_in _ (by omega)
  have i3 : IntKind.i64.wrap ((l.length : Int) + 2) = (l.length : Int) + 2 := IntWalk.i64_in _ (by omega)
  have j3 : (0 : Int) ≤ (l.length : Int) + 2 := by omega
  have j4 : (l.length : Int) + 2 < ((l.length + 3 : Nat) : Int) := by omega
  have j6 : ((l.length : Int) + 2).toNat = l.length + 2 := by omega
  go_upto_region 10 with (fail)
  go_region_held3 (fun w' => w'.cell? ⟨b, (l.length + 2) * 4 + 2, none⟩ = some (.slice ka D.length kc))
    (first | exact k9 | exact k7 | go_keep)
    (first
      | (go_at_call 23; refine (entries_any (HH.out.bel hbw6.drew) (by omega)).mono ?_; rintro e w7 ⟨u7, rfl, hE7, hb7⟩; have HE7 := Lib.hid hE7; clear hE7; have k7 := hb7.cell g1)
      | (go_at_call 24; refine (tells_any (HK1.out.bel ((Bel.refl w6).drew.trans hb7)) HE7.out (by simp; omega) (by omega)).mono ?_; rw [HRZ.out]; rintro e w9 ⟨rfl, hb9⟩; have k9 := hb9.cell k7))
  go_wp2
  go_ret
  exact ⟨rfl, hbw6.drew.trans (hb7.trans hb9)⟩

theorem undone_in (n : Nat) (l : List Int) (v : Value) (x : Int) (w : World) (h : IntS w v l) (hp : plainB n l = true) (hx0 : 0 ≤ x) (hx1 : x < n) :
    Calls Try.prog 11 #[.int .i64 n, v, .int .i64 x] w fun e w' => e = .returned (.bool true) ∧ Bel w w' := by
  cases hb : inB (Pl.setAt [] (l.map addS)) x
  · exact undone_false n l v x w h hp hx0 hx1 hb
  · exact undone_true n l v x w h hp hx0 hx1 hb

set_option maxHeartbeats 1000000 in
theorem undone_out (n : Int) (l : List Int) (v : Value) (x : Int) (w : World) (h : IntS w v l) (hp : plainB n l = false ∨ x < 0 ∨ n ≤ x) :
    Calls Try.prog 11 #[.int .i64 n, v, .int .i64 x] w fun e w' => e = .returned (.bool true) ∧ Bel w w' := by
  have HP := Lib.hid (plain_any n v l w h)
  obtain ⟨a, c, rfl, hlc, hcm, _⟩ := h
  by_cases hl : 2147483647 < l.length
  · clear hp
    go_enter Try.func11, Try.ntmps11
    go_wp2_with fail
    go_wp2
    go_ret
    exact ⟨rfl, Bel.refl w⟩
  cases hpb : plainB n l
  · rw [hpb] at HP
    clear hp hpb
    go_enter Try.func11, Try.ntmps11
    go_wp2_with (go_at_call 20; refine HP.out.mono ?_; rintro e w' ⟨rfl, rfl⟩)
    go_ret
    exact ⟨rfl, Bel.refl w⟩
  rw [hpb] at HP hp
  clear hpb
  by_cases h0 : x < 0
  · clear hp
    go_enter Try.func11, Try.ntmps11
    go_wp2_with (go_at_call 20; refine HP.out.mono ?_; rintro e w' ⟨rfl, rfl⟩)
    go_ret
    exact ⟨rfl, Bel.refl w⟩
  have h1 : n ≤ x := by rcases hp with hp | hp | hp <;> first | cases hp | omega
  clear hp
  go_enter Try.func11, Try.ntmps11
  go_wp2_with (go_at_call 20; refine HP.out.mono ?_; rintro e w' ⟨rfl, rfl⟩)
  go_ret
  exact ⟨rfl, Bel.refl w⟩
theorem law_FnSetUndone (w : World) (n : Int) (_lo : -9223372036854775808 ≤ n) (_hi : n ≤ 9223372036854775807) (v : Value) (l : List Int) (h : IntS w v l) (x : Int) (_lo' : -9223372036854775808 ≤ x) (_hi' : x ≤ 9223372036854775807) :
    Calls Try.prog 11 #[.int .i64 n, v, .int .i64 x] w fun e w' => e = .returned (.bool true) ∧ Bel w w' := by
  by_cases hc : plainB n l = true ∧ 0 ≤ x ∧ x < n
  · obtain ⟨hp, h0, h1⟩ := hc
    obtain ⟨k, rfl⟩ := Int.eq_ofNat_of_zero_le (a := n) (by have := (plainB_iff.1 hp).1; omega)
    exact undone_in k l v x w h hp h0 h1
  · refine undone_out n l v x w h ?_
    cases hp : plainB n l
    · exact .inl rfl
    · rw [hp] at hc
      by_cases h0 : x < 0
      · exact .inr (.inl h0)
      · exact .inr (.inr (by have : ¬ (0 ≤ x ∧ x < n) := fun hh => hc ⟨rfl, hh⟩; omega))
end Go.Proofs.Ytlagnbiokhnhlaa
