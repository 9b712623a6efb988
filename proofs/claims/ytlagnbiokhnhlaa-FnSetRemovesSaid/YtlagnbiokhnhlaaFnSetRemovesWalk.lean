/- The walk of FnSetRemoves. -/
import Derived.Test.YtlagnbiokhnhlaaLaw3
import Derived.Deep.RegionHeld3
import Derived.Deep.DrawnRows
import Derived.Deep.Cut
namespace Go.Proofs.Ytlagnbiokhnhlaa
open Go.RowKit

attribute [local go_sem ↓] Go.wp_at_zero Go.wp_at_succ

set_option maxRecDepth 100000 in
set_option maxHeartbeats 8000000 in
theorem removes_in (n : Nat) (l : List Int) (v : Value) (x : Int) (w : World) (h : IntS w v l) (hp : plainB n l = true) (hx0 : 0 ≤ x) (hx1 : x < n) :
    Calls Try.prog 9 #[.int .i64 n, v, .int .i64 x] w fun e w' => e = .returned (.bool true) ∧ Bel w w' := by
  have HP := Lib.hid (plain_any n v l w h)
  rw [hp] at HP
  obtain ⟨p0, p1, p2, p3⟩ := plainB_iff.1 hp
  clear hp
  have HH := Lib.hid h
  obtain ⟨a, c, rfl, hlc, hcm, _⟩ := h
  have HP3 := Lib.hid p3; clear p3
  have hple := Pl.putAll_length [] l
  simp only [List.length_nil] at hple
  have y0 : ¬ x < 0 := by omega
  have y1 : ¬ (n : Int) ≤ x := by omega
  go_enter Try.func9, Try.ntmps9
  go_wp2_with fail
  refine HP.out.mono ?_
  rintro e w' ⟨rfl, rfl⟩
  go_upto_region 6 with (fail)
  have hB := Blk.new w 43 [.int .i64 1, .int .i64 x, .int .i64 0, .slice none 0 0]
  have hbw0 := (Bel.refl w).alloc (.cells #[.int .i64 1, .int .i64 x, .int .i64 0, .slice none 0 0] 43)
  change Blk (w.alloc (.cells #[.int .i64 1, .int .i64 x, .int .i64 0, .slice none 0 0] 43)) _ _ _ at hB
  generalize w.alloc (.cells #[.int .i64 1, .int .i64 x, .int .i64 0, .slice none 0 0] 43) = w0 at hB hbw0 ⊢
  have c0 : w0.cell? ⟨w.heap.size, 0, none⟩ = some (.int .i64 1) := hB.cell 0
  have c1 : w0.cell? ⟨w.heap.size, 1, none⟩ = some (.int .i64 x) := hB.cell 1
  have c2 : w0.cell? ⟨w.heap.size, 2, none⟩ = some (.int .i64 0) := hB.cell 2
  have c3 : w0.cell? ⟨w.heap.size, 3, none⟩ = some (.slice none 0 0) := hB.cell 3
  have HB := Lib.hid hB; clear hB
  go_region_held3 (fun w' => w'.cell? ⟨w.heap.size, 0, none⟩ = some (.int .i64 1) ∧ w'.cell? ⟨w.heap.size, 1, none⟩ = some (.int .i64 x) ∧ w'.cell? ⟨w.heap.size, 2, none⟩ = some (.int .i64 0) ∧ w'.cell? ⟨w.heap.size, 3, none⟩ = some (.slice none 0 0))
    (first | exact k6 | exact k5 | exact k2 | exact k1 | go_keep)
    (first
      | (go_at_call 21; refine (adds_any (HH.out.bel hbw0.drew) (by omega)).mono ?_; rintro e w1 ⟨u1, rfl, ho1, hb1⟩; have HO1 := Lib.hid ho1; clear ho1; have hB1 := HB.out.drew.bel hb1; have k1 := (four_cells hB1).1; have z1 : w0.heap.size ≤ w1.heap.size := hb1.size)
      | (go_at_call 22; refine (step_any 7 _).mono ?_; rintro e w2 ⟨rfl, hb2⟩; have k2 := (four_cells (hB1.bel hb2)).1; have z2 : w1.heap.size ≤ w2.heap.size := hb2.size)
      | (refine step_appm el30 (by rfl) (.tmp 30) (.tmp 35) (by rfl) w0.heap.size u1 l.length (stepCells (l.map addT)) (by rfl) ((own_bel HO1.out hb2).alloc _) w2.heap.size 3 3 [.int .i64 1, .int .i64 x, .int .i64 0, .slice none 0 0, .int .i64 7, .int .i64 0, .int .i64 0, .slice none 0 0, .int .i64 2, .int .i64 x, .int .i64 0, .slice none 0 0] (by rfl) (Blk.new _ _ _) (by rfl) (by decide) (by simp [Value.oneCell']) (by omega) (by omega) (by simp only [World.size_alloc]; omega) ?_; intro g5 cap5 w5 ho5 hg5 _ _; have HJ := Lib.hid (held_app (T := [⟨1, x, 0, []⟩, ⟨7, 0, 0, []⟩, ⟨2, x, 0, []⟩]) hbw0 hb1 hb2 HO1.out hg5 ho5 (by simp)); have hB5 := HJ.out.2.2 (hB1.bel hb2) HB.out.lt; have k5 := (four_cells hB5).1; clear ho5 hg5)
      | (go_at_call 19; refine (set_any n _ _ _ (by omega) HJ.out.2.1 (by simp; omega) (stepIn_script HP3.out (by simp; exact ⟨keyS_in 1 hx0 hx1, StepIn.kind (by omega) 7, keyS_in 2 hx0 hx1⟩))).mono ?_; rintro e w6 ⟨u6, rfl, hA6, hb6⟩; have HA6 := Lib.hid hA6; clear hA6; have k6 := (four_cells (hB5.bel hb6)).1))
  have hbw6 := HJ.out.1.trans hb6
  clear k1 k2 k5 k6 hB1 hB5 HB HO1 hb1 hb2 hb6 HJ c0 c1 c2 c3 hbw0 z1 z2
  have hR := rep_rem (adds_rep l).1 x
  have hZ := remE_zero (adds_rep l).1.nodup (adds_rep l).2 x
  have hin : inB (remE (Pl.setAt [] (l.map addS)) x) x = false := inB_false (fun v hv => (Pl.mem_without.1 ((hR.mem _).2 hv)).2 rfl)
  have q1 := script_at n l [⟨1, x, 0, []⟩, ⟨7, 0, 0, []⟩, ⟨2, x, 0, []⟩] 1
  have q2 := script_at n l [⟨1, x, 0, []⟩, ⟨7, 0, 0, []⟩, ⟨2, x, 0, []⟩] 2
  have q1' : (Pl.setRun n [] (l.map addS ++ [⟨1, x, 0, []⟩, ⟨7, 0, 0, []⟩, ⟨2, x, 0, []⟩]))[l.length + 1]? = some ⟨false, 0, (remE (Pl.setAt [] (l.map addS)) x).map (·.1), []⟩ := q1
  have q2' : (Pl.setRun n [] (l.map addS ++ [⟨1, x, 0, []⟩, ⟨7, 0, 0, []⟩, ⟨2, x, 0, []⟩]))[l.length + 2]? = some ⟨inB (remE (Pl.setAt [] (l.map addS)) x) x, 0, [], []⟩ := q2
  rw [hin] at q2'
  have hAl : (Pl.setRun n [] (l.map addS ++ [⟨1, x, 0, []⟩, ⟨7, 0, 0, []⟩, ⟨2, x, 0, []⟩])).length = l.length + 3 := by rw [setRun_length]; simp
  have hA6 := HA6.out
  obtain ⟨a6, c6, rfl, _, _, _⟩ := id hA6
  obtain ⟨b, k0, x0, rfl, _, _, g1, _, hk1, _⟩ := ansS_at hA6 q1'
  obtain ⟨b', _, _, hbb, g2, _⟩ := ansS_at hA6 q2'
  cases hbb
  have HK1 := Lib.hid hk1
  obtain ⟨ka, kc, rfl, _, _, _⟩ := hk1
  clear hA6 q1 q2 q1' q2' HA6 hin
  have HRZ := Lib.hid (tells_rep hR hZ)
  generalize hD : remE (Pl.setAt [] (l.map addS)) x = D at *
  have hDl : D.length ≤ 1000 := by have h1 := hR.length; have h2 := Pl.without_length (Pl.putAll [] l) x; omega
  clear hD hR hZ
  rw [hAl]
  clear hAl
  simp only [List.length_map] at g1 HK1
  have m3 : (((l.length + 3 : Nat) : Int) == (l.length : Int) + 3) = true := by simp
  have i1 : IntKind.i64.wrap ((l.length : Int) + 3) = (l.length : Int) + 3 := IntWalk.i64_in _ (by omega)
  have i2 : IntKind.i64.wrap ((l.length : Int) + 1) = (l.length : Int) + 1 := IntWalk.i64_in _ (by omega)
  have i3 : IntKind.i64.wrap ((l.length : Int) + 2) = (l.length : Int) + 2 := IntWalk.i64_in _ (by omega)
  have j1 : (0 : Int) ≤ (l.length : Int) + 1 := by omega
  have j2 : (l.length : Int) + 1 < ((l.length + 3 : Nat) : Int) := by omega
  have j3 : (0 : Int) ≤ (l.length : Int) + 2 := by omega
  have j4 : (l.length : Int) + 2 < ((l.length + 3 : Nat) : Int) := by omega
  have j5 : ((l.length : Int) + 1).toNat = l.length + 1 := by omega
  have j6 : ((l.length : Int) + 2).toNat = l.length + 2 := by omega
  go_upto_region 8 with (fail)
  go_region_held3 (fun w' => w'.cell? ⟨b, (l.length + 1) * 4 + 2, none⟩ = some (.slice ka D.length kc) ∧ w'.cell? ⟨b, (l.length + 2) * 4, none⟩ = some (.bool false))
    (first | exact k9 | exact k8 | exact k7 | go_keep)
    (first
      | (go_at_call 23; refine (entries_any (HH.out.bel hbw6.drew) (by omega)).mono ?_; rintro e w7 ⟨u7, rfl, hE7, hb7⟩; have HE7 := Lib.hid hE7; clear hE7; have k7 := And.intro (hb7.cell g1) (hb7.cell g2))
      | (go_at_call 25; refine (without_any _ _ x _ HE7.out (by omega)).mono ?_; rintro e w8 ⟨u8, rfl, hE8, hb8⟩; have HE8 := Lib.hid hE8; clear hE8; have k8 := And.intro (hb8.cell k7.1) (hb8.cell k7.2))
      | (go_at_call 24; refine (tells_any (HK1.out.bel ((Bel.refl w6).drew.trans (hb7.trans hb8))) HE8.out (by simp; omega) (by have := Pl.without_length (Pl.putAll [] l) x; omega)).mono ?_; rw [HRZ.out]; rintro e w9 ⟨rfl, hb9⟩; have k9 := And.intro (hb9.cell k8.1) (hb9.cell k8.2)))
  go_wp2
  go_ret
  exact ⟨rfl, hbw6.drew.trans (hb7.trans (hb8.trans hb9))⟩

set_option maxHeartbeats 1000000 in
theorem removes_out (n : Int) (l : List Int) (v : Value) (x : Int) (w : World) (h : IntS w v l) (hp : plainB n l = false ∨ x < 0 ∨ n ≤ x) :
    Calls Try.prog 9 #[.int .i64 n, v, .int .i64 x] w fun e w' => e = .returned (.bool true) ∧ Bel w w' := by
  have HP := Lib.hid (plain_any n v l w h)
  obtain ⟨a, c, rfl, hlc, hcm, _⟩ := h
  by_cases hl : 2147483647 < l.length
  · clear hp
    go_enter Try.func9, Try.ntmps9
    go_wp2_with fail
    go_wp2
    go_ret
    exact ⟨rfl, Bel.refl w⟩
  cases hpb : plainB n l
  · rw [hpb] at HP
    clear hp hpb
    go_enter Try.func9, Try.ntmps9
    go_wp2_with (go_at_call 20; refine HP.out.mono ?_; rintro e w' ⟨rfl, rfl⟩)
    go_ret
    exact ⟨rfl, Bel.refl w⟩
  rw [hpb] at HP hp
  clear hpb
  by_cases h0 : x < 0
  · clear hp
    go_enter Try.func9, Try.ntmps9
    go_wp2_with (go_at_call 20; refine HP.out.mono ?_; rintro e w' ⟨rfl, rfl⟩)
    go_ret
    exact ⟨rfl, Bel.refl w⟩
  have h1 : n ≤ x := by rcases hp with hp | hp | hp <;> first | cases hp | omega
  clear hp
  go_enter Try.func9, Try.ntmps9
  go_wp2_with (go_at_call 20; refine HP.out.mono ?_; rintro e w' ⟨rfl, rfl⟩)
  go_ret
  exact ⟨rfl, Bel.refl w⟩
theorem law_FnSetRemoves (w : World) (n : Int) (_lo : -9223372036854775808 ≤ n) (_hi : n ≤ 9223372036854775807) (v : Value) (l : List Int) (h : IntS w v l) (x : Int) (_lo' : -9223372036854775808 ≤ x) (_hi' : x ≤ 9223372036854775807) :
    Calls Try.prog 9 #[.int .i64 n, v, .int .i64 x] w fun e w' => e = .returned (.bool true) ∧ Bel w w' := by
  by_cases hc : plainB n l = true ∧ 0 ≤ x ∧ x < n
  · obtain ⟨hp, h0, h1⟩ := hc
    obtain ⟨k, rfl⟩ := Int.eq_ofNat_of_zero_le (a := n) (by have := (plainB_iff.1 hp).1; omega)
    exact removes_in k l v x w h hp h0 h1
  · refine removes_out n l v x w h ?_
    cases hp : plainB n l
    · exact .inl rfl
    · rw [hp] at hc
      by_cases h0 : x < 0
      · exact .inr (.inl h0)
      · exact .inr (.inr (by have : ¬ (0 ≤ x ∧ x < n) := fun hh => hc ⟨rfl, hh⟩; omega))
end Go.Proofs.Ytlagnbiokhnhlaa
