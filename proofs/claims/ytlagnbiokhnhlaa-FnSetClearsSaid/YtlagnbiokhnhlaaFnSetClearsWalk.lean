/- The walk of FnSetClears. -/
import Derived.Test.YtlagnbiokhnhlaaLaw4
import Derived.Deep.RegionHeld3
import Derived.Deep.DrawnRows
import Derived.Deep.Cut
namespace Go.Proofs.Ytlagnbiokhnhlaa
open Go.RowKit

attribute [local go_sem ↓] Go.wp_at_zero Go.wp_at_succ

abbrev clrS (l m : List Int) : List Pl.StepD := l.map addS ++ (kindS 5 :: kindS 4 :: (m.map addS ++ [kindS 7]))
theorem clr_len (n : Nat) (l m : List Int) : (Pl.setRun n [] (clrS l m)).length = l.length + 2 + m.length + 1 := by rw [setRun_length]; simp; omega
theorem clr_size (n : Nat) (l m : List Int) : (Pl.setRun n [] (clrS l m))[l.length + 1]? = some ⟨false, 0, [], []⟩ := script_at n l _ 1
theorem clr_all (n : Nat) (l m : List Int) : (Pl.setRun n [] (clrS l m))[l.length + 2 + m.length]? = some ⟨false, 0, (Pl.setAt [] (m.map addS)).map (·.1), []⟩ := by
  have h1 := script_at n l (kindS 5 :: kindS 4 :: (m.map addS ++ [kindS 7])) (2 + m.length)
  have h2 := script_at n m [kindS 7] 0
  rw [show l.length + 2 + m.length = l.length + (2 + m.length) by omega, h1, show 2 + m.length = (m.length + 0) + 1 + 1 by omega]
  exact h2

set_option maxRecDepth 100000 in
set_option maxHeartbeats 8000000 in
theorem clears_in (n : Nat) (l m : List Int) (v u : Value) (w : World) (h : IntS w v l) (h' : IntS w u m) (hp : plainB n l = true) (hp' : plainB n m = true) (hlm : l.length + m.length ≤ 500) :
    Calls Try.prog 6 #[.int .i64 n, v, u] w fun e w' => e = .returned (.bool true) ∧ Bel w w' := by
  have HP := Lib.hid (plain_any n v l w h)
  rw [hp] at HP
  have HP' := Lib.hid (plain_any n u m w h')
  rw [hp'] at HP'
  obtain ⟨p0, p1, p2, p3⟩ := plainB_iff.1 hp
  obtain ⟨_, _, _, p3'⟩ := plainB_iff.1 hp'
  clear hp hp'
  have HH := Lib.hid h
  have HH' := Lib.hid h'
  obtain ⟨a, c, rfl, hlc, hcm, _⟩ := h
  obtain ⟨a', c', rfl, hlc', hcm', _⟩ := h'
  have HP3 := Lib.hid p3; clear p3
  have HP3' := Lib.hid p3'; clear p3'
  have hple := Pl.putAll_length [] m
  simp only [List.length_nil] at hple
  have y0 : ¬ 500 < l.length + m.length := by omega
  go_enter Try.func6, Try.ntmps6
  go_wp2_with fail
  refine HP.out.mono ?_
  rintro e w' ⟨rfl, rfl⟩
  go_wp2_with fail
  refine HP'.out.mono ?_
  rintro e w' ⟨rfl, rfl⟩
  go_wp2_with fail
  refine (adds_any HH.out (by omega)).mono ?_
  rintro e w1 ⟨u1, rfl, ho1, hb1⟩
  have HO1 := Lib.hid ho1; clear ho1
  go_wp2_with fail
  refine (step_any 5 _).mono ?_
  rintro e w2 ⟨rfl, hb2⟩
  go_wp2_with fail
  refine (step_any 4 _).mono ?_
  rintro e w4 ⟨rfl, hb4⟩
  have hb14 := hb2.trans hb4
  have hbw4 := hb1.trans hb14
  have hs4 := hbw4.size
  have HO4 := Lib.hid (own_bel HO1.out hb14)
  clear hb2 hb4 hb14 hb1 HO1
  go_wp2_with (at_builtin; refine wpList_app el30 _ rfl (.tmp 37) (.tmp 40) rfl w.heap.size u1 l.length (stepCells (l.map addT)) rfl (HO4.out.alloc _) w4.heap.size 2 2 [.int .i64 5, .int .i64 0, .int .i64 0, .slice none 0 0, .int .i64 4, .int .i64 0, .int .i64 0, .slice none 0 0] rfl (Blk.new _ _ _) rfl (by simp [Value.oneCell']) (by omega) (by omega) (by simp; omega) ?_)
  intro u5 w5 ho5 hg5 _
  have hb5 : Bel w w5 := (hbw4.alloc _).grown hg5 (fun k hk => (HO4.out.lt k hk).1)
  have hs5 := hb5.size
  obtain ⟨s5, q5, rfl, _, _, _⟩ := own_form ho5
  have HO5 := Lib.hid ho5
  clear ho5 hg5 hbw4 HO4 hs4
  go_wp2_with fail
  refine (adds_any (HH'.out.bel hb5) (by omega)).mono ?_
  rintro e w6 ⟨u6, rfl, ho6, hb6⟩
  have hbw6 := hb5.trans hb6
  have hs6 := hbw6.size
  have HO6 := Lib.hid ho6
  have HO56 := Lib.hid (own_bel HO5.out hb6)
  clear ho6 hb6 hb5 HO5
  go_wp2_with (at_builtin; refine wpList_appr el30 _ rfl (.tmp 43) (.tmp 45) rfl w.heap.size _ _ _ rfl HO56.out _ u6 m.length _ rfl HO6.out (addT_one m) (by omega) (by omega) hs6 ?_)
  intro u7 w7 ho7 hg7
  have hbw7 : Bel w w7 := hbw6.grown hg7 (fun k hk => (HO56.out.lt k hk).1)
  have HO7 := Lib.hid ho7
  clear ho7 hg7 HO6 HO56 hbw6
  go_wp2_with fail
  refine (step_any 7 _).mono ?_
  rintro e w8 ⟨rfl, hb8⟩
  have HO8 := Lib.hid (own_bel HO7.out hb8)
  have hbw8 := hbw7.trans hb8
  have hs8 := hbw8.size
  clear hb8 hbw7 HO7
  go_wp2_with (at_builtin; refine wpList_app el30 _ rfl (.tmp 46) (.tmp 48) rfl w.heap.size u7 _ _ rfl (HO8.out.alloc _) w8.heap.size 1 1 [.int .i64 7, .int .i64 0, .int .i64 0, .slice none 0 0] rfl (Blk.new _ _ _) rfl (by simp [Value.oneCell']) (by omega) (by omega) (by simp; omega) ?_)
  intro u9 w9 ho9 hg9 _
  have hbw9 : Bel w w9 := (hbw8.alloc _).grown hg9 (fun k hk => (HO8.out.lt k hk).1)
  have hS9 : StepS w9 u9 (clrS l m) := by
    have := stepS_own (L := l.map addT ++ ((kindS 5, nilV) :: (kindS 4, nilV) :: (m.map addT ++ [(kindS 7, nilV)]))) (by simpa [stepCells, nilV] using ho9) (fun p hp => by
      have : p.2 = .slice none 0 0 ∧ p.1.list = [] := by
        simp only [List.mem_append, List.mem_cons, List.mem_map, List.not_mem_nil, or_false] at hp
        rcases hp with ⟨x, _, rfl⟩ | rfl | rfl | ⟨x, _, rfl⟩ | rfl <;> exact ⟨rfl, rfl⟩
      rw [this.1, this.2]; exact IntS.nil _)
    rw [List.map_append, addT_fst, List.map_cons, List.map_cons, List.map_append, addT_fst] at this
    exact this
  have HS9 := Lib.hid hS9
  clear ho9 hg9 hS9 hbw8 HO8
  go_wp2_with fail
  refine (set_any n _ u9 w9 (by omega) HS9.out (by simp; omega) (fun s hs => by
    simp only [List.mem_append, List.mem_cons, List.mem_map, List.not_mem_nil, or_false] at hs
    rcases hs with ⟨x, hx, rfl⟩ | rfl | rfl | ⟨x, hx, rfl⟩ | rfl
    · exact StepIn.add (HP3.out x hx)
    · exact StepIn.kind (by omega) _
    · exact StepIn.kind (by omega) _
    · exact StepIn.add (HP3'.out x hx)
    · exact StepIn.kind (by omega) _)).mono ?_
  rintro e wA ⟨uA, rfl, hA, hbA⟩
  have hbwA := hbw9.trans hbA
  clear hbw9 hbA HS9
  obtain ⟨hR, hZ⟩ := adds_rep m
  obtain ⟨a6, c6, rfl, _, _, _⟩ := id hA
  obtain ⟨b, k0, x0, rfl, _, g1, _⟩ := ansS_at hA (clr_size n l m)
  obtain ⟨b', k1, x1, hbb, _, _, g2, _, hk1, _⟩ := ansS_at hA (clr_all n l m)
  cases hbb
  have HK1 := Lib.hid hk1
  obtain ⟨ka, kc, rfl, _, _, _⟩ := hk1
  clear hA
  have HRZ := Lib.hid (tells_rep hR hZ)
  generalize hD : Pl.setAt [] (m.map addS) = D at *
  have hDl : D.length ≤ 1000 := by have h1 := hR.length; omega
  clear hD hR hZ
  rw [clr_len]
  simp only [List.length_map] at g1 g2 HK1
  go_upto_region 8 with (fail)
  obtain ⟨Q, hQ⟩ : ∃ Q, l.length + 2 + m.length = Q := ⟨_, rfl⟩
  obtain ⟨P, hP⟩ : ∃ P, l.length + 1 = P := ⟨_, rfl⟩
  have eQ : (l.length : Int) + 2 + (m.length : Int) = (Q : Int) := by omega
  have eP : l.length + 2 = P + 1 := by omega
  rw [hQ] at g2 ⊢
  rw [hP] at g1
  rw [eQ, eP]
  have lQ : Q ≤ 100000 := by omega
  have lP : P ≤ Q := by omega
  clear eQ eP hQ hP
  have m3 : ((Q : Int) + 1 == (Q : Int) + 1) = true := by simp
  have i1 : IntKind.i64.wrap ((Q : Int) + 1) = (Q : Int) + 1 := IntWalk.i64_in _ (by omega)
  have i2 : IntKind.i64.wrap ((P : Int) + 1 - 1) = (P : Int) := by rw [IntWalk.i64_in _ (by omega)]; omega
  have i3 : IntKind.i64.wrap (P : Int) = (P : Int) := IntWalk.i64_in _ (by omega)
  have j1 : (0 : Int) ≤ (P : Int) := by omega
  have j2 : (P : Int) < ((Q + 1 : Nat) : Int) := by omega
  have j2' : (P : Int) < (Q : Int) + 1 := by omega
  have j3 : (0 : Int) ≤ (Q : Int) := by omega
  have j4 : (Q : Int) < ((Q + 1 : Nat) : Int) := by omega
  have j4' : (Q : Int) < (Q : Int) + 1 := by omega
  go_region_held3 (fun w' => w'.cell? ⟨b, P * 4 + 1, none⟩ = some (.int .i64 0) ∧ w'.cell? ⟨b, Q * 4 + 2, none⟩ = some (.slice ka D.length kc))
    (first | exact kC | exact kB | go_keep)
    (first
      | (go_at_call 23; refine (entries_any (HH'.out.bel hbwA.drew) (by omega)).mono ?_; rintro e wB ⟨uB, rfl, hEB, hbB⟩; have HEB := Lib.hid hEB; clear hEB; have kB := And.intro (hbB.cell g1) (hbB.cell g2))
      | (go_at_call 24; refine (tells_any (HK1.out.bel ((Bel.refl wA).drew.trans hbB)) HEB.out (by simp; omega) (by omega)).mono ?_; rw [HRZ.out]; rintro e wC ⟨rfl, hbC⟩; have kC := And.intro (hbC.cell kB.1) (hbC.cell kB.2)))
  go_wp2
  go_ret
  exact ⟨rfl, hbwA.drew.trans (hbB.trans hbC)⟩

set_option maxHeartbeats 1000000 in
theorem clears_out (n : Int) (l m : List Int) (v u : Value) (w : World) (h : IntS w v l) (h' : IntS w u m) (hp : plainB n l = false ∨ plainB n m = false ∨ 500 < l.length + m.length) :
    Calls Try.prog 6 #[.int .i64 n, v, u] w fun e w' => e = .returned (.bool true) ∧ Bel w w' := by
  have HP := Lib.hid (plain_any n v l w h)
  have HP' := Lib.hid (plain_any n u m w h')
  obtain ⟨a, c, rfl, hlc, hcm, _⟩ := h
  obtain ⟨a', c', rfl, hlc', hcm', _⟩ := h'
  by_cases hl : 2147483647 < l.length
  · clear hp
    go_enter Try.func6, Try.ntmps6
    go_wp2_with fail
    go_wp2
    go_ret
    exact ⟨rfl, Bel.refl w⟩
  by_cases hl' : 2147483647 < m.length
  · clear hp
    go_enter Try.func6, Try.ntmps6
    go_wp2_with fail
    go_wp2
    go_ret
    exact ⟨rfl, Bel.refl w⟩
  cases hpb : plainB n l
  · rw [hpb] at HP
    clear hp hpb
    go_enter Try.func6, Try.ntmps6
    go_wp2_with fail
    refine HP.out.mono ?_
    rintro e w' ⟨rfl, rfl⟩
    go_wp2
    go_ret
    exact ⟨rfl, Bel.refl w⟩
  rw [hpb] at HP hp
  obtain ⟨_, _, hp2, _⟩ := plainB_iff.1 hpb
  clear hpb
  cases hpb' : plainB n m
  · rw [hpb'] at HP'
    clear hp hpb'
    go_enter Try.func6, Try.ntmps6
    go_wp2_with fail
    refine HP.out.mono ?_
    rintro e w' ⟨rfl, rfl⟩
    go_wp2_with fail
    refine HP'.out.mono ?_
    rintro e w' ⟨rfl, rfl⟩
    go_wp2
    go_ret
    exact ⟨rfl, Bel.refl w⟩
  rw [hpb'] at HP' hp
  obtain ⟨_, _, hp2', _⟩ := plainB_iff.1 hpb'
  clear hpb'
  have h1 : 500 < l.length + m.length := by rcases hp with hp | hp | hp <;> first | cases hp | omega
  clear hp
  go_enter Try.func6, Try.ntmps6
  go_wp2_with fail
  refine HP.out.mono ?_
  rintro e w' ⟨rfl, rfl⟩
  go_wp2_with fail
  refine HP'.out.mono ?_
  rintro e w' ⟨rfl, rfl⟩
  go_wp2
  go_ret
  exact ⟨rfl, Bel.refl w⟩
theorem law_FnSetClears (w : World) (n : Int) (_lo : -9223372036854775808 ≤ n) (_hi : n ≤ 9223372036854775807) (v : Value) (l : List Int) (h : IntS w v l) (u : Value) (m : List Int) (h' : IntS w u m) :
    Calls Try.prog 6 #[.int .i64 n, v, u] w fun e w' => e = .returned (.bool true) ∧ Bel w w' := by
  by_cases hc : plainB n l = true ∧ plainB n m = true ∧ l.length + m.length ≤ 500
  · obtain ⟨hp, hp', h0⟩ := hc
    obtain ⟨k, rfl⟩ := Int.eq_ofNat_of_zero_le (a := n) (by have := (plainB_iff.1 hp).1; omega)
    exact clears_in k l m v u w h h' hp hp' h0
  · refine clears_out n l m v u w h h' ?_
    cases hp : plainB n l
    · exact .inl rfl
    · cases hp' : plainB n m
      · exact .inr (.inl rfl)
      · rw [hp, hp'] at hc
        exact .inr (.inr (by have : ¬ l.length + m.length ≤ 500 := fun hh => hc ⟨rfl, rfl, hh⟩; omega))
end Go.Proofs.Ytlagnbiokhnhlaa
