/- The walk of FnSetAddAll. -/
import Derived.Test.YtlagnbiokhnhlaaLaw5
namespace Go.Proofs.Ytlagnbiokhnhlaa
open Go.RowKit

abbrev addAllS (l m : List Int) : List Pl.StepD := l.map addS ++ [⟨8, 0, 0, m⟩, kindS 7, kindS 4]
theorem putAll_app (l m : List Int) (d : List Pl.Ent) : Pl.putAll d (l ++ m) = Pl.putAll (Pl.putAll d l) m := by simp [Pl.putAll]

set_option maxRecDepth 100000 in
set_option maxHeartbeats 8000000 in
theorem addAll_in (n : Nat) (l m : List Int) (v u : Value) (w : World) (h : IntS w v l) (h' : IntS w u m) (hp : plainB n l = true) (hp' : plainB n m = true) (hlm : l.length + m.length ≤ 500) :
    Calls Try.prog 5 #[.int .i64 n, v, u] w fun e w' => e = .returned (.bool true) ∧ Bel w w' := by
  have HP := Lib.hid (plain_any n v l w h)
  rw [hp] at HP
  have HP' := Lib.hid (plain_any n u m w h')
  rw [hp'] at HP'
  obtain ⟨p0, p1, p2, p3⟩ := plainB_iff.1 hp
  obtain ⟨_, _, _, p3'⟩ := plainB_iff.1 hp'
  clear hp hp'
  have HH := Lib.hid h
  have HH' := Lib.hid h'
  obtain ⟨a, c, rfl, hlc, hcm, hIa⟩ := h
  obtain ⟨a', c', rfl, hlc', hcm', hIa'⟩ := h'
  have HIa := Lib.hid hIa; clear hIa
  have HIa' := Lib.hid hIa'; clear hIa'
  have HP3 := Lib.hid p3; clear p3
  have HP3' := Lib.hid p3'; clear p3'
  have y0 : ¬ 500 < l.length + m.length := by omega
  go_enter Try.func5, Try.ntmps5
  go_wp2_with fail
  refine HP.out.mono ?_
  rintro e w' ⟨rfl, rfl⟩
  go_wp2_with fail
  refine HP'.out.mono ?_
  rintro e w' ⟨rfl, rfl⟩
  go_wp2_with fail
  refine (adds_any HH.out (by omega)).mono ?_
  rintro e w1 ⟨u1, rfl, ho1, hb1⟩
  have HO1 := Lib.hid ho1; clear ho1
  go_wp2_with fail
  refine (step_any 7 _).mono ?_
  rintro e w2 ⟨rfl, hb2⟩
  go_wp2_with fail
  refine (step_any 4 _).mono ?_
  rintro e w4 ⟨rfl, hb4⟩
  have hb14 := hb2.trans hb4
  have hbw4 := hb1.trans hb14
  have hs4 := hbw4.size
  have HO4 := Lib.hid (own_bel HO1.out hb14)
  clear hb2 hb4 hb14 hb1 HO1
  go_wp2_with (at_builtin; refine wpList_app el30 _ rfl (.tmp 38) (.tmp 43) rfl w.heap.size u1 l.length (stepCells (l.map addT)) rfl (HO4.out.alloc _) w4.heap.size 3 3 [.int .i64 8, .int .i64 0, .int .i64 0, .slice a' m.length c', .int .i64 7, .int .i64 0, .int .i64 0, .slice none 0 0, .int .i64 4, .int .i64 0, .int .i64 0, .slice none 0 0] rfl (Blk.new _ _ _) rfl (by simp [Value.oneCell']) (by omega) (by omega) (by simp; omega) ?_)
  intro u5 w5 ho5 hg5 _
  have hb5 : Bel w w5 := (hbw4.alloc _).grown hg5 (fun k hk => (HO4.out.lt k hk).1)
  have hS5 : StepS w5 u5 (addAllS l m) := by
    have := stepS_own (L := l.map addT ++ [(⟨8, 0, 0, m⟩, .slice a' m.length c'), (kindS 7, nilV), (kindS 4, nilV)]) (by rw [stepCells_append]; exact ho5) (fun p hp => by
      simp only [List.mem_append, List.mem_cons, List.mem_map, List.not_mem_nil, or_false] at hp
      rcases hp with ⟨x, _, rfl⟩ | rfl | rfl | rfl
      · exact IntS.nil _
      · exact HH'.out.bel hb5
      · exact IntS.nil _
      · exact IntS.nil _)
    rw [List.map_append, addT_fst] at this
    exact this
  have HS5 := Lib.hid hS5
  clear ho5 hg5 hS5 hbw4 HO4
  go_wp2_with fail
  refine (set_any n _ u5 w5 (by omega) HS5.out (by simp; omega) (fun s hs => by
    simp only [List.mem_append, List.mem_cons, List.mem_map, List.not_mem_nil, or_false] at hs
    rcases hs with ⟨x, hx, rfl⟩ | rfl | rfl | rfl
    · exact StepIn.add (HP3.out x hx)
    · exact ⟨by simp, by simp; omega, by simp; omega, HP3'.out⟩
    · exact StepIn.kind (by omega) _
    · exact StepIn.kind (by omega) _)).mono ?_
  rintro e w6 ⟨u6, rfl, hA, hb6⟩
  have hbw6 := hb5.trans hb6
  clear hb5 hb6 HS5
  have hRZ := addAllE_rep m _ _ (adds_rep l).1 (adds_rep l).2
  rw [← putAll_app] at hRZ
  have q1 : (Pl.setRun n [] (addAllS l m))[l.length + 1]? = some ⟨false, 0, (addAllE (Pl.setAt [] (l.map addS)) m).map (·.1), []⟩ := script_at n l _ 1
  have q2 : (Pl.setRun n [] (addAllS l m))[l.length + 2]? = some ⟨false, (addAllE (Pl.setAt [] (l.map addS)) m).length, [], []⟩ := script_at n l _ 2
  have hAl : (Pl.setRun n [] (addAllS l m)).length = l.length + 3 := by rw [setRun_length]; simp
  obtain ⟨a6, c6, rfl, _, _, _⟩ := id hA
  obtain ⟨b, k0, x0, rfl, _, _, g1, _, hk1, _⟩ := ansS_at hA q1
  obtain ⟨b', k1, x1, hbb, _, g2, _⟩ := ansS_at hA q2
  cases hbb
  have HK1 := Lib.hid hk1
  obtain ⟨ka, kc, rfl, _, _, _⟩ := hk1
  clear hA q1 q2
  have HRZ := Lib.hid (tells_rep hRZ.1 hRZ.2)
  have hDl := hRZ.1.length
  have hple := Pl.putAll_length [] (l ++ m)
  simp only [List.length_nil, List.length_append] at hple
  generalize addAllE (Pl.setAt [] (l.map addS)) m = D at *
  clear hRZ
  rw [hAl]
  clear hAl
  simp only [List.length_map] at g1 g2 HK1
  have hnone : a = none → l.length = 0 := fun e => by
    rcases Nat.eq_zero_or_pos l.length with h0 | h0
    · exact h0
    · obtain ⟨_, _, e', _⟩ := HIa.out h0; rw [e] at e'; cases e'
  have HNO := Lib.hid hnone; clear hnone
  go_wp2_with (at_builtin; refine wpList_cat rfl (.tmp 51) (.tmp 52) rfl a a' l m c' rfl (HIa.out.bel hbw6) HNO.out rfl (HIa'.out.bel hbw6) (by omega) (by omega) ?_)
  intro u7 w7 hI7 hb7
  have HI7 := Lib.hid hI7; clear hI7
  have g1a := hb7.cell g1
  have g2a := hb7.cell g2
  have hbw7 := hbw6.trans hb7
  have HK7 := Lib.hid (HK1.out.bel hb7)
  clear g1 g2 hb7 hbw6 HK1
  go_wp2_with fail
  refine (entries_any HI7.out (by simp; omega)).mono ?_
  rintro e w8 ⟨u8, rfl, hE8, hb8⟩
  have HE8 := Lib.hid hE8
  obtain ⟨a8, c8, rfl, _, _, _⟩ := hE8
  have g1b := hb8.cell g1a
  have g2b := hb8.cell g2a
  have hbw8 := hbw7.trans hb8
  have HK8 := Lib.hid (HK7.out.bel hb8)
  clear g1a g2a hb8 hbw7 HK7
  have HTC := Lib.hid (tells_any HK8.out HE8.out (by simp; omega) (by omega))
  rw [HRZ.out] at HTC
  rw [hDl] at HTC ⊢
  have m1 : ((D.length : Int) == (D.length : Int)) = true := by simp
  have m3 : (((l.length + 3 : Nat) : Int) == (l.length : Int) + 3) = true := by simp
  go_wp2_with fail
  refine HTC.out.mono ?_
  rintro e w9 ⟨rfl, hb9⟩
  have f2 := hb9.cell g2b
  have hbA := hbw8.trans hb9
  clear g1b g2b hb9 hbw8
  go_wp2
  go_ret
  exact ⟨rfl, hbA⟩

set_option maxHeartbeats 1000000 in
theorem addAll_out (n : Int) (l m : List Int) (v u : Value) (w : World) (h : IntS w v l) (h' : IntS w u m) (hp : plainB n l = false ∨ plainB n m = false ∨ 500 < l.length + m.length) :
    Calls Try.prog 5 #[.int .i64 n, v, u] w fun e w' => e = .returned (.bool true) ∧ Bel w w' := by
  have HP := Lib.hid (plain_any n v l w h)
  have HP' := Lib.hid (plain_any n u m w h')
  obtain ⟨a, c, rfl, hlc, hcm, _⟩ := h
  obtain ⟨a', c', rfl, hlc', hcm', _⟩ := h'
  by_cases hl : 2147483647 < l.length
  · clear hp
    go_enter Try.func5, Try.ntmps5
    go_wp2_with fail
    go_wp2
    go_ret
    exact ⟨rfl, Bel.refl w⟩
  by_cases hl' : 2147483647 < m.length
  · clear hp
    go_enter Try.func5, Try.ntmps5
    go_wp2_with fail
    go_wp2
    go_ret
    exact ⟨rfl, Bel.refl w⟩
  cases hpb : plainB n l
  · rw [hpb] at HP
    clear hp hpb
    go_enter Try.func5, Try.ntmps5
    go_wp2_with fail
    refine HP.out.mono ?_
    rintro e w' ⟨rfl, rfl⟩
    go_wp2
    go_ret
    exact ⟨rfl, Bel.refl w⟩
  rw [hpb] at HP hp
  obtain ⟨_, _, hp2, _⟩ := plainB_iff.1 hpb
  clear hpb
  cases hpb' : plainB n m
  · rw [hpb'] at HP'
    clear hp hpb'
    go_enter Try.func5, Try.ntmps5
    go_wp2_with fail
    refine HP.out.mono ?_
    rintro e w' ⟨rfl, rfl⟩
    go_wp2_with fail
    refine HP'.out.mono ?_
    rintro e w' ⟨rfl, rfl⟩
    go_wp2
    go_ret
    exact ⟨rfl, Bel.refl w⟩
  rw [hpb'] at HP' hp
  obtain ⟨_, _, hp2', _⟩ := plainB_iff.1 hpb'
  clear hpb'
  have h1 : 500 < l.length + m.length := by rcases hp with hp | hp | hp <;> first | cases hp | omega
  clear hp
  go_enter Try.func5, Try.ntmps5
  go_wp2_with fail
  refine HP.out.mono ?_
  rintro e w' ⟨rfl, rfl⟩
  go_wp2_with fail
  refine HP'.out.mono ?_
  rintro e w' ⟨rfl, rfl⟩
  go_wp2
  go_ret
  exact ⟨rfl, Bel.refl w⟩
theorem law_FnSetAddAll (w : World) (n : Int) (_lo : -9223372036854775808 ≤ n) (_hi : n ≤ 9223372036854775807) (v : Value) (l : List Int) (h : IntS w v l) (u : Value) (m : List Int) (h' : IntS w u m) :
    Calls Try.prog 5 #[.int .i64 n, v, u] w fun e w' => e = .returned (.bool true) ∧ Bel w w' := by
  by_cases hc : plainB n l = true ∧ plainB n m = true ∧ l.length + m.length ≤ 500
  · obtain ⟨hp, hp', h0⟩ := hc
    obtain ⟨k, rfl⟩ := Int.eq_ofNat_of_zero_le (a := n) (by have := (plainB_iff.1 hp).1; omega)
    exact addAll_in k l m v u w h h' hp hp' h0
  · refine addAll_out n l m v u w h h' ?_
    cases hp : plainB n l
    · exact .inl rfl
    · cases hp' : plainB n m
      · exact .inr (.inl rfl)
      · rw [hp, hp'] at hc
        exact .inr (.inr (by have : ¬ l.length + m.length ≤ 500 := fun hh => hc ⟨rfl, rfl, hh⟩; omega))
end Go.Proofs.Ytlagnbiokhnhlaa
