/- The walk of FnSetHas. -/
import Derived.Test.YtlagnbiokhnhlaaLaw3
namespace Go.Proofs.Ytlagnbiokhnhlaa
open Go.RowKit

set_option maxRecDepth 100000 in
set_option maxHeartbeats 4000000 in
theorem has_in (n : Nat) (l : List Int) (v : Value) (x : Int) (w : World) (h : IntS w v l) (hp : plainB n l = true) (hx0 : 0 ≤ x) (hx1 : x < n) :
    Calls Try.prog 7 #[.int .i64 n, v, .int .i64 x] w fun e w' => e = .returned (.bool true) ∧ Bel w w' := by
  have HP := Lib.hid (plain_any n v l w h)
  rw [hp] at HP
  obtain ⟨p0, p1, p2, p3⟩ := plainB_iff.1 hp
  clear hp
  have HH := Lib.hid h
  obtain ⟨a, c, rfl, hlc, hcm, _⟩ := h
  have HP3 := Lib.hid p3; clear p3
  have hple := Pl.putAll_length [] l
  simp only [List.length_nil] at hple
  have y0 : ¬ x < 0 := by omega
  have y1 : ¬ (n : Int) ≤ x := by omega
  go_enter Try.func7, Try.ntmps7
  go_wp2_with fail
  refine HP.out.mono ?_
  rintro e w' ⟨rfl, rfl⟩
  go_wp2_with fail
  refine (entries_any HH.out (by omega)).mono ?_
  rintro e w1 ⟨u1, rfl, hE1, hb1⟩
  have HE1 := Lib.hid hE1; clear hE1
  go_wp2_with fail
  refine (place_ents _ _ x _ HE1.out (by omega)).mono ?_
  rintro e w2 ⟨rfl, hb2⟩
  rw [there_inB (adds_rep l).1 x]
  have hbw2 := hb1.trans hb2
  clear hb1 hb2 HE1
  go_wp2_with fail
  refine (adds_any (HH.out.bel hbw2) (by omega)).mono ?_
  rintro e w4 ⟨u4, rfl, ho4, hb4⟩
  have hbw4 := hbw2.trans hb4
  have hs4 := hbw4.size
  have hs2 := hbw2.size
  have hs24 := hb4.size
  have HO4 := Lib.hid ho4; clear ho4
  clear hb4
  go_wp2_with (at_builtin; refine wpList_app el30 _ rfl (.tmp 35) (.tmp 38) rfl w2.heap.size u4 l.length (stepCells (l.map addT)) rfl (HO4.out.alloc _) w4.heap.size 1 1 [.int .i64 2, .int .i64 x, .int .i64 0, .slice none 0 0] rfl (Blk.new _ _ _) rfl (by simp [Value.oneCell']) (by omega) (by omega) (by simp; omega) ?_)
  intro u5 w5 ho5 hg5 _
  have hb5 : Bel w w5 := (hbw4.alloc _).grown hg5 (fun k hk => Nat.le_trans hs2 (HO4.out.lt k hk).1)
  have HS5 := Lib.hid (script_own (T := [⟨2, x, 0, []⟩]) ho5 (by simp))
  clear ho5 hg5 hbw4 HO4 hbw2
  go_wp2_with fail
  refine (set_any n _ u5 w5 (by omega) HS5.out (by simp; omega) (stepIn_script HP3.out (by simp; exact keyS_in 2 hx0 hx1))).mono ?_
  rintro e w6 ⟨u6, rfl, hA6, hb6⟩
  have hbw6 := hb5.trans hb6
  clear hb5 hb6 HS5
  have q0 := script_at n l [⟨2, x, 0, []⟩] 0
  have hAl : (Pl.setRun n [] (l.map addS ++ [⟨2, x, 0, []⟩])).length = l.length + 1 := by rw [setRun_length]; simp
  obtain ⟨a6, c6, rfl, _, _, _⟩ := id hA6
  obtain ⟨b, k0, x0, rfl, g0, _, _, _, _, _⟩ := ansS_at hA6 q0
  clear hA6 q0
  rw [hAl]
  clear hAl
  have g0' : w6.cell? ⟨b, l.length * 4, none⟩ = some (.bool (inB (Pl.setAt [] (l.map addS)) x)) := g0
  clear g0
  generalize inB (Pl.setAt [] (l.map addS)) x = bb at *
  have m1 := eqb_self bb
  have m3 : (((l.length + 1 : Nat) : Int) == (l.length : Int) + 1) = true := by simp
  go_wp2
  go_ret
  exact ⟨rfl, hbw6⟩

set_option maxHeartbeats 1000000 in
theorem has_out (n : Int) (l : List Int) (v : Value) (x : Int) (w : World) (h : IntS w v l) (hp : plainB n l = false ∨ x < 0 ∨ n ≤ x) :
    Calls Try.prog 7 #[.int .i64 n, v, .int .i64 x] w fun e w' => e = .returned (.bool true) ∧ Bel w w' := by
  have HP := Lib.hid (plain_any n v l w h)
  obtain ⟨a, c, rfl, hlc, hcm, _⟩ := h
  by_cases hl : 2147483647 < l.length
  · clear hp
    go_enter Try.func7, Try.ntmps7
    go_wp2_with fail
    go_wp2
    go_ret
    exact ⟨rfl, Bel.refl w⟩
  cases hpb : plainB n l
  · rw [hpb] at HP
    clear hp hpb
    go_enter Try.func7, Try.ntmps7
    go_wp2_with (go_at_call 20; refine HP.out.mono ?_; rintro e w' ⟨rfl, rfl⟩)
    go_ret
    exact ⟨rfl, Bel.refl w⟩
  rw [hpb] at HP hp
  clear hpb
  by_cases h0 : x < 0
  · clear hp
    go_enter Try.func7, Try.ntmps7
    go_wp2_with (go_at_call 20; refine HP.out.mono ?_; rintro e w' ⟨rfl, rfl⟩)
    go_ret
    exact ⟨rfl, Bel.refl w⟩
  have h1 : n ≤ x := by rcases hp with hp | hp | hp <;> first | cases hp | omega
  clear hp
  go_enter Try.func7, Try.ntmps7
  go_wp2_with (go_at_call 20; refine HP.out.mono ?_; rintro e w' ⟨rfl, rfl⟩)
  go_ret
  exact ⟨rfl, Bel.refl w⟩
theorem law_FnSetHas (w : World) (n : Int) (_lo : -9223372036854775808 ≤ n) (_hi : n ≤ 9223372036854775807) (v : Value) (l : List Int) (h : IntS w v l) (x : Int) (_lo' : -9223372036854775808 ≤ x) (_hi' : x ≤ 9223372036854775807) :
    Calls Try.prog 7 #[.int .i64 n, v, .int .i64 x] w fun e w' => e = .returned (.bool true) ∧ Bel w w' := by
  by_cases hc : plainB n l = true ∧ 0 ≤ x ∧ x < n
  · obtain ⟨hp, h0, h1⟩ := hc
    obtain ⟨k, rfl⟩ := Int.eq_ofNat_of_zero_le (a := n) (by have := (plainB_iff.1 hp).1; omega)
    exact has_in k l v x w h hp h0 h1
  · refine has_out n l v x w h ?_
    cases hp : plainB n l
    · exact .inl rfl
    · rw [hp] at hc
      by_cases h0 : x < 0
      · exact .inr (.inl h0)
      · exact .inr (.inr (by have : ¬ (0 ≤ x ∧ x < n) := fun hh => hc ⟨rfl, hh⟩; omega))
end Go.Proofs.Ytlagnbiokhnhlaa
