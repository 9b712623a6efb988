/- The walk of FnSetTold. -/
import Derived.Test.YtlagnbiokhnhlaaLaw2
namespace Go.Proofs.Ytlagnbiokhnhlaa
open Go.RowKit

/-- The script's answers. -/
theorem told_plain (n : Nat) (l : List Int) : ∃ d, Pl.Rep (Pl.putAll [] l) d ∧ Zero d ∧
    (Pl.setRun n [] (l.map addS ++ [kindS 7, kindS 4, kindS 9]))[l.length]? = some ⟨false, 0, d.map (·.1), []⟩ ∧
    (Pl.setRun n [] (l.map addS ++ [kindS 7, kindS 4, kindS 9]))[l.length + 1]? = some ⟨false, d.length, [], []⟩ ∧
    (Pl.setRun n [] (l.map addS ++ [kindS 7, kindS 4, kindS 9]))[l.length + 2]? = some ⟨false, n, [], []⟩ := by
  obtain ⟨hr, hz⟩ := setAt_adds l [] [] Pl.Rep.nil (by intro e he; cases he)
  refine ⟨_, hr, hz, ?_, ?_, ?_⟩
  · have := setRun_get_last n (l.map addS) [kindS 7, kindS 4, kindS 9] 0
    rw [List.length_map] at this
    exact this
  · have := setRun_get_last n (l.map addS) [kindS 7, kindS 4, kindS 9] 1
    rw [List.length_map] at this
    exact this
  · have := setRun_get_last n (l.map addS) [kindS 7, kindS 4, kindS 9] 2
    rw [List.length_map] at this
    exact this

set_option maxRecDepth 100000 in
set_option maxHeartbeats 4000000 in
theorem told_in (n : Nat) (l : List Int) (v : Value) (w : World) (h : IntS w v l) (hp : plainB n l = true) :
    Calls Try.prog 10 #[.int .i64 n, v] w fun e w' => e = .returned (.bool true) ∧ Bel w w' := by
  have HP := Lib.hid (plain_any n v l w h)
  rw [hp] at HP
  obtain ⟨p0, p1, p2, p3⟩ := plainB_iff.1 hp
  clear hp
  have HH := Lib.hid h
  obtain ⟨a, c, rfl, hlc, hcm, _⟩ := h
  have HP3 := Lib.hid p3; clear p3
  go_enter Try.func10, Try.ntmps10
  go_wp2_with fail
  refine HP.out.mono ?_
  rintro e w' ⟨rfl, rfl⟩
  go_wp2_with fail
  refine (adds_any HH.out (by omega)).mono ?_
  rintro e w1 ⟨u1, rfl, ho1, hb1⟩
  have HO1 := Lib.hid ho1; clear ho1
  go_wp2_with fail
  refine (step_any 7 _).mono ?_
  rintro e w2 ⟨rfl, hb2⟩
  go_wp2_with fail
  refine (step_any 4 _).mono ?_
  rintro e w3 ⟨rfl, hb3⟩
  go_wp2_with fail
  refine (step_any 9 _).mono ?_
  rintro e w4 ⟨rfl, hb4⟩
  have hb14 := (hb2.trans hb3).trans hb4
  have hbw4 := hb1.trans hb14
  have hs4 := hbw4.size
  have HO4 := Lib.hid (own_bel HO1.out hb14)
  clear hb2 hb3 hb4 hb14 hb1 HO1
  go_wp2_with (at_builtin; refine wpList_app el30 _ rfl (.tmp 17) (.tmp 21) rfl w.heap.size u1 l.length (stepCells (l.map addT)) rfl (HO4.out.alloc _) w4.heap.size 3 3 [.int .i64 7, .int .i64 0, .int .i64 0, .slice none 0 0, .int .i64 4, .int .i64 0, .int .i64 0, .slice none 0 0, .int .i64 9, .int .i64 0, .int .i64 0, .slice none 0 0] rfl (Blk.new _ _ _) rfl (by simp [Value.oneCell']) (by omega) (by omega) (by simp; omega) ?_)
  intro u5 w5 ho5 hg5 _
  have hb5 : Bel w w5 := (hbw4.alloc _).grown hg5 (fun k hk => (HO4.out.lt k hk).1)
  have hS5 : StepS w5 u5 (l.map addS ++ [kindS 7, kindS 4, kindS 9]) := by
    have := stepS_own (L := l.map addT ++ [(kindS 7, nilV), (kindS 4, nilV), (kindS 9, nilV)]) (by rw [stepCells_append]; exact ho5) (fun p hp => by
      have : p.2 = .slice none 0 0 ∧ p.1.list = [] := by
        rcases List.mem_append.1 hp with hp | hp
        · obtain ⟨x, _, rfl⟩ := List.mem_map.1 hp; exact ⟨rfl, rfl⟩
        · simp at hp; rcases hp with rfl | rfl | rfl <;> exact ⟨rfl, rfl⟩
      rw [this.1, this.2]; exact IntS.nil _)
    rw [List.map_append, addT_fst] at this
    exact this
  have HS5 := Lib.hid hS5
  clear ho5 hg5 hS5 hbw4 HO4
  go_wp2_with fail
  refine (set_any n _ u5 w5 (by omega) HS5.out (by simp; omega) (fun s hs => by
    rcases List.mem_append.1 hs with hs | hs
    · obtain ⟨x, hx, rfl⟩ := List.mem_map.1 hs; exact StepIn.add (HP3.out x hx)
    · simp at hs; rcases hs with rfl | rfl | rfl <;> exact StepIn.kind (by omega) _)).mono ?_
  rintro e w6 ⟨u6, rfl, hA6, hb6⟩
  have hbw6 := hb5.trans hb6
  clear hb5 hb6 HS5
  obtain ⟨d, hr, hz, q0, q1, q2⟩ := told_plain n l
  have HD := Lib.hid (And.intro hr hz); clear hr hz
  have hAl : (Pl.setRun n [] (l.map addS ++ [kindS 7, kindS 4, kindS 9])).length = l.length + 3 := by rw [setRun_length]; simp
  obtain ⟨a6, c6, rfl, _, _, _⟩ := id hA6
  have HA6 := Lib.hid hA6
  obtain ⟨b, k0, x0, rfl, _, _, g0, _, hk0, _⟩ := ansS_at hA6 q0
  obtain ⟨b', _, _, hbb, _, g1, _⟩ := ansS_at hA6 q1
  cases hbb
  obtain ⟨b', _, _, hbb, _, g2, _⟩ := ansS_at hA6 q2
  cases hbb
  have HK0 := Lib.hid hk0; clear hk0
  clear hA6 q0 q1 q2
  rw [hAl]
  clear hAl
  go_wp2_with fail
  refine (entries_any (HH.out.bel hbw6) (by omega)).mono ?_
  rintro e w7 ⟨u7, rfl, hE7, hb7⟩
  have HE7 := Lib.hid hE7
  obtain ⟨a7, c7, rfl, _, _, _⟩ := hE7
  have g0' := hb7.cell g0
  have g1' := hb7.cell g1
  have g2' := hb7.cell g2
  have hbw7 := hbw6.trans hb7
  have HK7 := Lib.hid (HK0.out.bel hb7)
  clear g0 g1 g2 hb7 hbw6 HK0 HA6
  have hlen : (Pl.putAll [] l).length = d.length := HD.out.1.length
  have hple := Pl.putAll_length [] l
  have HT := Lib.hid (tells_rep HD.out.1 HD.out.2)
  rw [hlen] at HE7 ⊢
  rw [hlen] at hple
  simp only [List.length_nil] at hple
  have m1 : ((d.length : Int) == (d.length : Int)) = true := by simp
  have m2 : ((n : Int) == (n : Int)) = true := by simp
  have m3 : (((l.length + 3 : Nat) : Int) == (l.length : Int) + 3) = true := by simp
  obtain ⟨ka, kc, rfl, _, _, _⟩ := HK7.out
  have HTC := Lib.hid (tells_any HK7.out HE7.out (by simp; omega) (by rw [hlen]; omega))
  rw [HT.out] at HTC
  clear HT
  simp only [List.length_map] at HTC g0'
  go_wp2_with fail
  refine HTC.out.mono ?_
  rintro e w8 ⟨rfl, hb8⟩
  have f1 := hb8.cell g1'
  have f2 := hb8.cell g2'
  have hb9 := hbw7.trans hb8
  clear g0' g1' g2' hb8 hbw7
  go_wp2
  go_ret
  exact ⟨rfl, hb9⟩

set_option maxHeartbeats 1000000 in
theorem told_out (n : Int) (l : List Int) (v : Value) (w : World) (h : IntS w v l) (hp : plainB n l = false) :
    Calls Try.prog 10 #[.int .i64 n, v] w fun e w' => e = .returned (.bool true) ∧ Bel w w' := by
  have HP := Lib.hid (plain_any n v l w h)
  rw [hp] at HP
  clear hp
  obtain ⟨a, c, rfl, hlc, hcm, _⟩ := h
  by_cases hl : 2147483647 < l.length
  · go_enter Try.func10, Try.ntmps10
    go_wp2_with fail
    go_wp2
    go_ret
    exact ⟨rfl, Bel.refl w⟩
  · go_enter Try.func10, Try.ntmps10
    go_wp2_with (go_at_call 20; refine HP.out.mono ?_; rintro e w' ⟨rfl, rfl⟩)
    go_ret
    exact ⟨rfl, Bel.refl w⟩
theorem law_FnSetTold (w : World) (n : Int) (_lo : -9223372036854775808 ≤ n) (_hi : n ≤ 9223372036854775807) (v : Value) (l : List Int) (h : IntS w v l) :
    Calls Try.prog 10 #[.int .i64 n, v] w fun e w' => e = .returned (.bool true) ∧ Bel w w' := by
  cases hp : plainB n l
  · exact told_out n l v w h hp
  · obtain ⟨k, rfl⟩ := Int.eq_ofNat_of_zero_le (a := n) (by have := (plainB_iff.1 hp).1; omega)
    exact told_in k l v w h hp
end Go.Proofs.Ytlagnbiokhnhlaa
