/- The walk of FnMapEntries. -/
import Derived.Test.YtdmjcgipfkhibaaMapL3
import Derived.Deep.RegionHeld3
import Derived.Deep.DrawnRows
import Derived.Deep.Cut
namespace Go.Proofs.Ytdmjcgipfkhibaa
open Go.RowKit

attribute [local go_sem ↓] Go.wp_at_zero Go.wp_at_succ

set_option maxRecDepth 100000 in
set_option maxHeartbeats 4000000 in
theorem entries_in (n : Nat) (v u : Value) (ks vs : List Int) (w : World) (h : IntS w v ks) (h' : IntS w u vs) (hp : plainB n ks = true) (hs : smallB ks vs = true) :
    Calls Try.prog 4 #[.int .i64 n, v, u] w fun e w' => e = .returned (.bool true) ∧ Bel w w' := by
  have HP := Lib.hid (plain_any n v ks w h)
  have HS := Lib.hid (small_any v u ks vs w h h')
  rw [hp] at HP
  rw [hs] at HS
  obtain ⟨p0, p1, p2, p3⟩ := plainB_iff.1 hp
  obtain ⟨s0, s1⟩ := smallB_iff.1 hs
  clear hp hs
  have HH := Lib.hid h
  have HH' := Lib.hid h'
  obtain ⟨a, c, rfl, hlc, hcm, hcell⟩ := h
  obtain ⟨a', c', rfl, hlc', hcm', hcell'⟩ := h'
  have HC := Lib.hid hcell; clear hcell
  have HC' := Lib.hid hcell'; clear hcell'
  have HP3 := Lib.hid p3; clear p3
  have HS1 := Lib.hid s1; clear s1
  have HS0 := Lib.hid s0
  have hkv1 : vs.length ≤ ks.length := by omega
  have hkv2 : ks.length ≤ vs.length := by omega
  clear s0
  go_enter Try.func4, Try.ntmps4
  go_wp2_with fail
  refine HP.out.mono ?_
  rintro e w' ⟨rfl, rfl⟩
  go_wp2_with fail
  refine HS.out.mono ?_
  rintro e w' ⟨rfl, rfl⟩
  go_wp2
  go_loopw [7, 35] (fun u i wr => ∃ j : Nat, j ≤ ks.length ∧ i = .int .i64 j ∧ EntS wr u (puts [] ((ks.zip vs).take j)) ∧ Bel w wr) (fun _ i _ => ks.length - (intOf i).toNat)
  case atStart => exact ⟨0, Nat.zero_le _, rfl, EntS.empty _ _, (Bel.refl w).alloc _⟩
  case round =>
    obtain ⟨j, hj, rfl, hown, hbel⟩ := hrel
    have HO := Lib.hid hown; clear hown
    by_cases hlt : j < ks.length
    · obtain ⟨b, o, rfl, hgd⟩ := HC.out (by omega)
      obtain ⟨b', o', rfl, hgd'⟩ := HC'.out (by omega)
      obtain ⟨x, he⟩ : ∃ e, ks[j]? = some e := ⟨_, List.getElem?_eq_getElem hlt⟩
      obtain ⟨y, he'⟩ : ∃ e, vs[j]? = some e := ⟨_, List.getElem?_eq_getElem (by omega)⟩
      have hc0 := hbel.cell (hgd j _ he)
      have hc1 := hbel.cell (hgd' j _ he')
      have HE : Hid (puts [] ((ks.zip vs).take (j + 1)) = Pl.put (puts [] ((ks.zip vs).take j)) x y) := Lib.hid (by rw [List.take_add_one, zip_get he he']; exact puts_snoc _ _ _)
      have hpl := puts_length [] ((ks.zip vs).take j)
      rw [List.length_take] at hpl
      simp only [List.length_nil] at hpl
      clear hgd he hgd' he'
      go_wp2_with (go_at_call 20; refine (put_ents _ _ x y _ HO.out (by omega)).mono ?_; rintro e w2 ⟨u2, rfl, hE2, hb2⟩; have HE2 := Lib.hid hE2; clear hE2)
      go_roundw
      case rel => exact ⟨j + 1, by omega, by go_num, by rw [HE.out]; exact HE2.out, hbel.trans hb2⟩
      case measure => simp [intOf]; omega
    · obtain rfl : j = ks.length := by omega
      have HL : Hid (EntS wr u7 (puts [] (ks.zip vs))) := Lib.hid (by have := HO.out; rwa [List.take_of_length_le (by rw [zip_len HS0.out]; exact Nat.le_refl _)] at this)
      clear HO HC HC'
      go_wp2_with fail
      refine (sets_any (HH.out.bel hbel) (HH'.out.bel hbel) HS0.out (by omega)).mono ?_
      rintro e w1 ⟨u1, rfl, ho1, hb1⟩
      have HO1 := Lib.hid ho1; clear ho1
      go_wp2_with fail
      refine (step_any 7 _).mono ?_
      rintro e w2 ⟨rfl, hb2⟩
      go_wp2_with fail
      refine (step_any 4 _).mono ?_
      rintro e w3 ⟨rfl, hb3⟩
      have hb13 := hb2.trans hb3
      have hbr3 := hb1.trans hb13
      have hs3 := hbr3.size
      have HO3 := Lib.hid (own_bel HO1.out hb13)
      clear hb2 hb3 hb13 hb1 HO1
      go_wp2_with (at_builtin; refine wpList_app el30 _ rfl (.tmp 51) (.tmp 54) rfl wr.heap.size u1 ks.length (stepCells ((ks.zip vs).map setT)) rfl (HO3.out.alloc _) w3.heap.size 2 2 [.int .i64 7, .int .i64 0, .int .i64 0, .slice none 0 0, .int .i64 4, .int .i64 0, .int .i64 0, .slice none 0 0] rfl (Blk.new _ _ _) rfl (by simp [Value.oneCell']) (by omega) (by omega) (by simp; omega) ?_)
      intro u5 w5 ho5 hg5 _
      have hb5 : Bel wr w5 := (hbr3.alloc _).grown hg5 (fun k hk => (HO3.out.lt k hk).1)
      have HS5 := Lib.hid (sscript_own (T := [kindS 7, kindS 4]) ho5 (by simp))
      clear ho5 hg5 hbr3 HO3
      go_wp2_with fail
      refine (map_any n _ u5 w5 (by omega) HS5.out (by simp [zip_len HS0.out]; omega) (stepM_script HP3.out HS1.out (by intro s hs; simp at hs; rcases hs with rfl | rfl <;> exact stepM_kind (by omega) _))).mono ?_
      rintro e w6 ⟨u6, rfl, hA6, hb6⟩
      have hbw6 := hb5.trans hb6
      clear hb5 hb6 HS5
      have hR := sets_rep (n := n) (vs := vs) HP3.out
      have q0 := mscript_at (Pl.ofMap n) ((ks.zip vs).map setS) [kindS 7, kindS 4] 0
      have q1 := mscript_at (Pl.ofMap n) ((ks.zip vs).map setS) [kindS 7, kindS 4] 1
      rw [List.length_map, zip_len HS0.out] at q0 q1
      generalize hD : Pl.mapAt (Pl.ofMap n) [] ((ks.zip vs).map setS) = d at hR q0 q1
      have q0' : (Pl.mapRun (Pl.ofMap n) [] ((ks.zip vs).map setS ++ [kindS 7, kindS 4]))[ks.length + 0]? = some ⟨false, 0, d.map (·.1), d.map (·.2)⟩ := q0
      have q1' : (Pl.mapRun (Pl.ofMap n) [] ((ks.zip vs).map setS ++ [kindS 7, kindS 4]))[ks.length + 1]? = some ⟨false, d.length, [], []⟩ := q1
      have hAl : (Pl.mapRun (Pl.ofMap n) [] ((ks.zip vs).map setS ++ [kindS 7, kindS 4])).length = ks.length + 2 := by rw [mapRun_length]; simp [zip_len HS0.out]
      clear hD q0 q1
      obtain ⟨a6, c6, rfl, _, _, _⟩ := id hA6
      obtain ⟨b, k0, x0, rfl, _, _, g0, g0x, hk0, hx0⟩ := ansS_at hA6 q0'
      obtain ⟨b', _, _, hbb, _, g1, _⟩ := ansS_at hA6 q1'
      cases hbb
      have hpl := puts_length [] (ks.zip vs)
      rw [zip_len HS0.out] at hpl
      simp only [List.length_nil] at hpl
      have hdl := hR.length
      have HSO := Lib.hid (sorted_rep hR)
      have HK0 := Lib.hid hk0
      have HX0 := Lib.hid hx0
      obtain ⟨ka, kc, rfl, _, _, _⟩ := hk0
      obtain ⟨xa, xc, rfl, _, _, _⟩ := hx0
      clear hA6 q0' q1' hR
      rw [hAl]
      clear hAl
      simp only [List.length_map, Nat.add_zero] at g0 g0x HK0 HX0
      have hdl2 : d.length ≤ 1000 := by omega
      have hdl' : (puts [] (ks.zip vs)).length ≤ d.length := by omega
      have hdl'' : d.length ≤ (puts [] (ks.zip vs)).length := by omega
      clear hpl hdl
      have HLN : Hid ((puts [] (ks.zip vs)).length = d.length) := Lib.hid (by omega)
      clear hdl' hdl''
      have m3 : (((ks.length + 2 : Nat) : Int) == (ks.length : Int) + 2) = true := by simp
      have m3' : (((ks.length + 2 : Nat) : Int) != (ks.length : Int) + 2) = false := by simp
      have i1 : IntKind.i64.wrap ((ks.length : Int) + 2) = (ks.length : Int) + 2 := IntWalk.i64_in _ (by omega)
      have i2 : IntKind.i64.wrap ((ks.length : Int) + 1) = (ks.length : Int) + 1 := IntWalk.i64_in _ (by omega)
      have j1 : (0 : Int) ≤ (ks.length : Int) := by omega
      have j2 : (ks.length : Int) < (ks.length : Int) + 2 := by omega
      go_upto_region 15 with (fail)
      go_region_held3 (fun w' => w'.cell? ⟨b, ks.length * 4 + 2, none⟩ = some (.slice ka d.length kc) ∧ w'.cell? ⟨b, ks.length * 4 + 3, none⟩ = some (.slice xa d.length xc))
        (first | exact k7 | go_keep)
        (first
          | (go_at_call 23; refine (sorted_any _ _ (d.map (·.1)) (d.map (·.2)) _ (HK0.out.bel (Bel.refl w6).drew) (HX0.out.bel (Bel.refl w6).drew) (by simp; omega)).mono ?_; rw [HSO.out]; rintro e w7 ⟨uA, rfl, hE7, hb7⟩; have HE7 : Hid (EntS w7 uA (puts [] (ks.zip vs))) := Lib.hid hE7; clear hE7; have k7 := And.intro (hb7.cell g0) (hb7.cell g0x)))
      have hb67 := (Bel.refl w6).drew.trans hb7
      have g1' := hb67.cell g1
      have HL7 := Lib.hid (HL.out.bel (hbw6.trans hb67))
      have hbw7 := (hbel.trans hbw6).trans hb67
      have HSM := Lib.hid (same_ents _ _ (puts [] (ks.zip vs)) (puts [] (ks.zip vs)) w7 HE7.out HL7.out (by have := HLN.out; omega) (by have := HLN.out; omega))
      obtain ⟨la, lc, hl7, _, _, _⟩ := HL7.out
      rw [HLN.out] at hl7
      subst hl7
      rw [decide_eq_true rfl] at HSM
      clear g0 g0x g1 hbel hbw6 hb7 hb67 k7
      go_wp2_with fail
      refine HSM.out.mono ?_
      rintro e w8 ⟨rfl, hb8⟩
      have f1 := hb8.cell g1'
      have hb9 := hbw7.trans hb8
      have m2 : ((d.length : Int) == (d.length : Int)) = true := by simp
      clear g1' hb8 hbw7
      go_wp2
      go_ret
      exact ⟨rfl, hb9⟩

set_option maxHeartbeats 1000000 in
theorem entries_out (n : Int) (v u : Value) (ks vs : List Int) (w : World) (h : IntS w v ks) (h' : IntS w u vs) (hp : plainB n ks = false ∨ smallB ks vs = false) :
    Calls Try.prog 4 #[.int .i64 n, v, u] w fun e w' => e = .returned (.bool true) ∧ Bel w w' := by
  have HP := Lib.hid (plain_any n v ks w h)
  have HS := Lib.hid (small_any v u ks vs w h h')
  obtain ⟨a, c, rfl, hlc, hcm, _⟩ := h
  obtain ⟨a', c', rfl, hlc', hcm', _⟩ := h'
  by_cases hl : 2147483647 < ks.length
  · clear hp
    go_enter Try.func4, Try.ntmps4
    go_wp2_with fail
    go_wp2
    go_ret
    exact ⟨rfl, Bel.refl w⟩
  by_cases hl' : 2147483647 < vs.length
  · clear hp
    go_enter Try.func4, Try.ntmps4
    go_wp2_with fail
    go_wp2
    go_ret
    exact ⟨rfl, Bel.refl w⟩
  cases hpb : plainB n ks
  · rw [hpb] at HP
    clear hp hpb
    go_enter Try.func4, Try.ntmps4
    go_wp2_with (go_at_call 18; refine HP.out.mono ?_; rintro e w' ⟨rfl, rfl⟩)
    go_ret
    exact ⟨rfl, Bel.refl w⟩
  rw [hpb] at HP hp
  have hs : smallB ks vs = false := by rcases hp with hp | hp; cases hp; exact hp
  rw [hs] at HS
  clear hp hpb hs
  go_enter Try.func4, Try.ntmps4
  go_wp2_with fail
  refine HP.out.mono ?_
  rintro e w' ⟨rfl, rfl⟩
  go_wp2_with fail
  refine HS.out.mono ?_
  rintro e w' ⟨rfl, rfl⟩
  go_wp2
  go_ret
  exact ⟨rfl, Bel.refl w⟩
theorem law_FnMapEntries (w : World) (n : Int) (_lo : -9223372036854775808 ≤ n) (_hi : n ≤ 9223372036854775807) (v : Value) (ks : List Int) (h : IntS w v ks) (u : Value) (vs : List Int) (h' : IntS w u vs) :
    Calls Try.prog 4 #[.int .i64 n, v, u] w fun e w' => e = .returned (.bool true) ∧ Bel w w' := by
  cases hp : plainB n ks
  · exact entries_out n v u ks vs w h h' (.inl hp)
  cases hs : smallB ks vs
  · exact entries_out n v u ks vs w h h' (.inr hs)
  obtain ⟨k, rfl⟩ := Int.eq_ofNat_of_zero_le (a := n) (by have := (plainB_iff.1 hp).1; omega)
  exact entries_in k v u ks vs w h h' hp hs
end Go.Proofs.Ytdmjcgipfkhibaa
