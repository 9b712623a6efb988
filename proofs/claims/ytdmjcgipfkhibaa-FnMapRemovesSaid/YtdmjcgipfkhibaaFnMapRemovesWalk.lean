/- The walk of FnMapRemoves. -/
import Derived.Test.YtdmjcgipfkhibaaMapL3
import Derived.Deep.RegionHeld3
import Derived.Deep.DrawnRows
import Derived.Deep.Cut
namespace Go.Proofs.Ytdmjcgipfkhibaa
open Go.RowKit

attribute [local go_sem ↓] Go.wp_at_zero Go.wp_at_succ

set_option maxRecDepth 100000 in
set_option maxHeartbeats 4000000 in
theorem mremoves_in (n : Nat) (v u : Value) (ks vs : List Int) (x0 : Int) (w : World) (h : IntS w v ks) (h' : IntS w u vs) (hp : plainB n ks = true) (hs : smallB ks vs = true) (hx0 : 0 ≤ x0) (hx1 : x0 < n) :
    Calls Try.prog 6 #[.int .i64 n, v, u, .int .i64 x0] w fun e w' => e = .returned (.bool true) ∧ Bel w w' := by
  have HP := Lib.hid (plain_any n v ks w h)
  have HS := Lib.hid (small_any v u ks vs w h h')
  rw [hp] at HP
  rw [hs] at HS
  obtain ⟨p0, p1, p2, p3⟩ := plainB_iff.1 hp
  obtain ⟨s0, s1⟩ := smallB_iff.1 hs
  clear hp hs
  have HH := Lib.hid h
  have HH' := Lib.hid h'
  obtain ⟨a, c, rfl, hlc, hcm, hcell⟩ := h
  obtain ⟨a', c', rfl, hlc', hcm', hcell'⟩ := h'
  have HC := Lib.hid hcell; clear hcell
  have HC' := Lib.hid hcell'; clear hcell'
  have HP3 := Lib.hid p3; clear p3
  have HS1 := Lib.hid s1; clear s1
  have HS0 := Lib.hid s0
  have hkv1 : vs.length ≤ ks.length := by omega
  have hkv2 : ks.length ≤ vs.length := by omega
  clear s0
  have y0 : ¬ x0 < 0 := by omega
  have y1 : ¬ (n : Int) ≤ x0 := by omega
  go_enter Try.func6, Try.ntmps6
  go_wp2_with fail
  refine HP.out.mono ?_
  rintro e w' ⟨rfl, rfl⟩
  go_wp2_with fail
  refine HS.out.mono ?_
  rintro e w' ⟨rfl, rfl⟩
  go_wp2
  go_loopw [9, 46] (fun u i wr => ∃ j : Nat, j ≤ ks.length ∧ i = .int .i64 j ∧ EntS wr u (puts [] ((ks.zip vs).take j)) ∧ Bel w wr) (fun _ i _ => ks.length - (intOf i).toNat)
  case atStart => exact ⟨0, Nat.zero_le _, rfl, EntS.empty _ _, (Bel.refl w).alloc _⟩
  case round =>
    obtain ⟨j, hj, rfl, hown, hbel⟩ := hrel
    have HO := Lib.hid hown; clear hown
    by_cases hlt : j < ks.length
    · obtain ⟨b, o, rfl, hgd⟩ := HC.out (by omega)
      obtain ⟨b', o', rfl, hgd'⟩ := HC'.out (by omega)
      obtain ⟨x, he⟩ : ∃ e, ks[j]? = some e := ⟨_, List.getElem?_eq_getElem hlt⟩
      obtain ⟨y, he'⟩ : ∃ e, vs[j]? = some e := ⟨_, List.getElem?_eq_getElem (by omega)⟩
      have hc0 := hbel.cell (hgd j _ he)
      have hc1 := hbel.cell (hgd' j _ he')
      have HE : Hid (puts [] ((ks.zip vs).take (j + 1)) = Pl.put (puts [] ((ks.zip vs).take j)) x y) := Lib.hid (by rw [List.take_add_one, zip_get he he']; exact puts_snoc _ _ _)
      have hpl := puts_length [] ((ks.zip vs).take j)
      rw [List.length_take] at hpl
      simp only [List.length_nil] at hpl
      clear hgd he hgd' he'
      go_wp2_with (go_at_call 20; refine (put_ents _ _ x y _ HO.out (by omega)).mono ?_; rintro e w2 ⟨u2, rfl, hE2, hb2⟩; have HE2 := Lib.hid hE2; clear hE2)
      go_roundw
      case rel => exact ⟨j + 1, by omega, by go_num, by rw [HE.out]; exact HE2.out, hbel.trans hb2⟩
      case measure => simp [intOf]; omega
    · obtain rfl : j = ks.length := by omega
      have HL : Hid (EntS wr u9 (puts [] (ks.zip vs))) := Lib.hid (by have := HO.out; rwa [List.take_of_length_le (by rw [zip_len HS0.out]; exact Nat.le_refl _)] at this)
      clear HO HC HC'
      go_wp2_with fail
      refine (sets_any (HH.out.bel hbel) (HH'.out.bel hbel) HS0.out (by omega)).mono ?_
      rintro e w1 ⟨u1, rfl, ho1, hb1⟩
      have HO1 := Lib.hid ho1; clear ho1
      go_wp2_with fail
      refine (step_any 7 _).mono ?_
      rintro e w3 ⟨rfl, hb13⟩
      have hbr3 := hb1.trans hb13
      have hs3 := hbr3.size
      have HO3 := Lib.hid (own_bel HO1.out hb13)
      clear hb13 hb1 HO1
      go_wp2_with (at_builtin; refine wpList_app el30 _ rfl (.tmp 62) (.tmp 68) rfl wr.heap.size u1 ks.length (stepCells ((ks.zip vs).map setT)) rfl (HO3.out.alloc _) w3.heap.size 3 3 [.int .i64 1, .int .i64 x0, .int .i64 0, .slice none 0 0, .int .i64 3, .int .i64 x0, .int .i64 0, .slice none 0 0, .int .i64 7, .int .i64 0, .int .i64 0, .slice none 0 0] rfl (Blk.new _ _ _) rfl (by simp [Value.oneCell']) (by omega) (by omega) (by simp; omega) ?_)
      intro u5 w5 ho5 hg5 _
      have hb5 : Bel wr w5 := (hbr3.alloc _).grown hg5 (fun k hk => (HO3.out.lt k hk).1)
      have HS5 := Lib.hid (sscript_own (T := [⟨1, x0, 0, []⟩, ⟨3, x0, 0, []⟩, kindS 7]) ho5 (by simp))
      clear ho5 hg5 hbr3 HO3
      go_wp2_with fail
      refine (map_any n _ u5 w5 (by omega) HS5.out (by simp [zip_len HS0.out]; omega) (stepM_script HP3.out HS1.out (by intro s hs; simp at hs; rcases hs with rfl | rfl | rfl; exact stepM_key 1 hx0 hx1; exact stepM_key 3 hx0 hx1; exact stepM_kind (by omega) _))).mono ?_
      rintro e w6 ⟨u6, rfl, hA6, hb6⟩
      have hbw6 := hb5.trans hb6
      clear hb5 hb6 HS5
      have hR := rep_out (sets_rep (n := n) (vs := vs) HP3.out) x0
      have q1 := mscript_at (Pl.ofMap n) ((ks.zip vs).map setS) [⟨1, x0, 0, []⟩, ⟨3, x0, 0, []⟩, kindS 7] 1
      have q2 := mscript_at (Pl.ofMap n) ((ks.zip vs).map setS) [⟨1, x0, 0, []⟩, ⟨3, x0, 0, []⟩, kindS 7] 2
      rw [List.length_map, zip_len HS0.out] at q1 q2
      have hno : ∀ v', (x0, v') ∉ outE (Pl.mapAt (Pl.ofMap n) [] ((ks.zip vs).map setS)) x0 := fun v' hv' => (Pl.mem_without.1 ((hR.mem _).2 hv')).2 rfl
      have hhb := hasB_false hno
      have q1' : (Pl.mapRun (Pl.ofMap n) [] ((ks.zip vs).map setS ++ [⟨1, x0, 0, []⟩, ⟨3, x0, 0, []⟩, kindS 7]))[ks.length + 1]? = some ⟨hasB (outE (Pl.mapAt (Pl.ofMap n) [] ((ks.zip vs).map setS)) x0) x0 && true, if hasB (outE (Pl.mapAt (Pl.ofMap n) [] ((ks.zip vs).map setS)) x0) x0 then getV (outE (Pl.mapAt (Pl.ofMap n) [] ((ks.zip vs).map setS)) x0) x0 else 0, [], []⟩ := q1
      rw [hhb] at q1'
      have q1'' : (Pl.mapRun (Pl.ofMap n) [] ((ks.zip vs).map setS ++ [⟨1, x0, 0, []⟩, ⟨3, x0, 0, []⟩, kindS 7]))[ks.length + 1]? = some ⟨false, 0, [], []⟩ := q1'
      have q2' : (Pl.mapRun (Pl.ofMap n) [] ((ks.zip vs).map setS ++ [⟨1, x0, 0, []⟩, ⟨3, x0, 0, []⟩, kindS 7]))[ks.length + 2]? = some ⟨false, 0, (outE (Pl.mapAt (Pl.ofMap n) [] ((ks.zip vs).map setS)) x0).map (·.1), (outE (Pl.mapAt (Pl.ofMap n) [] ((ks.zip vs).map setS)) x0).map (·.2)⟩ := q2
      clear q1 q2 q1' hno hhb
      generalize hD : outE (Pl.mapAt (Pl.ofMap n) [] ((ks.zip vs).map setS)) x0 = d at hR q2'
      have hAl : (Pl.mapRun (Pl.ofMap n) [] ((ks.zip vs).map setS ++ [⟨1, x0, 0, []⟩, ⟨3, x0, 0, []⟩, kindS 7])).length = ks.length + 3 := by rw [mapRun_length]; simp [zip_len HS0.out]
      clear hD
      obtain ⟨a6, c6, rfl, _, _, _⟩ := id hA6
      obtain ⟨b, k0, x2, rfl, _, _, g0, g0x, hk0, hx2⟩ := ansS_at hA6 q2'
      obtain ⟨b', _, _, hbb, g1, g1v, _⟩ := ansS_at hA6 q1''
      cases hbb
      have hpl := puts_length [] (ks.zip vs)
      rw [zip_len HS0.out] at hpl
      simp only [List.length_nil] at hpl
      have hwl := Pl.without_length (puts [] (ks.zip vs)) x0
      have hdl := hR.length
      have HSO := Lib.hid (sorted_rep hR)
      have HK0 := Lib.hid hk0
      have HX0 := Lib.hid hx2
      obtain ⟨ka, kc, rfl, _, _, _⟩ := hk0
      obtain ⟨xa, xc, rfl, _, _, _⟩ := hx2
      clear hA6 q1'' q2' hR
      rw [hAl]
      clear hAl
      simp only [List.length_map] at g0 g0x HK0 HX0
      have hdl2 : d.length ≤ 1000 := by omega
      have hpl2 : (puts [] (ks.zip vs)).length ≤ 1000 := by omega
      have HWL : Hid ((Pl.without (puts [] (ks.zip vs)) x0).length ≤ 1000) := Lib.hid (by omega)
      clear hpl hdl hwl
      have m3' : (((ks.length + 3 : Nat) : Int) != (ks.length : Int) + 3) = false := by simp
      have i1 : IntKind.i64.wrap ((ks.length : Int) + 2) = (ks.length : Int) + 2 := IntWalk.i64_in _ (by omega)
      have i2 : IntKind.i64.wrap ((ks.length : Int) + 1) = (ks.length : Int) + 1 := IntWalk.i64_in _ (by omega)
      have i3 : IntKind.i64.wrap ((ks.length : Int) + 3) = (ks.length : Int) + 3 := IntWalk.i64_in _ (by omega)
      have j1 : (0 : Int) ≤ (ks.length : Int) + 1 := by omega
      have j2 : (ks.length : Int) + 1 < ((ks.length + 3 : Nat) : Int) := by omega
      have j3 : (0 : Int) ≤ (ks.length : Int) + 2 := by omega
      have j4 : (ks.length : Int) + 2 < ((ks.length + 3 : Nat) : Int) := by omega
      have j5 : ((ks.length : Int) + 1).toNat = ks.length + 1 := by omega
      have j6 : ((ks.length : Int) + 2).toNat = ks.length + 2 := by omega
      go_upto_region 15 with (fail)
      go_region_held3 (fun w' => w'.cell? ⟨b, (ks.length + 2) * 4 + 2, none⟩ = some (.slice ka d.length kc) ∧ w'.cell? ⟨b, (ks.length + 2) * 4 + 3, none⟩ = some (.slice xa d.length xc))
        (first | exact k7 | go_keep)
        (first
          | (go_at_call 23; refine (sorted_any _ _ (d.map (·.1)) (d.map (·.2)) _ (HK0.out.bel (Bel.refl w6).drew) (HX0.out.bel (Bel.refl w6).drew) (by simp; omega)).mono ?_; rw [HSO.out]; rintro e w7 ⟨uA, rfl, hE7, hb7⟩; have HE7 : Hid (EntS w7 uA (Pl.without (puts [] (ks.zip vs)) x0)) := Lib.hid hE7; clear hE7; have k7 := And.intro (hb7.cell g0) (hb7.cell g0x)))
      have hb67 := (Bel.refl w6).drew.trans hb7
      have HL7 := Lib.hid (HL.out.bel (hbw6.trans hb67))
      have hbw7 := (hbel.trans hbw6).trans hb67
      clear g0 g0x g1 g1v hbel hbw6 hb7 hb67 k7
      go_wp2_with fail
      refine (without_any _ _ x0 _ HL7.out (by omega)).mono ?_
      rintro e w8 ⟨uB, rfl, hE8, hb8⟩
      have HSM := Lib.hid (same_ents _ _ _ _ w8 (HE7.out.bel hb8) hE8 (by have := HWL.out; omega) (by have := HWL.out; omega))
      rw [decide_eq_true rfl] at HSM
      clear hE8
      go_wp2_with fail
      refine HSM.out.mono ?_
      rintro e w9 ⟨rfl, hb9⟩
      have hb10 := (hbw7.trans hb8).trans hb9
      clear hb8 hb9 hbw7
      go_wp2
      go_ret
      exact ⟨rfl, hb10⟩

set_option maxHeartbeats 1000000 in
theorem mremoves_out (n : Int) (v u : Value) (ks vs : List Int) (x0 : Int) (w : World) (h : IntS w v ks) (h' : IntS w u vs) (hp : plainB n ks = false ∨ smallB ks vs = false ∨ x0 < 0 ∨ n ≤ x0) :
    Calls Try.prog 6 #[.int .i64 n, v, u, .int .i64 x0] w fun e w' => e = .returned (.bool true) ∧ Bel w w' := by
  have HP := Lib.hid (plain_any n v ks w h)
  have HS := Lib.hid (small_any v u ks vs w h h')
  obtain ⟨a, c, rfl, hlc, hcm, _⟩ := h
  obtain ⟨a', c', rfl, hlc', hcm', _⟩ := h'
  by_cases hl : 2147483647 < ks.length
  · clear hp
    go_enter Try.func6, Try.ntmps6
    go_wp2_with fail
    go_wp2
    go_ret
    exact ⟨rfl, Bel.refl w⟩
  by_cases hl' : 2147483647 < vs.length
  · clear hp
    go_enter Try.func6, Try.ntmps6
    go_wp2_with fail
    go_wp2
    go_ret
    exact ⟨rfl, Bel.refl w⟩
  cases hpb : plainB n ks
  · rw [hpb] at HP
    clear hp hpb
    go_enter Try.func6, Try.ntmps6
    go_wp2_with (go_at_call 18; refine HP.out.mono ?_; rintro e w' ⟨rfl, rfl⟩)
    go_ret
    exact ⟨rfl, Bel.refl w⟩
  rw [hpb] at HP hp
  cases hsb : smallB ks vs
  · rw [hsb] at HS
    clear hp hpb hsb
    go_enter Try.func6, Try.ntmps6
    go_wp2_with fail
    refine HP.out.mono ?_
    rintro e w' ⟨rfl, rfl⟩
    go_wp2_with fail
    refine HS.out.mono ?_
    rintro e w' ⟨rfl, rfl⟩
    go_wp2
    go_ret
    exact ⟨rfl, Bel.refl w⟩
  rw [hsb] at HS hp
  clear hpb hsb
  by_cases h0 : x0 < 0
  · clear hp
    go_enter Try.func6, Try.ntmps6
    go_wp2_with fail
    refine HP.out.mono ?_
    rintro e w' ⟨rfl, rfl⟩
    go_wp2_with fail
    refine HS.out.mono ?_
    rintro e w' ⟨rfl, rfl⟩
    go_wp2
    go_ret
    exact ⟨rfl, Bel.refl w⟩
  have h1 : n ≤ x0 := by rcases hp with hp | hp | hp | hp <;> first | cases hp | omega
  clear hp
  go_enter Try.func6, Try.ntmps6
  go_wp2_with fail
  refine HP.out.mono ?_
  rintro e w' ⟨rfl, rfl⟩
  go_wp2_with fail
  refine HS.out.mono ?_
  rintro e w' ⟨rfl, rfl⟩
  go_wp2
  go_ret
  exact ⟨rfl, Bel.refl w⟩
theorem law_FnMapRemoves (w : World) (n : Int) (_lo : -9223372036854775808 ≤ n) (_hi : n ≤ 9223372036854775807) (v : Value) (ks : List Int) (h : IntS w v ks) (u : Value) (vs : List Int) (h' : IntS w u vs) (x0 : Int) (_lo' : -9223372036854775808 ≤ x0) (_hi' : x0 ≤ 9223372036854775807) :
    Calls Try.prog 6 #[.int .i64 n, v, u, .int .i64 x0] w fun e w' => e = .returned (.bool true) ∧ Bel w w' := by
  cases hp : plainB n ks
  · exact mremoves_out n v u ks vs x0 w h h' (.inl hp)
  cases hs : smallB ks vs
  · exact mremoves_out n v u ks vs x0 w h h' (.inr (.inl hs))
  by_cases h0 : x0 < 0
  · exact mremoves_out n v u ks vs x0 w h h' (.inr (.inr (.inl h0)))
  by_cases h1 : n ≤ x0
  · exact mremoves_out n v u ks vs x0 w h h' (.inr (.inr (.inr h1)))
  obtain ⟨k, rfl⟩ := Int.eq_ofNat_of_zero_le (a := n) (by have := (plainB_iff.1 hp).1; omega)
  exact mremoves_in k v u ks vs x0 w h h' hp hs (by omega) (by omega)
end Go.Proofs.Ytdmjcgipfkhibaa
