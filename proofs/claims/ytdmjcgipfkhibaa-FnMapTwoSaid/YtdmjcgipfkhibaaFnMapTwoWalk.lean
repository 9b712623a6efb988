/- The walk of FnMapTwo. -/
import Derived.Test.YtdmjcgipfkhibaaBia6
import Derived.Deep.Cut
namespace Go.Proofs.Ytdmjcgipfkhibaa
open Go.RowKit
attribute [local go_sem ↓] Go.wp_at_zero Go.wp_at_succ

theorem two_rules (n : Int) : Pl.ofBiased 0 (n - 1) = Pl.ofMap n := by unfold Pl.ofBiased Pl.ofMap; rw [Int.sub_add_cancel]

/-- The cells of two answers. -/
theorem cells8 {w w' : World} {p0 p1 p2 p3 p4 p5 p6 p7 : Addr} {v0 v1 v2 v3 v4 v5 v6 v7 : Value} (hb : Bel w w') (h : w.cell? p0 = some v0 ∧ w.cell? p1 = some v1 ∧ w.cell? p2 = some v2 ∧ w.cell? p3 = some v3 ∧ w.cell? p4 = some v4 ∧ w.cell? p5 = some v5 ∧ w.cell? p6 = some v6 ∧ w.cell? p7 = some v7) :
    w'.cell? p0 = some v0 ∧ w'.cell? p1 = some v1 ∧ w'.cell? p2 = some v2 ∧ w'.cell? p3 = some v3 ∧ w'.cell? p4 = some v4 ∧ w'.cell? p5 = some v5 ∧ w'.cell? p6 = some v6 ∧ w'.cell? p7 = some v7 := by
  obtain ⟨a0, a1, a2, a3, a4, a5, a6, a7⟩ := h
  exact ⟨hb.cell a0, hb.cell a1, hb.cell a2, hb.cell a3, hb.cell a4, hb.cell a5, hb.cell a6, hb.cell a7⟩
set_option maxRecDepth 100000 in
set_option maxHeartbeats 4000000 in
theorem law_FnMapTwo (w : World) (n : Int) (_lo : -9223372036854775808 ≤ n) (_hi : n ≤ 9223372036854775807) (v : Value) (S : List Pl.StepD) (h : StepS w v S) :
    Calls Try.prog 12 #[.int .i64 n, v] w fun e w' => e = .returned (.bool true) ∧ Bel w w' := by
  have HH := Lib.hid h
  obtain ⟨a, c, rfl, hlc, hcm, _⟩ := h
  go_enter Try.func12, Try.ntmps12
  go_wp2_with fail
  refine (zzFits1_any _ S w HH.out).mono ?_
  rintro e w1 ⟨b1, rfl, _, hb1⟩
  cases b1
  · go_wp2
    go_ret
    exact ⟨rfl, hb1⟩
  go_wp2_with fail
  refine (fits_any n _ S w1 (HH.out.bel hb1)).mono ?_
  rintro e w2 ⟨b2, rfl, hQ, hb2⟩
  cases b2
  · clear hQ
    go_wp2
    go_ret
    exact ⟨rfl, hb1.trans hb2⟩
  obtain ⟨n1, n2, sl, ll, ft⟩ := hQ rfl
  clear hQ
  have HFT := Lib.hid ft; clear ft
  clear ll
  have hb12 := hb1.trans hb2
  clear hb1 hb2
  obtain ⟨n, rfl⟩ := Int.eq_ofNat_of_zero_le (a := n) (by omega)
  go_wp2_with fail
  refine (map_any n S _ w2 (by omega) (HH.out.bel hb12) (by omega) (FitQ.stepM HFT.out)).mono ?_
  rintro e w4 ⟨u4, rfl, hA4, hb4⟩
  have HA4 := Lib.hid hA4; clear hA4
  have HBC := Lib.hid (bia_any 0 n S _ w4 (by omega) (by omega) (by omega) (by omega) (HH.out.bel (hb12.trans hb4)) (by omega) (fun s hs => ⟨⟨(HFT.out s hs).1.1, by have := (HFT.out s hs).1.2; omega⟩, (FitQ.stepM HFT.out s hs).v⟩))
  rw [show (0 : Int) + (n : Int) - 1 = (n : Int) - 1 by omega, two_rules] at HBC
  go_wp2_with fail
  refine HBC.out.mono ?_
  rintro e w5 ⟨u5, rfl, hB5, hb5⟩
  have hA5 := HA4.out.bel hb5
  have HAB := Lib.hid (And.intro hA5 hB5)
  have HSO : Hid (∀ A ∈ Pl.mapRun (Pl.ofMap n) [] S, ∃ t, Pl.sortedOf A.keys A.vals = some t) := Lib.hid (mapRun_sorted rfl S [] [] Pl.Rep.nil)
  have HKL : Hid (∀ A ∈ Pl.mapRun (Pl.ofMap n) [] S, A.keys.length ≤ 1000000) := Lib.hid (fun A hA => by
    have := mapRun_keys S [] 0 (by simp) A hA
    omega)
  have HAl : Hid ((Pl.mapRun (Pl.ofMap n) [] S).length = S.length) := Lib.hid (mapRun_length _ _ _)
  obtain ⟨sa, sc, rfl, _, _, _⟩ := hA5
  obtain ⟨ma, mc, rfl, _, _, _⟩ := hB5
  rw [HAl.out] at HAB ⊢
  have hbw5 := (hb12.trans hb4).trans hb5
  clear hb12 hb4 hb5 HA4 HBC
  have m0 : ((S.length : Int) != (S.length : Int)) = false := by simp
  go_wp2
  go_loopw [36] (fun i wq => ∃ j : Nat, j ≤ S.length ∧ i = .int .i64 j ∧ Bel w5 wq) (fun i _ => S.length - (intOf i).toNat)
  case atStart => exact ⟨0, Nat.zero_le _, rfl, Bel.refl _⟩
  case round =>
    obtain ⟨j, hj, rfl, hq⟩ := hrel
    by_cases hlt : j < S.length
    · obtain ⟨A, hA⟩ : ∃ A, (Pl.mapRun (Pl.ofMap n) [] S)[j]? = some A := ⟨_, List.getElem?_eq_getElem (by rw [HAl.out]; exact hlt)⟩
      obtain ⟨t, pt⟩ := HSO.out A (List.mem_of_getElem? hA)
      have hkl := HKL.out A (List.mem_of_getElem? hA)
      obtain ⟨b, k, x, rfl, g0, g1, g2, g3, hk, hx⟩ := ansS_at (A := Pl.mapRun (Pl.ofMap n) [] S) (by rw [HAl.out]; exact HAB.out.1.bel hq) hA
      obtain ⟨b', k', x', rfl, g0', g1', g2', g3', hk', hx'⟩ := ansS_at (A := Pl.mapRun (Pl.ofMap n) [] S) (by rw [HAl.out]; exact HAB.out.2.bel hq) hA
      have HAL := Lib.hid (alike_right (v := ansV A k x) (u := ansV A k' x') ⟨k, x, rfl, hk.bel (Bel.refl wr).drew, hx.bel (Bel.refl wr).drew⟩ ⟨k', x', rfl, hk'.bel (Bel.refl wr).drew, hx'.bel (Bel.refl wr).drew⟩ pt pt hkl hkl rfl rfl)
      obtain ⟨ok, val, ks, vs⟩ := A
      simp only at *
      clear pt hA hkl
      obtain ⟨ka, kc, rfl, _, _, _⟩ := hk
      obtain ⟨xa, xc, rfl, _, _, _⟩ := hx
      obtain ⟨ka', kc', rfl, _, _, _⟩ := hk'
      obtain ⟨xa', xc', rfl, _, _, _⟩ := hx'
      have j1 : (0 : Int) ≤ (j : Int) := by omega
      have j2 : (j : Int) < (S.length : Int) := by omega
      have k6 := And.intro g0 (And.intro g1 (And.intro g2 (And.intro g3 (And.intro g0' (And.intro g1' (And.intro g2' g3'))))))
      go_upto_region 11 with (fail)
      go_region_held3 (fun w' => w'.cell? ⟨b, j * 4, none⟩ = some (.bool ok) ∧ w'.cell? ⟨b, j * 4 + 1, none⟩ = some (.int .i64 val) ∧ w'.cell? ⟨b, j * 4 + 2, none⟩ = some (.slice ka ks.length kc) ∧ w'.cell? ⟨b, j * 4 + 3, none⟩ = some (.slice xa vs.length xc) ∧ w'.cell? ⟨b', j * 4, none⟩ = some (.bool ok) ∧ w'.cell? ⟨b', j * 4 + 1, none⟩ = some (.int .i64 val) ∧ w'.cell? ⟨b', j * 4 + 2, none⟩ = some (.slice ka' ks.length kc') ∧ w'.cell? ⟨b', j * 4 + 3, none⟩ = some (.slice xa' vs.length xc'))
        (first | exact k7 | go_keep)
        (first
          | (go_at_call 31; refine HAL.out.mono ?_; rintro e w7 ⟨rfl, hb7⟩; have k7 := cells8 hb7 k6))
      have hr7 : Bel w5 w7 := hq.trans ((Bel.refl wr).drew.trans hb7)
      clear k6 k7 g0 g1 g2 g3 g0' g1' g2' g3' hb7
      go_wp2
      go_roundw
      case rel => exact ⟨j + 1, by omega, by go_num, hr7⟩
      case measure => simp [intOf]; omega
    · go_wp2
      go_ret
      exact ⟨rfl, hbw5.trans hq⟩
end Go.Proofs.Ytdmjcgipfkhibaa
