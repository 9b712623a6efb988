/- The walk of FnMapPos. -/
import Derived.Test.YtdmjcgipfkhibaaMapL2
import Derived.Test.YtdmjcgipfkhibaaMpp7
namespace Go.Proofs.Ytdmjcgipfkhibaa
open Go.RowKit Go.BigFrame

theorem ofPos_any (n : Int) (w : World) (h0 : 0 ≤ n) (h1 : n ≤ 1000000) : Calls Try.prog 27 #[.int .i64 n] w fun e w' => e = .returned (rulesV (Pl.ofPos n)) ∧ Bel w w' := by
  go_enter Try.func27, Try.ntmps27
  go_wp2
  exact bodyPost_ret (v := rulesV (Pl.ofPos n)) (by simp [results, Try.results27, go_sem, Pl.ofPos]) rfl ⟨rfl, (Bel.refl w).alloc _⟩
theorem FitQ.stepP {n : Nat} {S : List Pl.StepD} (h : FitP n S) (hv : ∀ s ∈ S, PosV s.val) : ∀ s ∈ S, StepP n s := fun s hs => by
  have h1 := h s hs
  exact ⟨h1.1.1, h1.1.2, hv s hs⟩

set_option maxRecDepth 100000 in
set_option maxHeartbeats 4000000 in
theorem law_FnMapPos (w : World) (n : Int) (_lo : -9223372036854775808 ≤ n) (_hi : n ≤ 9223372036854775807) (v : Value) (S : List Pl.StepD) (h : StepS w v S) :
    Calls Try.prog 7 #[.int .i64 n, v] w fun e w' => e = .returned (.bool true) ∧ Bel w w' := by
  have HH := Lib.hid h
  obtain ⟨a, c, rfl, hlc, hcm, hst⟩ := h
  have HST := Lib.hid hst; clear hst
  go_enter Try.func7, Try.ntmps7
  go_wp2_with fail
  refine (zzFits1_any _ S w HH.out).mono ?_
  rintro e w1 ⟨b1, rfl, _, hb1⟩
  cases b1
  · go_wp2
    go_ret
    exact ⟨rfl, hb1⟩
  go_wp2_with fail
  refine (fits_any n _ S w1 (HH.out.bel hb1)).mono ?_
  rintro e w2 ⟨b2, rfl, hQ, hb2⟩
  cases b2
  · clear hQ
    go_wp2
    go_ret
    exact ⟨rfl, hb1.trans hb2⟩
  obtain ⟨n1, n2, sl, ll, ft⟩ := hQ rfl
  clear hQ
  have HFT := Lib.hid ft; clear ft
  have HLL := Lib.hid ll; clear ll
  have HB12 := Lib.hid (hb1.trans hb2)
  clear hb1 hb2
  go_wp2
  go_loopw [24] (fun i wr => ∃ j : Nat, j ≤ S.length ∧ i = .int .i64 j ∧ (∀ s ∈ S.take j, PosV s.val) ∧ Bel w wr) (fun i _ => S.length - (intOf i).toNat)
  case atStart => exact ⟨0, Nat.zero_le _, rfl, by simp, HB12.out⟩
  case round =>
    obtain ⟨j, hj, rfl, hall, hbel⟩ := hrel
    have HAL := Lib.hid hall; clear hall
    by_cases hlt : j < S.length
    · obtain ⟨b, o, rfl, hcell⟩ := HST.out (by omega)
      obtain ⟨s, hs⟩ : ∃ s, S[j]? = some s := ⟨_, List.getElem?_eq_getElem hlt⟩
      obtain ⟨sk, c0, c1, c2, c3, hk⟩ := hcell j s hs
      have HTK : Hid (S.take (j + 1) = S.take j ++ [s]) := Lib.hid (by rw [List.take_add_one, hs]; rfl)
      replace c0 := hbel.cell c0
      replace c1 := hbel.cell c1
      replace c2 := hbel.cell c2
      replace c3 := hbel.cell c3
      obtain ⟨ka, kc, rfl, _, _, _⟩ := hk
      clear hcell hs
      by_cases x0 : s.val < 1
      · go_wp2
        go_ret
        exact ⟨rfl, hbel.alloc _⟩
      by_cases x1 : 1000000 < s.val
      · go_wp2
        go_ret
        exact ⟨rfl, hbel.alloc _⟩
      have HAL2 : Hid (∀ q ∈ S.take (j + 1), PosV q.val) := Lib.hid (by
        rw [HTK.out]; intro q hq
        rcases List.mem_append.1 hq with hq | hq
        · exact HAL.out q hq
        · simp at hq; subst hq; exact ⟨by omega, by omega⟩)
      go_wp2
      go_roundw
      case rel => exact ⟨j + 1, by omega, by go_num, HAL2.out, hbel.alloc _⟩
      case measure => simp [intOf]; omega
    · obtain rfl : j = S.length := by omega
      have hall := HAL.out
      rw [List.take_of_length_le (Nat.le_refl _)] at hall
      obtain ⟨k, rfl⟩ := Int.eq_ofNat_of_zero_le (a := n) (by omega)
      have HMP := Lib.hid (mapPos_any k S _ wr (by omega) (HH.out.bel hbel) (by omega) (FitQ.stepP HFT.out hall))
      clear hall HAL
      go_wp2_with fail
      refine HMP.out.mono ?_
      rintro e w4 ⟨u4, x4, rfl, hA4, hX4, hb4⟩
      have HA4 := Lib.hid hA4
      have hbw4 := hbel.trans hb4
      have hrl : (Pl.mapRun (Pl.ofPos k) [] S).length = S.length := mapRun_length _ _ _
      have hll : ((Pl.mapRun (Pl.ofPos k) [] S).map (·.vals)).length = S.length := by rw [List.length_map, hrl]
      obtain ⟨ua, uc, hu, _, _, hug⟩ := hA4
      obtain ⟨xa, xc, hx, _, _, hxg⟩ := hX4
      rw [hrl] at hu hug
      rw [hll] at hx hxg
      subst hu hx
      obtain ⟨l', hf⟩ := map_follows (r := Pl.ofPos k) rfl S [] [] Pl.Rep.nil
      have HFC := Lib.hid (fun W (hb : Bel w4 W) => follows_right (Pl.ofPos k) _ _ S (Pl.mapRun (Pl.ofPos k) [] S) l' W ((HH.out.bel hbw4).bel hb) (HA4.out.bel hb) hrl sl (fun s hs => .inr (HLL.out s hs)) (fun g hg => by
        have := mapRun_keys S [] 0 (by simp) g hg
        omega) hf)
      have HBW4 := Lib.hid hbw4
      have HG := Lib.hid (And.intro hug hxg)
      have HRL := Lib.hid hrl
      clear hf hll hrl hug hxg hbw4 hb4 hbel HMP
      have hl1 : (((S.length : Nat) : Int) == ((S.length : Nat) : Int)) = true := by simp
      go_wp2_with fail
      refine (ofPos_any k w4 (by omega) (by omega)).mono ?_
      rintro e w5 ⟨rfl, hb5⟩
      go_wp2_with fail
      refine (HFC.out w5 hb5).mono ?_
      rintro e w6 ⟨⟨x, rfl⟩, hb6⟩
      have HB6 := Lib.hid (hb5.trans hb6)
      clear hb5 hb6 HFC
      go_wp2
      go_loopw [60] (fun i wq => ∃ j : Nat, j ≤ S.length ∧ i = .int .i64 j ∧ wq = w6) (fun i _ => S.length - (intOf i).toNat)
      case atStart => exact ⟨0, Nat.zero_le _, rfl, rfl⟩
      case round =>
        obtain ⟨j, hj, rfl, hwq⟩ := hrel
        have hwq := hwq.symm
        subst hwq
        by_cases hlj : j < S.length
        · obtain ⟨ub, rfl, huc⟩ := HG.out.1 (by omega)
          obtain ⟨xb, rfl, hxc⟩ := HG.out.2 (by omega)
          obtain ⟨A, hA⟩ : ∃ A, (Pl.mapRun (Pl.ofPos k) [] S)[j]? = some A := ⟨_, List.getElem?_eq_getElem (by rw [HRL.out]; exact hlj)⟩
          obtain ⟨ky, vy, u0, u1, u2', u3', hky, hvy⟩ := huc j A hA
          obtain ⟨y, y0, hy⟩ := hxc j A.vals (by rw [List.getElem?_map, hA]; rfl)
          have g0 := HB6.out.cell u3'
          have g1 := HB6.out.cell y0
          have hvy2 := hvy.bel HB6.out
          have hy2 := hy.bel HB6.out
          clear huc hxc hA u0 u1 u2' u3' y0 hky hvy hy
          obtain ⟨va, vc, rfl, _, _, hvi⟩ := hvy2
          obtain ⟨ya, yc, rfl, _, _, hyi⟩ := hy2
          have HVY := Lib.hid (And.intro hvi hyi)
          clear hvi hyi
          generalize A.vals = lv at *
          have hl2 : (((lv.length : Nat) : Int) == ((lv.length : Nat) : Int)) = true := by simp
          have i0 : (0 : Int) ≤ (j : Int) := by omega
          have i1 : (j : Int) < (S.length : Int) := by omega
          go_wp2
          go_loopw [76] (fun i wq => ∃ k2 : Nat, k2 ≤ lv.length ∧ i = .int .i64 k2 ∧ wq = w6) (fun i _ => lv.length - (intOf i).toNat)
          case atStart => exact ⟨0, Nat.zero_le _, rfl, rfl⟩
          case round =>
            obtain ⟨k2, hk2, rfl, hwq⟩ := hrel
            have hwq := hwq.symm
            subst hwq
            by_cases hl3 : k2 < lv.length
            · obtain ⟨vb, vo, rfl, hvc⟩ := HVY.out.1 (by omega)
              obtain ⟨yb, yo, rfl, hyc⟩ := HVY.out.2 (by omega)
              obtain ⟨z, hz⟩ : ∃ z, lv[k2]? = some z := ⟨_, List.getElem?_eq_getElem hl3⟩
              have q0 := hvc k2 z hz
              have q1 := hyc k2 z hz
              clear hvc hyc hz
              go_wp2
              go_roundw
              case rel => exact ⟨k2 + 1, by omega, by go_num, trivial⟩
              case measure => simp [intOf]; omega
            · go_wp2
              go_roundw
              case rel => exact ⟨j + 1, by omega, by go_num, trivial⟩
              case measure => simp [intOf]; omega
        · have hbw := HBW4.out.trans HB6.out
          go_wp2
          go_ret
          exact ⟨rfl, hbw⟩
end Go.Proofs.Ytdmjcgipfkhibaa
