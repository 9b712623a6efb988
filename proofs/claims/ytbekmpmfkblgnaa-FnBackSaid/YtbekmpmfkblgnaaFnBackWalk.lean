/- The walk of FnBack. -/
import Derived.Test.YtbekmpmfkblgnaaBack2
import Derived.Test.YtbekmpmfkblgnaaFnTableWalk
namespace Go.Proofs.Ytbekmpmfkblgnaa
open Go.RowKit Go.BigFrame

theorem ocells_at (ps : List PlaceD) : ∀ (k j : Nat), j < k → ∀ p, ps[j]? = some p → (ocells ps k)[j * 5 + 1]? = some (.int .i64 p.line) ∧ (ocells ps k)[j * 5 + 2]? = some (.int .i64 p.col)
  | k + 1, j, h, p, hp => by
    show (ocells ps k ++ _)[j * 5 + 1]? = _ ∧ (ocells ps k ++ _)[j * 5 + 2]? = _
    by_cases e : j < k
    · rw [List.getElem?_append_left (by rw [ocells_length]; omega), List.getElem?_append_left (by rw [ocells_length]; omega)]
      exact ocells_at ps k j e p hp
    · obtain rfl : j = k := by omega
      rw [List.getElem?_append_right (by rw [ocells_length]; omega), List.getElem?_append_right (by rw [ocells_length]; omega), ocells_length, List.getD_eq_getElem?_getD, hp]
      simp
theorem ncells_at {nms : List ByteArray} {fs : List Nat} {k j i : Nat} (hj : j < k) (h : fs[j]? = some i) : (ncells nms fs k)[j]? = some (.string (nms.getD i ByteArray.empty)) := by
  unfold ncells
  rw [List.getElem?_map, List.getElem?_map, List.getElem?_take, if_pos hj, h]; rfl

set_option maxRecDepth 100000 in
set_option maxHeartbeats 8000000 in
theorem law_FnBack (w : World) (a2 : Option Addr) (m cap2 : Nat) (ps : List PlaceD) (hp : Places w a2 m ps) (_nc2 : m ≤ cap2) (_cm2 : cap2 ≤ maxLen) (a : Option Addr) (n cap : Nat) (ss : List ByteArray) (h : Strs w a n ss) (nc : n ≤ cap) (cm : cap ≤ maxLen) (_zb : ∀ s ∈ ss, s.size ≤ maxLen) :
    Calls Try.prog 11 #[.slice a2 m cap2, .slice a n cap] w fun e w' => e = .returned (.bool true) ∧ Bel w w' := by
  have HH := Lib.hid h; clear h
  have HP := Lib.hid hp; clear hp
  unfold maxLen at cm _cm2
  go_enter Try.func11, Try.ntmps11
  by_cases hm0 : (2147483647 : Int) < (m : Int)
  · go_wp2
    go_ret
    exact ⟨rfl, Bel.refl w⟩
  go_wp2_with fail
  refine (fits3_any a n cap ss _ HH.out (by omega)).mono ?_
  rintro e w1 ⟨b1, rfl, hb1⟩
  cases b1
  · go_wp2
    go_ret
    exact ⟨rfl, hb1⟩
  go_wp2_with fail
  refine (names_any a n cap ss _ (HH.out.bel hb1) ⟨nc, by omega⟩).mono ?_
  rintro e w2 ⟨b2, rfl, hQ, hb2⟩
  have hb12 := hb1.trans hb2
  clear hb1 hb2
  cases b2
  · clear hQ
    go_wp2
    go_ret
    exact ⟨rfl, hb12⟩
  have HNM := Lib.hid (hQ rfl); clear hQ
  by_cases hm1 : (100 : Int) < (m : Int)
  · go_wp2
    go_ret
    exact ⟨rfl, hb12⟩
  have hn8 := HNM.out.1
  have HB0 := Lib.hid hb12; clear hb12
  go_wp2
  go_loopw [29] (fun i wr => ∃ k : Nat, k ≤ m ∧ i = .int .i64 k ∧ (∀ p ∈ ps.take k, placedB p n = true) ∧ Bel w wr) (fun i _ => m - (intOf i).toNat)
  case atStart => exact ⟨0, Nat.zero_le _, rfl, by simp, HB0.out⟩
  case round =>
    obtain ⟨k, hk, rfl, hall, hbel⟩ := hrel
    have HAL := Lib.hid hall; clear hall
    by_cases hlt : k < m
    · obtain ⟨b, o, rfl, hcell⟩ := HP.out.2 (by omega)
      obtain ⟨p, hpk⟩ : ∃ e, ps[k]? = some e := ⟨_, List.getElem?_eq_getElem (by rw [HP.out.1]; exact hlt)⟩
      obtain ⟨c0, c1, c2, c3, c4⟩ := hcell k p hpk
      replace c0 := hbel.cell c0
      replace c1 := hbel.cell c1
      replace c2 := hbel.cell c2
      replace c3 := hbel.cell c3
      replace c4 := hbel.cell c4
      have HTK : Hid (ps.take (k + 1) = ps.take k ++ [p]) := Lib.hid (by rw [List.take_add_one, hpk]; rfl)
      clear hcell hpk
      have HPL := Lib.hid (fun W => placed_any p n W)
      cases hpl : placedB p n
      · rw [hpl] at HPL
        obtain ⟨pf, pl, pc, psx, px⟩ := p
        simp only at c0 c1 c2 c3 c4
        go_wp2_with fail
        refine (HPL.out _).mono ?_
        rintro e w4 ⟨rfl, hb4⟩
        have hbw4 := (hbel.alloc _).trans hb4
        go_wp2
        go_ret
        exact ⟨rfl, hbw4⟩
      rw [hpl] at HPL
      have HAL2 : Hid (∀ p ∈ ps.take (k + 1), placedB p n = true) := Lib.hid (by
        rw [HTK.out]; intro x hx
        rcases List.mem_append.1 hx with hx | hx
        · exact HAL.out x hx
        · simp at hx; rw [hx]; exact hpl)
      clear hpl
      obtain ⟨pf, pl, pc, psx, px⟩ := p
      simp only at c0 c1 c2 c3 c4
      go_wp2_with fail
      refine (HPL.out _).mono ?_
      rintro e w4 ⟨rfl, hb4⟩
      have HBW4 := Lib.hid ((hbel.alloc (.cells #[.int .i64 pf, .int .i64 pl, .int .i64 pc, .int .i64 psx, .int .i64 px] 23)).trans hb4)
      clear hb4 c0 c1 c2 c3 c4 hbel
      go_wp2
      go_roundw
      case rel => exact ⟨k + 1, by omega, by go_num, HAL2.out, HBW4.out⟩
      case measure => simp [intOf]; omega
    · obtain rfl : k = m := by omega
      have hall := HAL.out
      rw [List.take_of_length_le (by rw [HP.out.1]; omega)] at hall
      have hok := plOk_all hall
      have HOK := Lib.hid hok
      have HTB := Lib.hid (back_any a2 k cap2 ps a n cap ss (filesOf ps) wr (HP.out.bel hbel) (HH.out.bel hbel) (by omega) HNM.out.2.1 (by omega) hok)
      clear hall hok HAL
      go_wp2_with fail
      refine HTB.out.mono ?_
      rintro e w5 ⟨tv, ov, rfl, ht, ho, hb5⟩
      have HB5 := Lib.hid (hbel.trans hb5)
      obtain ⟨ta, tc, rfl, _, _, htc⟩ := own_form ht
      obtain ⟨oa, oc, rfl, _, _, hoc⟩ := own_form ho
      have HTO := Lib.hid (And.intro htc hoc)
      clear htc hoc ht ho hb5 hbel HTB
      have hl1 : (((k : Nat) : Int) == ((k : Nat) : Int)) = true := by simp
      go_wp2
      go_loopw [59] (fun i wq => ∃ j : Nat, j ≤ k ∧ i = .int .i64 j ∧ Bel w5 wq) (fun i _ => k - (intOf i).toNat)
      case atStart => exact ⟨0, Nat.zero_le _, rfl, Bel.refl _⟩
      case round =>
        obtain ⟨j, hj, rfl, hbq⟩ := hrel
        have hbw := HB5.out.trans hbq
        by_cases hlj : j < k
        · obtain ⟨b, o, rfl, hcell⟩ := HP.out.2 (by omega)
          obtain ⟨p, hpk⟩ : ∃ e, ps[j]? = some e := ⟨_, List.getElem?_eq_getElem (by rw [HP.out.1]; exact hlj)⟩
          obtain ⟨i, hik⟩ : ∃ e, (filesOf ps)[j]? = some e := ⟨_, List.getElem?_eq_getElem (by rw [HOK.out.1, HP.out.1]; exact hlj)⟩
          obtain ⟨q0, q1, _, _, _, _⟩ := HOK.out.2 j p i hpk hik
          obtain ⟨c0, c1, c2, c3, c4⟩ := hcell j p hpk
          replace c0 := hbw.cell c0
          replace c1 := hbw.cell c1
          replace c2 := hbw.cell c2
          replace c3 := hbw.cell c3
          replace c4 := hbw.cell c4
          obtain ⟨gt, rfl, htg⟩ := HTO.out.1 (by omega)
          obtain ⟨go, rfl, hog⟩ := HTO.out.2 (by omega)
          have t0 := hbq.cell (htg j _ (ncells_at hlj hik))
          have o1 := hbq.cell (hog _ _ (ocells_at ps k j hlj p hpk).1)
          have o2 := hbq.cell (hog _ _ (ocells_at ps k j hlj p hpk).2)
          obtain ⟨sb, so, rfl, hcs⟩ := HH.out.2 (by omega)
          have s0 := hbw.cell (hcs i _ (getD_some ByteArray.empty (by rw [HH.out.1]; exact q1)))
          generalize ss.getD i ByteArray.empty = nm at t0 s0
          obtain ⟨pf, pl, pc, psx, px⟩ := p
          simp only at q0 c0 c1 c2 c3 c4 o1 o2
          subst q0
          clear hcell hpk hik htg hog hcs
          have hba := (Bel.refl wr).alloc (.cells #[.int .i64 (i : Int), .int .i64 pl, .int .i64 pc, .int .i64 psx, .int .i64 px] 23)
          have hB := PBox.new wr ⟨i, pl, pc, psx, px⟩ _ rfl
          simp only at hB
          have HBA := Lib.hid (hbq.trans hba)
          replace t0 := hba.cell t0
          replace o1 := hba.cell o1
          replace o2 := hba.cell o2
          replace s0 := hba.cell s0
          obtain ⟨d0, d1, d2, d3, d4⟩ := hB.all
          clear hba hB hbw hbq
          go_upto_region 17 with (fail)
          generalize wr.alloc (.cells #[.int .i64 (i : Int), .int .i64 pl, .int .i64 pc, .int .i64 psx, .int .i64 px] 23) = wb at *
          have i0 : (0 : Int) ≤ (i : Int) := by omega
          have i1 : (i : Int) < (n : Int) := by omega
          have i2 : (0 : Int) ≤ (j : Int) := by omega
          have i3 : (j : Int) < (k : Int) := by omega
          clear c0 c1 c2 c3 c4 d3 d4
          go_quiet (fail)
          go_wp2
          go_roundw
          case rel => exact ⟨j + 1, by omega, by go_num, HBA.out.drewN _⟩
          case measure => simp [intOf]; omega
        · go_wp2
          go_ret
          exact ⟨rfl, hbw⟩
end Go.Proofs.Ytbekmpmfkblgnaa
