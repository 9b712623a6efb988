/- The walk of the law FnIDs. -/
import Derived.Test.YtlagnbiokhnhlaaSpec2
import Derived.Test.YtlagnbiokhnhlaaIDs
namespace Go.Proofs.Ytlagnbiokhnhlaa
open Go.RowKit

/-- The entries 1 .. n, of value 0. -/
def upEnts (n : Nat) : List Pl.Ent := (List.range n).map (fun (i : Nat) => ((i : Int) + 1, (0 : Int)))
theorem upEnts_length (n : Nat) : (upEnts n).length = n := by simp [upEnts]
theorem upEnts_at (n i : Nat) (h : i < n) : (upEnts n)[i]? = some ((i : Int) + 1, 0) := by simp [upEnts, h]
theorem upEnts_place (n : Nat) : Pl.place (upEnts n) ((n : Int) + 1) = n := by
  refine Pl.place_eq _ _ _ (fun i hi => ⟨_, upEnts_at n i hi, ?_⟩) (fun e he => ?_)
  · show ((i : Int) + 1) < _; omega
  · rw [List.getElem?_eq_none (by simp [upEnts])] at he; cases he
theorem upEnts_there (n : Nat) : Pl.there (upEnts n) ((n : Int) + 1) = false := by
  unfold Pl.there
  rw [upEnts_place, List.getElem?_eq_none (by simp [upEnts])]
theorem upEnts_put (n : Nat) : Pl.put (upEnts n) ((n : Int) + 1) 0 = upEnts (n + 1) := by
  unfold Pl.put
  rw [upEnts_place, upEnts_there]
  simp [upEnts, List.range_succ]
  rw [List.take_of_length_le (by simp), List.drop_of_length_le (by simp)]

set_option maxHeartbeats 400000 in
theorem fnIDs_out (count : Int) (w : World) (h : count < 0 ∨ 500 < count) :
    Calls Try.prog 3 #[.int .i64 count] w fun e w' => e = .returned (.bool true) ∧ Bel w w' := by
  rcases h with h | h
  · go_enter Try.func3, Try.ntmps3
    go_wp2
    go_ret
    exact ⟨rfl, Bel.refl _⟩
  · have h' : ¬ count < 0 := by omega
    go_enter Try.func3, Try.ntmps3
    go_wp2
    go_ret
    exact ⟨rfl, Bel.refl _⟩

set_option maxHeartbeats 1000000 in
theorem fnIDs_in (count : Nat) (w : World) (hc : count ≤ 500) :
    Calls Try.prog 3 #[.int .i64 count] w fun e w' => e = .returned (.bool true) ∧ Bel w w' := by
  have h1 : ¬ (count : Int) < 0 := by omega
  have h2 : ¬ (500 : Int) < (count : Int) := by omega
  have hne : ((count : Int) != (count : Int)) = false := by simp
  go_enter Try.func3, Try.ntmps3
  go_wp2_with (go_at_call 12; refine (ids_any count _ hc).mono ?_; rintro e w' ⟨v, u, rfl, hv, hu, hb⟩; obtain ⟨av, cv, rfl, _, _, hcv⟩ := own_form hv; obtain ⟨au, cu, rfl, _, _, hcu⟩ := own_form hu; have HV := Lib.hid hcv; clear hcv; have HU := Lib.hid hcu; clear hcu; clear hv hu)
  have hs := hb.size
  go_loopw [5, 6, 35] (fun m s i wr => ∃ j : Nat, j ≤ count ∧ i = .int .i64 j ∧ m = .int .i64 j ∧ (∃ a c, s = .slice a j c ∧ j ≤ c ∧ c ≤ 9223372036854775807 ∧ Ents wr a j (upEnts j)) ∧ Bel w' wr) (fun _ _ i _ => count - (intOf i).toNat)
  case atStart => exact ⟨0, Nat.zero_le _, rfl, rfl, ⟨_, 0, rfl, Nat.le_refl _, by omega, ⟨rfl, fun h => absurd h (by omega)⟩⟩, (Bel.refl _).alloc _⟩
  case round =>
    obtain ⟨j, hj, rfl, rfl, ⟨a, c, rfl, hjc, hcm, hents⟩, hbel⟩ := hrel
    by_cases hlt : j < count
    · obtain ⟨gv, rfl, hgv⟩ := HV.out (by omega)
      obtain ⟨gu, rfl, hgu⟩ := HU.out (by omega)
      have hcv := hbel.cell (hgv j _ (upFrom_at 1 count j hlt))
      have hcu := hbel.cell (hgu j _ (upFrom_at 2 count j hlt))
      have HGV := Lib.hid hgv; clear hgv
      have HGU := Lib.hid hgu; clear hgu
      have HE := Lib.hid hents; clear hents
      have hth := upEnts_there j
      have hmax : max (j : Int) ((j : Int) + 1) = (j : Int) + 1 := by omega
      have h3 : ¬ ((j : Int) + 1) < 1 := by omega
      have h4 : (((j : Int) + 2) != ((j : Int) + 1 + 1)) = false := by simp; omega
      go_wp2_with (go_at_call 13; refine (place_any _ _ _ _ _ _ HE.out (by omega)).mono ?_; rintro e w1 ⟨rfl, hb1⟩; have hcu1 := hb1.cell hcu)
      refine (put_any _ _ _ _ _ _ _ (HE.out.bel hb1) (by omega) hjc hcm).mono ?_
      rintro e w2 ⟨u2, rfl, ho2, hb2⟩
      rw [upEnts_put, upEnts_length] at ho2
      obtain ⟨a2, c2, rfl, h21, h22, _⟩ := own_form ho2
      have HO2 := Lib.hid ho2; clear ho2
      go_wp2
      go_roundw
      case rel => exact ⟨j + 1, by omega, by go_num, by go_num, ⟨a2, c2, rfl, h21, h22, ents_of_own HO2.out⟩, (hbel.trans hb1).trans hb2⟩
      case measure => simp [intOf]; omega
    · go_wp2
      go_ret
      exact ⟨rfl, hb.trans hbel⟩
theorem law_FnIDs (w : World) (a : Int) (_lo : -9223372036854775808 ≤ a) (_hi : a ≤ 9223372036854775807) :
    Calls Try.prog 3 #[.int .i64 a] w fun e w' => e = .returned (.bool true) ∧ Bel w w' := by
  by_cases h : a < 0 ∨ 500 < a
  · exact fnIDs_out a w h
  · obtain ⟨n, rfl⟩ := Int.eq_ofNat_of_zero_le (a := a) (by omega)
    exact fnIDs_in n w (by omega)
end Go.Proofs.Ytlagnbiokhnhlaa
