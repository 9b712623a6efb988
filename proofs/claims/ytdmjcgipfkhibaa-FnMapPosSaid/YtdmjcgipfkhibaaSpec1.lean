/- The walks of the reference's Place. -/
import Derived.Test.YtdmjcgipfkhibaaMem
namespace Go.Proofs.Ytdmjcgipfkhibaa
open Go.RowKit

def Ahead (l : List Pl.Ent) (k : Int) (j : Nat) : Prop := ∀ i, i < j → ∃ e, l[i]? = some e ∧ e.1 < k

theorem Ahead.zero (l : List Pl.Ent) (k : Int) : Ahead l k 0 := fun i hi => absurd hi (by omega)
theorem Ahead.succ {l : List Pl.Ent} {k : Int} {j : Nat} {e : Pl.Ent} (h : Ahead l k j) (he : l[j]? = some e) (hk : e.1 < k) : Ahead l k (j + 1) := by
  intro i hi
  by_cases hij : i = j
  · subst hij; exact ⟨e, he, hk⟩
  · exact h i (by omega)
theorem Ahead.place {l : List Pl.Ent} {k : Int} {j : Nat} (h : Ahead l k j) (he : ∀ e, l[j]? = some e → ¬ e.1 < k) : Pl.place l k = j := Pl.place_eq l k j h he

set_option maxHeartbeats 400000 in
theorem place_any (a : Option Addr) (n c : Nat) (l : List Pl.Ent) (k : Int) (w : World) (h : Ents w a n l) (hn : n ≤ 1000000) :
    Calls Try.prog 38 #[.slice a n c, .int .i64 k] w fun e w' => e = .returned (.tuple #[.int .i64 (Pl.place l k), .bool (Pl.there l k)]) ∧ Bel w w' := by
  obtain ⟨hl, hc⟩ := h
  have HL := Lib.hid hl; clear hl
  have HC := Lib.hid hc; clear hc
  go_enter Try.func38, Try.ntmps38
  go_wp2
  go_loop [6] (fun i => ∃ j : Nat, j ≤ n ∧ i = .int .i64 j ∧ Ahead l k j) (fun i => n - (intOf i).toNat)
  case atStart => exact ⟨0, Nat.zero_le _, rfl, Ahead.zero _ _⟩
  case round =>
    obtain ⟨j, hj, rfl, ha⟩ := hrel
    by_cases hlt : j < n
    · obtain ⟨b, o, rfl, hcell⟩ := HC.out (by omega)
      obtain ⟨e, he⟩ : ∃ e, l[j]? = some e := ⟨_, List.getElem?_eq_getElem (by rw [HL.out]; exact hlt)⟩
      have hc0 := (hcell j e he).1
      have HE := Lib.hid he; clear he
      have HCE := Lib.hid hcell; clear hcell
      clear HC
      by_cases hk : e.1 < k
      · go_wp2
        go_round
        case rel => exact ⟨j + 1, by omega, by go_num, ha.succ HE.out hk⟩
        case measure => simp [intOf]; omega
      · have hbq : decide (j < n) = true := by simpa using hlt
        go_wp2
        go_quiet (fail)
        go_wp2
        go_ret2
        have hp : Pl.place l k = j := ha.place (fun e' he' => by rw [HE.out] at he'; cases he'; omega)
        exact ⟨by simp only [Pl.there, hp, HE.out]; rfl, (Bel.refl _).drewN _⟩
    · have hdn : decide ((j : Int) < (n : Int)) = false := by simp; omega
      go_wp2
      go_quiet (fail)
      go_wp2
      go_ret2
      have hnone : l[j]? = none := List.getElem?_eq_none (by rw [HL.out]; omega)
      have hp : Pl.place l k = j := ha.place (fun e' he' => by rw [hnone] at he'; cases he')
      exact ⟨by simp only [Pl.there, hp, hnone]; rfl, (Bel.refl _).drewN _⟩
end Go.Proofs.Ytdmjcgipfkhibaa
