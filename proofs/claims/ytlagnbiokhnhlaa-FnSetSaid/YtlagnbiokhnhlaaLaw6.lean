/- Plain: a set's answers are right. -/
import Derived.Test.YtlagnbiokhnhlaaSpec8
namespace Go.Proofs.Ytlagnbiokhnhlaa
open Go.RowKit

theorem take_zero {d : List Pl.Ent} (hz : Zero d) (k : Nat) : Zero (d.take k) := fun e he => hz e (List.mem_of_mem_take he)
theorem rep_empty {l d : List Pl.Ent} (h : Pl.Rep l d) (h0 : l.length = 0) : d = [] := List.length_eq_zero_iff.1 (by rw [← h.length]; exact h0)

theorem set_step {n : Int} {l d : List Pl.Ent} (h : Pl.Rep l d) (hz : Zero d) {s : Pl.StepD} (k0 : 0 ≤ s.key) (k1 : s.key < n) :
    Pl.ansB (ofSet n) l s (Pl.setA n d s) = true ∧ Pl.Rep (Pl.ansList (ofSet n) l s (Pl.setA n d s)) (Pl.setD d s) ∧ Zero (Pl.setD d s) := by
  obtain ⟨kind, key, val, list⟩ := s
  simp only at k0 k1
  by_cases e0 : kind = 0
  · subst e0
    refine ⟨by simp [Pl.ansB, Pl.setA, Pl.dueOk, Pl.dueVal, Pl.ans0, Pl.none0], ?_, addE_zero hz key⟩
    have e : Pl.ansList (ofSet n) l ⟨0, key, val, list⟩ (Pl.setA n d ⟨0, key, val, list⟩) = Pl.put l key 0 := by
      have hin : (ofSet n).first ≤ key ∧ key ≤ (ofSet n).last := ⟨k0, by show key ≤ n - 1; omega⟩
      unfold Pl.ansList
      rw [if_pos rfl, if_pos hin]
      rfl
    rw [e]
    exact rep_add h hz key
  by_cases e1 : kind = 1
  · subst e1
    exact ⟨by simp [Pl.ansB, Pl.setA, Pl.dueOk, Pl.dueVal, Pl.ans0, Pl.none0], rep_rem h key, remE_zero h.nodup hz key⟩
  by_cases e2 : kind = 2
  · subst e2
    exact ⟨by simp [Pl.ansB, Pl.setA, Pl.dueOk, Pl.dueVal, Pl.none0, there_inB h key], h, hz⟩
  by_cases e3 : kind = 3
  · subst e3
    exact ⟨by simp [Pl.ansB, Pl.setA, Pl.dueOk, Pl.dueVal, Pl.ans0, Pl.none0, ofSet], h, hz⟩
  by_cases e4 : kind = 4
  · subst e4
    exact ⟨by simp [Pl.ansB, Pl.setA, Pl.dueOk, Pl.dueVal, Pl.none0, h.length], h, hz⟩
  by_cases e5 : kind = 5
  · subst e5
    exact ⟨by simp [Pl.ansB, Pl.setA, Pl.dueOk, Pl.dueVal, Pl.ans0, Pl.none0], Pl.Rep.nil, by intro e he; cases he⟩
  by_cases e6 : kind = 6
  · subst e6
    rcases Nat.eq_zero_or_pos l.length with h0 | h0
    · have hd := rep_empty h h0
      have hl : l = [] := List.length_eq_zero_iff.1 h0
      subst hd hl
      exact ⟨rfl, Pl.Rep.nil, by intro e he; cases he⟩
    · have hd0 : 0 < d.length := by rw [← h.length]; exact h0
      obtain ⟨y, hy⟩ : ∃ y, d[d.length - 1]? = some y := ⟨_, List.getElem?_eq_getElem (by omega)⟩
      have hA : Pl.setA n d ⟨6, key, val, list⟩ = ⟨true, y.1, [], []⟩ := by
        show (match d[d.length - 1]? with | some y => (⟨true, y.1, [], []⟩ : Pl.Ans) | none => Pl.ans0) = _
        rw [hy]
      rw [hA]
      have hth : Pl.there l y.1 = true := by rw [there_inB h]; exact inB_iff.2 ⟨y.2, List.mem_of_getElem? hy⟩
      refine ⟨by simp [Pl.ansB, ofSet, h0, hth, Pl.none0], ?_, take_zero hz _⟩
      have e : Pl.ansList (ofSet n) l ⟨6, key, val, list⟩ ⟨true, y.1, [], []⟩ = Pl.without l y.1 := by simp [Pl.ansList, ofSet, h0]
      rw [e]
      exact rep_pop h hy
  by_cases e7 : kind = 7
  · subst e7
    refine ⟨?_, h, hz⟩
    have hA : Pl.setA n d ⟨7, key, val, list⟩ = ⟨false, 0, d.map (·.1), []⟩ := rfl
    rw [hA]
    have : Pl.ansB (ofSet n) l ⟨7, key, val, list⟩ ⟨false, 0, d.map (·.1), []⟩ = Pl.allB (ofSet n) l ⟨false, 0, d.map (·.1), []⟩ := by simp [Pl.ansB]
    rw [this]
    have hs : Pl.sortedOf (d.map (·.1)) (List.replicate (d.map (·.1)).length 0) = some l := by
      unfold Pl.sortedOf
      rw [if_pos (by simp), zip_zero d hz, h.sorted]
    unfold Pl.allB
    rw [if_neg (by simp)]
    have hv : Pl.allVals (ofSet n) ⟨false, 0, d.map (·.1), []⟩ = List.replicate (d.map (·.1)).length 0 := rfl
    rw [hv]
    show (match Pl.sortedOf (d.map (·.1)) (List.replicate (d.map (·.1)).length 0) with | none => false | some t => decide (t = l) && !false && decide ((0 : Int) = 0)) = true
    rw [hs]
    simp
  by_cases e8 : kind = 8
  · subst e8
    obtain ⟨h1, h2⟩ := addAllE_rep list l d h hz
    exact ⟨by simp [Pl.ansB, Pl.setA, Pl.dueOk, Pl.dueVal, Pl.ans0, Pl.none0], h1, h2⟩
  by_cases e9 : kind = 9
  · subst e9
    exact ⟨by simp [Pl.ansB, Pl.setA, Pl.dueOk, Pl.dueVal, Pl.none0, ofSet], h, hz⟩
  refine ⟨by simp [Pl.ansB, Pl.setA, Pl.dueOk, Pl.dueVal, Pl.ans0, Pl.none0, e2, e3, e4, e6, e7, e9], ?_, ?_⟩
  · simpa [Pl.ansList, Pl.setD, e0, e1, e5, e6, e8] using h
  · simpa [Pl.setD, e0, e1, e5, e6, e8] using hz

theorem set_follows {n : Int} : ∀ (S : List Pl.StepD) (l d : List Pl.Ent), Pl.Rep l d → Zero d → (∀ s ∈ S, 0 ≤ s.key ∧ s.key < n) → ∃ l', Pl.follows (ofSet n) l S (Pl.setRun n d S) = some l'
  | [], l, _, _, _, _ => ⟨l, rfl⟩
  | s :: S, l, d, h, hz, hk => by
    obtain ⟨k0, k1⟩ := hk s (by simp)
    obtain ⟨h1, h2, h3⟩ := set_step h hz k0 k1
    obtain ⟨l', h4⟩ := set_follows S _ _ h2 h3 (fun s' hs' => hk s' (by simp [hs']))
    refine ⟨l', ?_⟩
    show Pl.follows (ofSet n) l (s :: S) (Pl.setA n d s :: Pl.setRun n (Pl.setD d s) S) = some l'
    simp only [Pl.follows, h1, if_true]
    exact h4

/-- A set's answers are short. -/
theorem setD_length {d : List Pl.Ent} {s : Pl.StepD} {M : Nat} (hd : d.length ≤ M) : (Pl.setD d s).length ≤ M + 1 + s.list.length := by
  have hadd : ∀ (d : List Pl.Ent) x, (addE d x).length ≤ d.length + 1 := fun d x => by unfold addE; split <;> simp
  have hall : ∀ (l : List Int) (d : List Pl.Ent), (addAllE d l).length ≤ d.length + l.length := fun l => by
    induction l with
    | nil => intro d; simp [addAllE]
    | cons x r ih => intro d; have := ih (addE d x); have := hadd d x; simp only [addAllE, List.foldl_cons, List.length_cons] at *; omega
  have hrem : (remE d s.key).length ≤ d.length := by
    unfold remE
    split
    · unfold Pl.swapOut; simp
    · exact Nat.le_refl _
  have h1 := hadd d s.key
  have h2 := hall s.list d
  unfold Pl.setD
  repeat' split
  all_goals simp <;> omega
theorem setRun_keys {n : Int} : ∀ (S : List Pl.StepD) (d : List Pl.Ent) (M : Nat), d.length ≤ M → (∀ s ∈ S, s.list.length ≤ 500) → ∀ g ∈ Pl.setRun n d S, g.keys.length ≤ M + 501 * S.length ∧ g.vals.length ≤ M + 501 * S.length
  | [], _, _, _, _, g, hg => by cases hg
  | s :: S, d, M, hd, hl, g, hg => by
    rcases List.mem_cons.1 hg with rfl | hg
    · have : (Pl.setA n d s).keys.length ≤ d.length ∧ (Pl.setA n d s).vals.length ≤ d.length := by
        unfold Pl.setA
        repeat' split
        all_goals simp [Pl.ans0]
      simp only [List.length_cons]; omega
    · have h1 := setD_length (s := s) hd
      have h2 := hl s (by simp)
      have := setRun_keys S (Pl.setD d s) (M + 501) (by omega) (fun s' hs' => hl s' (by simp [hs'])) g hg
      simp only [List.length_cons]; omega
end Go.Proofs.Ytlagnbiokhnhlaa
