/- Plain: a map's answers are right. -/
import Derived.Test.YtdmjcgipfkhibaaMap6
import Derived.Test.YtdmjcgipfkhibaaLawM0
namespace Go.Proofs.Ytdmjcgipfkhibaa
open Go.RowKit

theorem rep_put {l d : List Pl.Ent} (h : Pl.Rep l d) (x v : Int) : Pl.Rep (Pl.put l x v) (putE d x v) := by
  cases hb : hasB d x
  · have hno : ∀ u, (x, u) ∉ d := fun u hu => by rw [hasB_iff.2 ⟨u, hu⟩] at hb; cases hb
    rw [putE_not hno]
    exact h.push hno
  · obtain ⟨u, hu⟩ := hasB_iff.1 hb
    obtain ⟨i, hi, hie⟩ := List.getElem_of_mem hu
    have he : d[i]? = some (x, u) := by rw [List.getElem?_eq_getElem hi, hie]
    rw [putE_at h.nodup he]
    exact h.set he
theorem rep_out {l d : List Pl.Ent} (h : Pl.Rep l d) (x : Int) : Pl.Rep (Pl.without l x) (outE d x) := rep_rem h x
theorem there_hasB {l d : List Pl.Ent} (h : Pl.Rep l d) (x : Int) : Pl.there l x = hasB d x := by
  rw [Bool.eq_iff_iff, h.there, hasB_iff]
theorem valOf_getV {l d : List Pl.Ent} (h : Pl.Rep l d) (x : Int) : Pl.valOf l x = getV d x := by
  cases hb : hasB d x
  · rw [Pl.valOf_not (by rw [there_hasB h]; exact hb), getV_not (fun u hu => by rw [hasB_iff.2 ⟨u, hu⟩] at hb; cases hb)]
  · obtain ⟨u, hu⟩ := hasB_iff.1 hb
    obtain ⟨i, hi, hie⟩ := List.getElem_of_mem hu
    rw [h.valOf hu, getV_at h.nodup (show d[i]? = some (x, u) by rw [List.getElem?_eq_getElem hi, hie])]
theorem zip_fst_snd : ∀ (d : List Pl.Ent), (d.map (·.1)).zip (d.map (·.2)) = d
  | [] => rfl
  | e :: d => by simp only [List.map_cons, List.zip_cons_cons]; rw [zip_fst_snd d]
theorem sorted_rep {l d : List Pl.Ent} (h : Pl.Rep l d) : Pl.sortedOf (d.map (·.1)) (d.map (·.2)) = some l := by
  unfold Pl.sortedOf
  rw [if_pos (by simp), zip_fst_snd, h.sorted]

theorem map_step {r : Pl.RulesD} (hr : r.values = true) {l d : List Pl.Ent} (h : Pl.Rep l d) (s : Pl.StepD) :
    Pl.ansB r l s (Pl.mapA r d s) = true ∧ Pl.Rep (Pl.ansList r l s (Pl.mapA r d s)) (Pl.mapD r d s) := by
  obtain ⟨kind, key, val, list⟩ := s
  by_cases e0 : kind = 0
  · subst e0
    refine ⟨by simp [Pl.ansB, Pl.mapA, Pl.dueOk, Pl.dueVal, Pl.ans0, Pl.none0], ?_⟩
    unfold Pl.ansList Pl.mapD
    rw [if_pos rfl, if_pos rfl, hr]
    simp only [if_true]
    split
    · exact rep_put h key val
    · exact h
  by_cases e1 : kind = 1
  · subst e1
    exact ⟨by simp [Pl.ansB, Pl.mapA, Pl.dueOk, Pl.dueVal, Pl.ans0, Pl.none0], rep_out h key⟩
  by_cases e2 : kind = 2
  · subst e2
    exact ⟨by simp [Pl.ansB, Pl.mapA, Pl.dueOk, Pl.dueVal, Pl.none0, there_hasB h key], h⟩
  by_cases e3 : kind = 3
  · subst e3
    exact ⟨by simp [Pl.ansB, Pl.mapA, Pl.dueOk, Pl.dueVal, Pl.none0, there_hasB h key, valOf_getV h key, hr], h⟩
  by_cases e4 : kind = 4
  · subst e4
    exact ⟨by simp [Pl.ansB, Pl.mapA, Pl.dueOk, Pl.dueVal, Pl.none0, h.length], h⟩
  by_cases e5 : kind = 5
  · subst e5
    exact ⟨by simp [Pl.ansB, Pl.mapA, Pl.dueOk, Pl.dueVal, Pl.ans0, Pl.none0], Pl.Rep.nil⟩
  by_cases e6 : kind = 6
  · subst e6
    refine ⟨by simp [Pl.ansB, Pl.mapA, Pl.dueOk, Pl.dueVal, Pl.ans0, Pl.none0, hr], ?_⟩
    simpa [Pl.ansList, Pl.mapD, hr] using h
  by_cases e7 : kind = 7
  · subst e7
    refine ⟨?_, h⟩
    have hA : Pl.mapA r d ⟨7, key, val, list⟩ = ⟨false, 0, d.map (·.1), d.map (·.2)⟩ := rfl
    rw [hA]
    have : Pl.ansB r l ⟨7, key, val, list⟩ ⟨false, 0, d.map (·.1), d.map (·.2)⟩ = Pl.allB r l ⟨false, 0, d.map (·.1), d.map (·.2)⟩ := by simp [Pl.ansB]
    rw [this]
    unfold Pl.allB
    rw [if_neg (by simp [hr])]
    have hv : Pl.allVals r ⟨false, 0, d.map (·.1), d.map (·.2)⟩ = d.map (·.2) := by unfold Pl.allVals; rw [hr]; rfl
    rw [hv]
    show (match Pl.sortedOf (d.map (·.1)) (d.map (·.2)) with | none => false | some t => decide (t = l) && !false && decide ((0 : Int) = 0)) = true
    rw [sorted_rep h]
    simp
  by_cases e8 : kind = 8
  · subst e8
    refine ⟨by simp [Pl.ansB, Pl.mapA, Pl.dueOk, Pl.dueVal, Pl.ans0, Pl.none0], ?_⟩
    simpa [Pl.ansList, Pl.mapD, hr] using h
  by_cases e9 : kind = 9
  · subst e9
    exact ⟨by simp [Pl.ansB, Pl.mapA, Pl.dueOk, Pl.dueVal, Pl.none0], h⟩
  refine ⟨by simp [Pl.ansB, Pl.mapA, Pl.dueOk, Pl.dueVal, Pl.ans0, Pl.none0, e2, e3, e4, e6, e7, e9], ?_⟩
  simpa [Pl.ansList, Pl.mapD, e0, e1, e5, e6, e8] using h

theorem map_follows {r : Pl.RulesD} (hr : r.values = true) : ∀ (S : List Pl.StepD) (l d : List Pl.Ent), Pl.Rep l d → ∃ l', Pl.follows r l S (Pl.mapRun r d S) = some l'
  | [], l, _, _ => ⟨l, rfl⟩
  | s :: S, l, d, h => by
    obtain ⟨h1, h2⟩ := map_step hr h s
    obtain ⟨l', h4⟩ := map_follows hr S _ _ h2
    refine ⟨l', ?_⟩
    show Pl.follows r l (s :: S) (Pl.mapA r d s :: Pl.mapRun r (Pl.mapD r d s) S) = some l'
    simp only [Pl.follows, h1, if_true]
    exact h4

theorem putE_length (d : List Pl.Ent) (x v : Int) : (putE d x v).length ≤ d.length + 1 := by
  unfold putE; split <;> simp
theorem outE_length (d : List Pl.Ent) (x : Int) : (outE d x).length ≤ d.length := by
  unfold outE
  split
  · unfold Pl.swapOut; simp
  · exact Nat.le_refl _
theorem mapD_length {r : Pl.RulesD} {d : List Pl.Ent} {s : Pl.StepD} {M : Nat} (hd : d.length ≤ M) : (Pl.mapD r d s).length ≤ M + 1 := by
  have h1 := putE_length d s.key s.val
  have h2 := outE_length d s.key
  unfold Pl.mapD
  repeat' split
  all_goals simp <;> omega
theorem mapRun_keys {r : Pl.RulesD} : ∀ (S : List Pl.StepD) (d : List Pl.Ent) (M : Nat), d.length ≤ M → ∀ g ∈ Pl.mapRun r d S, g.keys.length ≤ M + S.length ∧ g.vals.length ≤ M + S.length
  | [], _, _, _, g, hg => by cases hg
  | s :: S, d, M, hd, g, hg => by
    rcases List.mem_cons.1 hg with rfl | hg
    · have : (Pl.mapA r d s).keys.length ≤ d.length ∧ (Pl.mapA r d s).vals.length ≤ d.length := by
        unfold Pl.mapA
        repeat' split
        all_goals simp [Pl.ans0]
      simp only [List.length_cons]; omega
    · have h1 := mapD_length (r := r) (s := s) hd
      have := mapRun_keys S (Pl.mapD r d s) (M + 1) h1 g hg
      simp only [List.length_cons]; omega
end Go.Proofs.Ytdmjcgipfkhibaa
