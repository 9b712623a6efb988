/- Plain: a set and a map with which the same is done have the same keys. -/
import Derived.Test.YtdmjcgipfkhibaaMapL4
namespace Go.Proofs.Ytdmjcgipfkhibaa
open Go.RowKit

def Zero' (d : List Pl.Ent) : Prop := ∀ e ∈ d, e.2 = 0
theorem addE_zero' {d : List Pl.Ent} (h : Zero' d) (x : Int) : Zero' (addE d x) := by
  unfold addE
  split
  · exact h
  · intro e he
    rcases List.mem_append.1 he with he | he
    · exact h e he
    · simp at he; rw [he]
theorem rep_add' {l d : List Pl.Ent} (h : Pl.Rep l d) (hz : Zero' d) (x : Int) : Pl.Rep (Pl.put l x 0) (addE d x) := by
  unfold addE
  cases hb : inB d x
  · exact h.push (fun v hv => by rw [inB_iff.2 ⟨v, hv⟩] at hb; cases hb)
  · obtain ⟨v, hv⟩ := inB_iff.1 hb
    have : v = 0 := hz _ hv
    subst this
    rw [Pl.put_same h.srt ((h.mem _).2 hv)]
    exact h
theorem remE_zero' {d : List Pl.Ent} (hn : d.Pairwise (fun a b => a.1 ≠ b.1)) (h : Zero' d) (x : Int) : Zero' (remE d x) := by
  unfold remE
  split
  · rename_i i hi
    obtain ⟨hl, _, _⟩ := List.findIdx?_eq_some_iff_getElem.1 hi
    intro e he
    exact h e ((Pl.mem_swapOut hn hl e).1 he).1
  · exact h
theorem zip_zero' : ∀ (d : List Pl.Ent), Zero' d → (d.map (·.1)).zip (List.replicate (d.map (·.1)).length 0) = d
  | [], _ => rfl
  | e :: d, h => by
    have h1 := zip_zero' d (fun x hx => h x (by simp [hx]))
    simp only [List.map_cons, List.length_cons, List.replicate_succ, List.zip_cons_cons]
    rw [h1]
    have := h e (by simp)
    rw [show (e.1, (0 : Int)) = e from by rw [← this]]
abbrev sortedNil : Prop := ∃ t, Pl.sortedOf [] (List.replicate ([] : List Int).length 0) = some t

theorem inB_keys (d : List Pl.Ent) (x : Int) : inB d x = (d.map (·.1)).any (fun k => decide (k = x)) := by unfold inB; rw [List.any_map]; rfl
theorem hasB_keys (d : List Pl.Ent) (x : Int) : hasB d x = (d.map (·.1)).any (fun k => decide (k = x)) := by unfold hasB; rw [List.any_map]; rfl
def remK (ks : List Int) (x : Int) : List Int := match ks.findIdx? (fun k => decide (k = x)) with | some i => (ks.set i (ks.getD (ks.length - 1) 0)).take (ks.length - 1) | none => ks
theorem swapOut_keys (d : List Pl.Ent) (i : Nat) : (Pl.swapOut d i).map (·.1) = ((d.map (·.1)).set i ((d.map (·.1)).getD ((d.map (·.1)).length - 1) 0)).take ((d.map (·.1)).length - 1) := by
  unfold Pl.swapOut
  rw [List.map_take, List.map_set, List.length_map]
  congr 2
  rw [List.getD_eq_getElem?_getD, List.getD_eq_getElem?_getD, List.getElem?_map]
  cases d[d.length - 1]? <;> rfl
theorem remE_keys (d : List Pl.Ent) (x : Int) : (remE d x).map (·.1) = remK (d.map (·.1)) x := by
  unfold remE remK
  rw [List.findIdx?_map]
  have e : ((fun k => decide (k = x)) ∘ fun (e : Pl.Ent) => e.1) = fun e => decide (e.1 = x) := rfl
  rw [e]
  cases d.findIdx? (fun e => decide (e.1 = x)) with
  | none => rfl
  | some i => exact swapOut_keys d i
theorem outE_keys (d : List Pl.Ent) (x : Int) : (outE d x).map (·.1) = remK (d.map (·.1)) x := remE_keys d x
theorem addE_keys (d : List Pl.Ent) (x : Int) : (addE d x).map (·.1) = if (d.map (·.1)).any (fun k => decide (k = x)) then d.map (·.1) else d.map (·.1) ++ [x] := by
  unfold addE
  rw [inB_keys]
  split
  · rfl
  · simp
theorem putE_keys (d : List Pl.Ent) (x v : Int) : (putE d x v).map (·.1) = if (d.map (·.1)).any (fun k => decide (k = x)) then d.map (·.1) else d.map (·.1) ++ [x] := by
  rw [← hasB_keys]
  unfold putE
  cases hf : d.findIdx? (fun e => decide (e.1 = x)) with
  | none =>
    have : hasB d x = false := hasB_false (fun u hu => by
      have := List.findIdx?_eq_none_iff.1 hf _ hu
      simp at this)
    rw [this]; simp
  | some i =>
    obtain ⟨hi, hp, _⟩ := List.findIdx?_eq_some_iff_getElem.1 hf
    have hk : d[i].1 = x := by simpa using hp
    have : hasB d x = true := hasB_iff.2 ⟨d[i].2, by rw [← hk]; exact List.getElem_mem hi⟩
    rw [this]
    simp only [if_true]
    rw [List.map_set]
    apply List.ext_getElem?
    intro j
    rw [List.getElem?_set]
    split
    · rename_i hij; subst hij
      rw [if_pos (by simpa using hi), List.getElem?_map, List.getElem?_eq_getElem hi]
      simp [hk]
    · rfl

def keepB (s : Pl.StepD) : Bool := decide (s.kind ≠ 8) && decide (s.kind ≠ 6) && decide (s.kind ≠ 3)

/-- What the law asks of two answers. -/
def Pair (A B : Pl.Ans) : Prop := A.keys = B.keys ∧ A.ok = B.ok ∧ A.val = B.val ∧ ∃ t, Pl.sortedOf A.keys (List.replicate A.keys.length 0) = some t

theorem sorted_keys {l d : List Pl.Ent} (h : Pl.Rep l d) (hz : Zero' d) : Pl.sortedOf (d.map (·.1)) (List.replicate (d.map (·.1)).length 0) = some l := by
  unfold Pl.sortedOf
  rw [if_pos (by simp), zip_zero' d hz, h.sorted]

theorem pair_step {n : Int} {l d e : List Pl.Ent} (h : Pl.Rep l d) (hz : Zero' d) (hk : d.map (·.1) = e.map (·.1)) {s : Pl.StepD} (hs : keepB s = true) (k0 : 0 ≤ s.key) (k1 : s.key < n) :
    Pair (Pl.setA n d s) (Pl.mapA (Pl.ofMap n) e s) ∧ (Pl.setD d s).map (·.1) = (Pl.mapD (Pl.ofMap n) e s).map (·.1) ∧ Zero' (Pl.setD d s) ∧ ∃ l', Pl.Rep l' (Pl.setD d s) := by
  obtain ⟨kind, key, val, list⟩ := s
  have hs0 : sortedNil := ⟨[], rfl⟩
  have hlen : d.length = e.length := by simpa using congrArg List.length hk
  simp only [keepB, Bool.and_eq_true, decide_eq_true_eq, ne_eq] at hs k0 k1
  obtain ⟨⟨n8, n6⟩, n3⟩ := hs
  by_cases e0 : kind = 0
  · subst e0
    refine ⟨⟨rfl, rfl, rfl, hs0⟩, ?_, addE_zero' hz key, _, rep_add' h hz key⟩
    show (addE d key).map (·.1) = _
    have : Pl.mapD (Pl.ofMap n) e ⟨0, key, val, list⟩ = putE e key val := by
      unfold Pl.mapD; rw [if_pos rfl, if_pos (show (Pl.ofMap n).first ≤ key ∧ key ≤ (Pl.ofMap n).last from ⟨k0, by show key ≤ n - 1; omega⟩)]
    rw [this, addE_keys, putE_keys, hk]
  by_cases e1 : kind = 1
  · subst e1
    refine ⟨⟨rfl, rfl, rfl, hs0⟩, ?_, remE_zero' h.nodup hz key, _, rep_rem h key⟩
    show (remE d key).map (·.1) = (outE e key).map (·.1)
    rw [remE_keys, outE_keys, hk]
  by_cases e2 : kind = 2
  · subst e2
    exact ⟨⟨rfl, by show inB d key = hasB e key; rw [inB_keys, hasB_keys, hk], rfl, hs0⟩, hk, hz, _, h⟩
  by_cases e4 : kind = 4
  · subst e4
    exact ⟨⟨rfl, rfl, by show (d.length : Int) = e.length; rw [hlen], hs0⟩, hk, hz, _, h⟩
  by_cases e5 : kind = 5
  · subst e5
    exact ⟨⟨rfl, rfl, rfl, hs0⟩, rfl, (show Zero' [] from fun e he => by cases he), _, Pl.Rep.nil⟩
  by_cases e7 : kind = 7
  · subst e7
    exact ⟨⟨hk, rfl, rfl, _, sorted_keys h hz⟩, hk, hz, _, h⟩
  by_cases e9 : kind = 9
  · subst e9
    exact ⟨⟨rfl, rfl, rfl, hs0⟩, hk, hz, _, h⟩
  refine ⟨?_, ?_, ?_, l, ?_⟩
  · simp only [Pl.setA, Pl.mapA, e2, e4, n6, e7, e9, n3, if_false]
    exact ⟨rfl, rfl, rfl, hs0⟩
  · simpa [Pl.setD, Pl.mapD, e0, e1, e5, n6, n8] using hk
  · simpa [Pl.setD, e0, e1, e5, n6, n8] using hz
  · simpa [Pl.setD, e0, e1, e5, n6, n8] using h

theorem pair_run {n : Int} : ∀ (S : List Pl.StepD) (l d e : List Pl.Ent), Pl.Rep l d → Zero' d → d.map (·.1) = e.map (·.1) → (∀ s ∈ S, keepB s = true ∧ 0 ≤ s.key ∧ s.key < n) →
    ∀ (i : Nat) (A B : Pl.Ans), (Pl.setRun n d S)[i]? = some A → (Pl.mapRun (Pl.ofMap n) e S)[i]? = some B → Pair A B
  | [], _, _, _, _, _, _, _, i, A, B, hA, _ => by simp [Pl.setRun] at hA
  | s :: S, l, d, e, h, hz, hk, hS, i, A, B, hA, hB => by
    obtain ⟨h1, h2, h3⟩ := hS s (by simp)
    obtain ⟨p1, p2, p3, l', p4⟩ := pair_step h hz hk h1 h2 h3
    cases i with
    | zero =>
      simp only [Pl.setRun, Pl.mapRun, List.getElem?_cons_zero, Option.some.injEq] at hA hB
      subst hA hB
      exact p1
    | succ i =>
      simp only [Pl.setRun, Pl.mapRun, List.getElem?_cons_succ] at hA hB
      exact pair_run S l' _ _ p4 p3 p2 (fun s' hs' => hS s' (by simp [hs'])) i A B hA hB
/-- A set's answers are short. -/
theorem setD_length' {d : List Pl.Ent} {s : Pl.StepD} {M : Nat} (hd : d.length ≤ M) : (Pl.setD d s).length ≤ M + 1 + s.list.length := by
  have hadd : ∀ (d : List Pl.Ent) x, (addE d x).length ≤ d.length + 1 := fun d x => by unfold addE; split <;> simp
  have hall : ∀ (l : List Int) (d : List Pl.Ent), (addAllE d l).length ≤ d.length + l.length := fun l => by
    induction l with
    | nil => intro d; simp [addAllE]
    | cons x r ih => intro d; have := ih (addE d x); have := hadd d x; simp only [addAllE, List.foldl_cons, List.length_cons] at *; omega
  have hrem : (remE d s.key).length ≤ d.length := by
    unfold remE
    split
    · unfold Pl.swapOut; simp
    · exact Nat.le_refl _
  have h1 := hadd d s.key
  have h2 := hall s.list d
  unfold Pl.setD
  repeat' split
  all_goals simp <;> omega
theorem setRun_keys' {n : Int} : ∀ (S : List Pl.StepD) (d : List Pl.Ent) (M : Nat), d.length ≤ M → (∀ s ∈ S, s.list.length ≤ 500) → ∀ g ∈ Pl.setRun n d S, g.keys.length ≤ M + 501 * S.length ∧ g.vals.length ≤ M + 501 * S.length
  | [], _, _, _, _, g, hg => by cases hg
  | s :: S, d, M, hd, hl, g, hg => by
    rcases List.mem_cons.1 hg with rfl | hg
    · have : (Pl.setA n d s).keys.length ≤ d.length ∧ (Pl.setA n d s).vals.length ≤ d.length := by
        unfold Pl.setA
        repeat' split
        all_goals simp [Pl.ans0]
      simp only [List.length_cons]; omega
    · have h1 := setD_length' (s := s) hd
      have h2 := hl s (by simp)
      have := setRun_keys' S (Pl.setD d s) (M + 501) (by omega) (fun s' hs' => hl s' (by simp [hs'])) g hg
      simp only [List.length_cons]; omega

end Go.Proofs.Ytdmjcgipfkhibaa
