/- Plain: what a set answers to the laws' scripts. -/
import Derived.Test.YtlagnbiokhnhlaaLaw1
namespace Go.Proofs.Ytlagnbiokhnhlaa
open Go.RowKit

def Zero (d : List Pl.Ent) : Prop := ∀ e ∈ d, e.2 = 0
theorem addE_zero {d : List Pl.Ent} (h : Zero d) (x : Int) : Zero (addE d x) := by
  unfold addE
  split
  · exact h
  · intro e he
    rcases List.mem_append.1 he with he | he
    · exact h e he
    · simp at he; rw [he]
theorem rep_add {l d : List Pl.Ent} (h : Pl.Rep l d) (hz : Zero d) (x : Int) : Pl.Rep (Pl.put l x 0) (addE d x) := by
  unfold addE
  cases hb : inB d x
  · exact h.push (fun v hv => by rw [inB_iff.2 ⟨v, hv⟩] at hb; cases hb)
  · obtain ⟨v, hv⟩ := inB_iff.1 hb
    have : v = 0 := hz _ hv
    subst this
    rw [Pl.put_same h.srt ((h.mem _).2 hv)]
    exact h
theorem rep_rem {l d : List Pl.Ent} (h : Pl.Rep l d) (x : Int) : Pl.Rep (Pl.without l x) (remE d x) := by
  cases hb : inB d x
  · have hno : ∀ v, (x, v) ∉ d := fun v hv => by rw [inB_iff.2 ⟨v, hv⟩] at hb; cases hb
    rw [remE_not hno, h.stays hno]
    exact h
  · obtain ⟨v, hv⟩ := inB_iff.1 hb
    obtain ⟨i, hi, hie⟩ := List.getElem_of_mem hv
    rw [remE_at h.nodup (show d[i]? = some (x, v) by rw [List.getElem?_eq_getElem hi, hie])]
    have := h.out hi
    rwa [hie] at this
theorem remE_zero {d : List Pl.Ent} (hn : d.Pairwise (fun a b => a.1 ≠ b.1)) (h : Zero d) (x : Int) : Zero (remE d x) := by
  unfold remE
  split
  · rename_i i hi
    obtain ⟨hl, _, _⟩ := List.findIdx?_eq_some_iff_getElem.1 hi
    intro e he
    exact h e ((Pl.mem_swapOut hn hl e).1 he).1
  · exact h
theorem rep_pop {l d : List Pl.Ent} (h : Pl.Rep l d) {y : Pl.Ent} (hy : d[d.length - 1]? = some y) : Pl.Rep (Pl.without l y.1) (d.take (d.length - 1)) := by
  obtain ⟨hl, hye⟩ := List.getElem?_eq_some_iff.1 hy
  have := h.out hl
  rw [hye] at this
  have e : Pl.swapOut d (d.length - 1) = d.take (d.length - 1) := by
    unfold Pl.swapOut
    rw [List.getD_eq_getElem?_getD, hy]
    rw [List.take_set_of_le (Nat.le_refl _)]
  rwa [e] at this
theorem there_inB {l d : List Pl.Ent} (h : Pl.Rep l d) (x : Int) : Pl.there l x = inB d x := by
  rw [Bool.eq_iff_iff, h.there, inB_iff]

abbrev addS (x : Int) : Pl.StepD := ⟨0, x, 0, []⟩
abbrev kindS (k : Int) : Pl.StepD := ⟨k, 0, 0, []⟩
theorem addT_fst (l : List Int) : (l.map addT).map (·.1) = l.map addS := by simp [addT, addS]
theorem setAt_adds : ∀ (l : List Int) (m d : List Pl.Ent), Pl.Rep m d → Zero d → Pl.Rep (Pl.putAll m l) (Pl.setAt d (l.map addS)) ∧ Zero (Pl.setAt d (l.map addS))
  | [], _, _, h, hz => ⟨h, hz⟩
  | x :: l, m, d, h, hz => by
    have e : Pl.setD d (addS x) = addE d x := rfl
    simp only [List.map_cons, Pl.setAt, Pl.putAll, List.foldl_cons]
    rw [e]
    exact setAt_adds l _ _ (rep_add h hz x) (addE_zero hz x)
theorem addAllE_rep : ∀ (l : List Int) (m d : List Pl.Ent), Pl.Rep m d → Zero d → Pl.Rep (Pl.putAll m l) (addAllE d l) ∧ Zero (addAllE d l)
  | [], _, _, h, hz => ⟨h, hz⟩
  | x :: l, m, d, h, hz => by
    simp only [addAllE, Pl.putAll, List.foldl_cons]
    exact addAllE_rep l _ _ (rep_add h hz x) (addE_zero hz x)

theorem zip_zero : ∀ (d : List Pl.Ent), Zero d → (d.map (·.1)).zip (List.replicate (d.map (·.1)).length 0) = d
  | [], _ => rfl
  | e :: d, h => by
    have h1 := zip_zero d (fun x hx => h x (by simp [hx]))
    simp only [List.map_cons, List.length_cons, List.replicate_succ, List.zip_cons_cons]
    rw [h1]
    have := h e (by simp)
    rw [show (e.1, (0 : Int)) = e from by rw [← this]]
theorem tells_rep {l d : List Pl.Ent} (h : Pl.Rep l d) (hz : Zero d) : tellsB (d.map (·.1)) l = true := by
  unfold tellsB Pl.sortedOf
  rw [if_pos (by simp), zip_zero d hz, h.sorted]
  simp

theorem setRun_get_last (n : Int) (a b : List Pl.StepD) (i : Nat) : (Pl.setRun n [] (a ++ b))[a.length + i]? = (Pl.setRun n (Pl.setAt [] a) b)[i]? := by
  rw [setRun_append, List.getElem?_append_right (by rw [setRun_length]; omega), setRun_length]
  congr 1
  omega
theorem StepIn.add {n : Nat} {x : Int} (h : 0 ≤ x ∧ x < n) : StepIn n (addS x) := ⟨h.1, h.2, by simp, by simp⟩
theorem StepIn.kind {n : Nat} (hn : 1 ≤ n) (k : Int) : StepIn n (kindS k) := ⟨by simp, by simp; omega, by simp, by simp⟩

/-- The cells of an answer. -/
theorem ansS_at {w : World} {a : Option Addr} {c : Nat} {A : List Pl.Ans} (h : AnsS w (.slice a A.length c) A) {i : Nat} {p : Pl.Ans} (hp : A[i]? = some p) :
    ∃ b k x, a = some ⟨b, 0, none⟩ ∧ w.cell? ⟨b, i * 4, none⟩ = some (.bool p.ok) ∧ w.cell? ⟨b, i * 4 + 1, none⟩ = some (.int .i64 p.val) ∧ w.cell? ⟨b, i * 4 + 2, none⟩ = some k ∧ w.cell? ⟨b, i * 4 + 3, none⟩ = some x ∧ IntS w k p.keys ∧ IntS w x p.vals := by
  obtain ⟨a', c', hv, _, _, hc⟩ := h
  injection hv with h1 _ _
  subst h1
  obtain ⟨b, rfl, hb⟩ := hc (by have := (List.getElem?_eq_some_iff.1 hp).1; omega)
  obtain ⟨k, x, h⟩ := hb i p hp
  exact ⟨b, k, x, rfl, h⟩
end Go.Proofs.Ytlagnbiokhnhlaa
