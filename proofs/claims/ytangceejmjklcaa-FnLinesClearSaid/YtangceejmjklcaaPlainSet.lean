/-
  Plain scripts: steps, answers, rules; what the reference's Answers, Follows compute. No program in sight.
-/
import Derived.Test.YtangceejmjklcaaPlainEnt
namespace Go.Proofs.Ytangceejmjklcaa.Pl

structure StepD where
  kind : Int
  key : Int
  val : Int
  list : List Int
structure Ans where
  ok : Bool
  val : Int
  keys : List Int
  vals : List Int
structure RulesD where
  first : Int
  last : Int
  cap : Int
  values : Bool
  absent : Int
  found : Bool

def sortedOf (ks vs : List Int) : Option (List Ent) := if ks.length = vs.length then sortedFrom [] (ks.zip vs) else none

def allVals (r : RulesD) (g : Ans) : List Int := if r.values then g.vals else List.replicate g.keys.length 0
def allB (r : RulesD) (l : List Ent) (g : Ans) : Bool :=
  if r.values = false ∧ 0 < g.vals.length then false
  else match sortedOf g.keys (allVals r g) with
    | none => false
    | some t => decide (t = l) && !g.ok && decide (g.val = 0)

def putAll (l : List Ent) (ks : List Int) : List Ent := ks.foldl (fun l k => put l k 0) l
def none0 (g : Ans) : Bool := decide (g.keys.length + g.vals.length = 0)

def ansList (r : RulesD) (l : List Ent) (s : StepD) (g : Ans) : List Ent :=
  if s.kind = 0 then (if r.first ≤ s.key ∧ s.key ≤ r.last then put l s.key (if r.values then s.val else 0) else l)
  else if s.kind = 1 then without l s.key
  else if s.kind = 5 then []
  else if s.kind = 6 then (if r.values = false ∧ 0 < l.length then without l g.val else l)
  else if s.kind = 8 then (if r.values then l else putAll l s.list)
  else l
def dueOk (r : RulesD) (l : List Ent) (s : StepD) : Bool :=
  if s.kind = 2 then there l s.key else if s.kind = 3 then there l s.key && r.found else false
def dueVal (r : RulesD) (l : List Ent) (s : StepD) : Int :=
  if s.kind = 3 then (if r.values then (if there l s.key then valOf l s.key else r.absent) else 0)
  else if s.kind = 4 then l.length else if s.kind = 9 then r.cap else 0
def ansB (r : RulesD) (l : List Ent) (s : StepD) (g : Ans) : Bool :=
  if s.kind = 6 ∧ r.values = false ∧ 0 < l.length then there l g.val && g.ok && none0 g
  else if s.kind = 7 then allB r l g
  else g.ok == dueOk r l s && decide (g.val = dueVal r l s) && none0 g

/-- What Follows answers. -/
def follows (r : RulesD) : List Ent → List StepD → List Ans → Option (List Ent)
  | l, [], [] => some l
  | l, s :: ss, g :: gs => if ansB r l s g then follows r (ansList r l s g) ss gs else none
  | _, _, _ => none

theorem place_there_lt {l : List Ent} {k : Int} (h : there l k = true) : place l k < l.length := by
  rcases Nat.lt_or_ge (place l k) l.length with h' | h'
  · exact h'
  · exfalso; unfold there at h; rw [List.getElem?_eq_none h'] at h; cases h

theorem put_length (l : List Ent) (k v : Int) : (put l k v).length ≤ l.length + 1 ∧ l.length ≤ (put l k v).length := by
  have := place_le l k
  unfold put
  cases ht : there l k
  · simp; omega
  · have := place_there_lt ht
    simp; omega
theorem without_length (l : List Ent) (k : Int) : (without l k).length ≤ l.length := List.length_filter_le _ _
theorem without_take_succ (l : List Ent) (k : Int) (j : Nat) (e : Ent) (h : l[j]? = some e) : without (l.take (j + 1)) k = without (l.take j) k ++ (if e.1 = k then [] else [e]) := by
  rw [List.take_add_one, h]
  unfold without
  rw [List.filter_append]
  by_cases he : e.1 = k <;> simp [he]

theorem sortedFrom_append (acc a b : List Ent) : sortedFrom acc (a ++ b) = (sortedFrom acc a).bind (fun l => sortedFrom l b) := by
  induction a generalizing acc with
  | nil => rfl
  | cons e r ih =>
    simp only [List.cons_append, sortedFrom]
    split
    · rfl
    · exact ih _
theorem sortedFrom_length : ∀ (d acc l : List Ent), sortedFrom acc d = some l → l.length ≤ acc.length + d.length
  | [], acc, l, h => by cases h; simp
  | e :: r, acc, l, h => by
    simp only [sortedFrom] at h
    split at h
    · cases h
    · have := sortedFrom_length r _ l h
      have := (put_length acc e.1 e.2).1
      simp; omega
theorem zip_take_succ (ks vs : List Int) (j : Nat) (k v : Int) (hk : ks[j]? = some k) (hv : vs[j]? = some v) : (ks.zip vs).take (j + 1) = (ks.zip vs).take j ++ [(k, v)] := by
  rw [List.take_add_one, (List.getElem?_zip_eq_some (z := (k, v))).2 ⟨hk, hv⟩]; rfl
theorem sortedFrom_none_of_take (d : List Ent) (j : Nat) (acc : List Ent) (h : sortedFrom acc (d.take j) = none) : sortedFrom acc d = none := by
  rw [← List.take_append_drop j d, sortedFrom_append, h]; rfl
theorem putAll_length (l : List Ent) (ks : List Int) : (putAll l ks).length ≤ l.length + ks.length := by
  unfold putAll
  induction ks generalizing l with
  | nil => simp
  | cons k r ih =>
    have := ih (put l k 0)
    have := (put_length l k 0).1
    simp only [List.foldl_cons, List.length_cons]; omega
theorem ansList_length (r : RulesD) (l : List Ent) (s : StepD) (g : Ans) : (ansList r l s g).length ≤ l.length + 1 + s.list.length := by
  unfold ansList
  have h1 := (put_length l s.key s.val).1
  have h1' := (put_length l s.key 0).1
  have h2 := without_length l s.key
  have h3 := without_length l g.val
  have h4 := putAll_length l s.list
  repeat' split
  all_goals simp <;> omega
end Go.Proofs.Ytangceejmjklcaa.Pl
