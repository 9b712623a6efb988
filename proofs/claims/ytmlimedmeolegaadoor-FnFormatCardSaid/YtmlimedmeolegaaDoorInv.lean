/- A region that draws its order, by an invariant over the operations that have been carried out: one obligation for each operation, whatever the order. -/
import Derived.Test.YtmlimedmeolegaaDoorFam
namespace Go.Proofs.YtmlimedmeolegaaDoor
open Go.RowKit Go.BigFrame

/-- Each operation waits only for operations ahead of it in the text. -/
def earlier (l : List Oper) : Bool := (List.range l.length).all fun i => match l[i]? with | some o => o.after.toList.all (fun e => !(Region.binds .any e) || decide (e.on < i)) | none => true

def left1 : Nat → (Nat → Bool) → Nat
  | 0, _ => 0
  | n + 1, D => left1 n D + if D n then 0 else 1
theorem left1_also {D : Nat → Bool} {i : Nat} (hi : D i = false) : ∀ n, (i < n → left1 n (also D i) + 1 = left1 n D) ∧ (n ≤ i → left1 n (also D i) = left1 n D)
  | 0 => ⟨fun h => absurd h (by omega), fun _ => rfl⟩
  | n + 1 => by
    obtain ⟨h1, h2⟩ := left1_also hi n
    have hne : n ≠ i → also D i n = D n := fun h => by simp [also, h]
    constructor
    · intro hlt
      by_cases e : n = i
      · subst e
        have : also D n n = true := by simp [also]
        simp only [left1, this, hi, h2 (Nat.le_refl _)]
        simp
      · have := h1 (by omega)
        simp only [left1, hne e]
        omega
    · intro hle
      simp only [left1, hne (by omega), h2 (by omega)]
theorem left1_zero {D : Nat → Bool} : ∀ n, left1 n D = 0 → ∀ j, j < n → D j = true
  | 0, _, j, hj => absurd hj (by omega)
  | n + 1, h, j, hj => by
    simp only [left1] at h
    by_cases e : j = n
    · subst e
      cases hd : D j
      · rw [hd] at h; simp at h
      · rfl
    · exact left1_zero n (by omega) j (by omega)
theorem left1_none : ∀ n, left1 n (fun _ => false) = n
  | 0 => rfl
  | n + 1 => by simp [left1, left1_none n]

theorem all_of_ready {l : List Oper} (hE : earlier l = true) {listed : Array Bool} (hsz : listed.size = l.length) (hr : Region.ready .any l.toArray listed = []) : ∀ j, j < l.length → dn listed j = true := by
  intro j
  induction j using Nat.strongRecOn with
  | _ j ih =>
    intro hj
    cases hd : dn listed j
    · exfalso
      have hm : j ∈ Region.ready .any l.toArray listed := by
        refine mem_ready.2 ⟨getD_in (by omega) hd, l[j], by simp, fun e he hb => ?_⟩
        have h1 := List.all_eq_true.1 hE j (by simpa using hj)
        rw [List.getElem?_eq_getElem hj] at h1
        have h2 := List.all_eq_true.1 h1 e (by simpa using he)
        rw [hb] at h2
        have h3 : e.on < j := by simpa using h2
        exact ih e.on h3 (by omega)
      rw [hr] at hm
      cases hm
    · rfl

theorem region_inv {P : Program} {id : Nat} {Q : Exit → Act → World → Prop} {a : Act} {w : World} {l : List Oper} (Inv : (Nat → Bool) → Act → World → Prop) (hm : P.follows .mixedOrders = true) (hE : earlier l = true) (h0 : Inv (fun _ => false) a w.drew)
    (hs : ∀ (i : Nat) (o : Oper), l[i]? = some o → ∀ D a w, D i = false → (∀ e ∈ o.after, Region.binds .any e = true → D e.on = true) → Inv D a w → if Region.wanted o (yielded l.toArray a.tmps) then o.wp P a w (Inv (also D i)) Q else Inv (also D i) (a.put o.dst undef) w)
    (hend : ∀ D a w, (∀ j, j < l.length → D j = true) → Inv D a w → Q .normal a w) : (Code.region id l.toArray true).wp P Q a w := by
  have main : ∀ (fuel : Nat) (listed : Array Bool) (a : Act) (w : World), listed.size = l.length → left1 l.length (dn listed) = fuel → Inv (dn listed) a w → wpAny P .any l.toArray Q fuel listed a w := by
    intro fuel
    induction fuel with
    | zero =>
      intro listed a w hsz hl hi
      have hall := left1_zero _ hl
      refine ⟨?_, hend _ _ _ hall hi⟩
      rw [List.eq_nil_iff_forall_not_mem]
      intro j hj
      have h1 := getD_both (mem_ready.1 hj).1
      have h2 := hall j (by have := ready_lt hj; omega)
      unfold dn at h2
      rw [h1] at h2
      cases h2
    | succ fuel ih =>
      intro listed a w hsz hl hi
      refine ⟨fun hr => hend _ _ _ (all_of_ready hE hsz hr) hi, fun i hir => ?_⟩
      obtain ⟨hd, o, ho, hdeps⟩ := mem_ready.1 hir
      have hlt := ready_lt hir
      have hd' : dn listed i = false := getD_both hd
      have ho' : l[i]? = some o := by simpa using ho
      have hnext : ∀ a' w', Inv (also (dn listed) i) a' w' → wpAny P .any l.toArray Q fuel (listed.setIfInBounds i true) a' w' := fun a' w' h =>
        ih _ a' w' (by simpa using hsz) (by
          rw [dn_set hlt]
          have := (left1_also hd' l.length).1 (by omega)
          omega) (by rw [dn_set hlt]; exact h)
      have h := hs i o ho' (dn listed) a w hd' (fun e he hb => hdeps e he hb) hi
      unfold wpOp
      rw [ho]
      show if Region.wanted o (yielded l.toArray a.tmps) then _ else _
      by_cases hw : Region.wanted o (yielded l.toArray a.tmps) = true
      · rw [if_pos hw] at h ⊢
        exact .inl (Oper.wp_mono hnext h)
      · rw [if_neg hw] at h ⊢
        exact hnext _ _ h
  refine wp_region_any hm ?_
  have hd0 : dn (Array.replicate l.toArray.size false) = fun _ => false := by funext j; exact getD_replicate_false _ _
  have := main l.length (Array.replicate l.toArray.size false) a w.drew (by simp) (by rw [hd0]; exact left1_none _) (by rw [hd0]; exact h0)
  simpa using this
end Go.Proofs.YtmlimedmeolegaaDoor
