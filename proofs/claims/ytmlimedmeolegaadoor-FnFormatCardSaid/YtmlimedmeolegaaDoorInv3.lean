/- A region's walk by an invariant: facts of the world, each guarded by the operations that bring it about; what is done is closed under what it waits for. -/
import Derived.Test.YtmlimedmeolegaaDoorInv2
namespace Go.Proofs.YtmlimedmeolegaaDoor
open Go.RowKit Go.BigFrame

/-- What is done has all done for which it waits. -/
def Closed (l : List Oper) (D : Nat → Bool) : Prop := ∀ i o, l[i]? = some o → D i = true → ∀ e ∈ o.after, Region.binds .any e = true → D e.on = true

def Ob3 (P : Program) (l : List Oper) (Q : Exit → Act → World → Prop) (Inv : (Nat → Bool) → Act → World → Prop) (i : Nat) (o : Oper) : Prop :=
  ∀ D a w, D i = false → Closed l D → (∀ e ∈ o.after, Region.binds .any e = true → D e.on = true) → Inv D a w → if Region.wanted o (yielded l.toArray a.tmps) then o.wp P a w (Inv (also D i)) Q else Inv (also D i) (a.put o.dst undef) w
def Obs3 (P : Program) (l : List Oper) (Q : Exit → Act → World → Prop) (Inv : (Nat → Bool) → Act → World → Prop) : Nat → List Oper → Prop
  | _, [] => True
  | k, o :: r => Ob3 P l Q Inv k o ∧ Obs3 P l Q Inv (k + 1) r
theorem obs3_get {P : Program} {l0 : List Oper} {Q : Exit → Act → World → Prop} {Inv : (Nat → Bool) → Act → World → Prop} : ∀ (l : List Oper) (k : Nat), Obs3 P l0 Q Inv k l → ∀ (i : Nat) (o : Oper), l[i]? = some o → Ob3 P l0 Q Inv (k + i) o
  | [], _, _, i, o, h => by simp at h
  | a :: l, k, hh, 0, o, h => by simp at h; subst h; exact hh.1
  | a :: l, k, hh, i + 1, o, h => by
    have := obs3_get l (k + 1) hh.2 i o (by simpa using h)
    rwa [show k + 1 + i = k + (i + 1) by omega] at this
theorem closed_also {l : List Oper} {D : Nat → Bool} {i : Nat} {o : Oper} (hc : Closed l D) (ho : l[i]? = some o) (hd : ∀ e ∈ o.after, Region.binds .any e = true → D e.on = true) : Closed l (also D i) := by
  intro j o' ho' hj e he hb
  by_cases h : j = i
  · subst h
    rw [ho] at ho'
    cases ho'
    have := hd e he hb
    simp [also, this]
  · rw [also_ne h] at hj
    have := hc j o' ho' hj e he hb
    simp [also, this]
theorem region_obs3 {P : Program} {id : Nat} {Q : Exit → Act → World → Prop} {a : Act} {w : World} {l : List Oper} (Inv : (Nat → Bool) → Act → World → Prop) (hm : P.follows .mixedOrders = true) (hE : earlier l = true) (h0 : Inv (fun _ => false) a w.drew)
    (hs : Obs3 P l Q Inv 0 l) (hend : ∀ D a w, (∀ j, j < l.length → D j = true) → Inv D a w → Q .normal a w) : (Code.region id l.toArray true).wp P Q a w :=
  region_inv (fun D a w => Closed l D ∧ Inv D a w) hm hE ⟨fun _ _ _ h => (by cases h), h0⟩ (fun i o ho D a w hd hdeps hi => by
    have := obs3_get l 0 hs i o ho
    rw [Nat.zero_add] at this
    have := this D a w hd hi.1 hdeps hi.2
    have hcl := closed_also hi.1 ho hdeps
    split
    · rename_i hw
      rw [if_pos hw] at this
      exact Oper.wp_mono (fun a w h => ⟨hcl, h⟩) this
    · rename_i hw
      rw [if_neg hw] at this
      exact ⟨hcl, this⟩) (fun D a w hall h => hend D a w hall h.2)

/-- A fact, and the operations that bring it about. -/
abbrev Fact := List Nat × (World → Prop)
/-- Facts that stand when memory grows. -/
def Stab (fs : List Fact) : Prop := ∀ f ∈ fs, ∀ W W' : World, Bel W W' → f.2 W → f.2 W'
theorem Stab.nil : Stab [] := fun _ h => by cases h
theorem Stab.cons {f : Fact} {fs : List Fact} (h : ∀ W W' : World, Bel W W' → f.2 W → f.2 W') (hs : Stab fs) : Stab (f :: fs) := fun x hx => by
  rcases List.mem_cons.1 hx with rfl | hx
  · exact h
  · exact hs x hx

structure WG (w0 : World) (fs : List Fact) (D : Nat → Bool) (W : World) : Prop where
  bel : Bel w0 W
  all : ∀ f ∈ fs, (∀ i ∈ f.1, D i = true) → f.2 W
theorem WG.start (w0 : World) {fs : List Fact} (h : ∀ f ∈ fs, f.1 ≠ []) : WG w0 fs (fun _ => false) w0.drew :=
  ⟨(Bel.refl w0).drew, fun f hf hg => by
    have := h f hf
    cases hx : f.1 with
    | nil => exact absurd hx this
    | cons i r => have := hg i (by rw [hx]; simp); cases this⟩
theorem WG.get {w0 W : World} {fs : List Fact} {D : Nat → Bool} (h : WG w0 fs D W) {k : Nat} {f : Fact} (hf : fs[k]? = some f) (hg : ∀ i ∈ f.1, D i = true) : f.2 W := h.all f (List.mem_of_getElem? hf) hg
/-- An operation that brings about nothing new. -/
theorem WG.step {w0 W W' : World} {fs : List Fact} {D : Nat → Bool} (h : WG w0 fs D W) (hst : Stab fs) (hb : Bel W W') {k : Nat} (hk : ∀ f ∈ fs, k ∉ f.1) : WG w0 fs (also D k) W' :=
  ⟨h.bel.trans hb, fun f hf hg => hst f hf W W' hb (h.all f hf (fun i hi => by
    have := hg i hi
    rwa [also_ne (fun e => hk f hf (by rw [← e]; exact hi))] at this))⟩
/-- An operation that brings about new facts. -/
theorem WG.new {w0 W W' : World} {fs fs' : List Fact} {D : Nat → Bool} (h : WG w0 fs D W) (hst : Stab fs) (hb : Bel W W') {k : Nat} (hn : ∀ f ∈ fs', (k ∈ f.1 ∧ ((∀ i ∈ f.1, i = k ∨ D i = true) → f.2 W')) ∨ (k ∉ f.1 ∧ f ∈ fs)) : WG w0 fs' (also D k) W' :=
  ⟨h.bel.trans hb, fun f hf hg => by
    rcases hn f hf with ⟨_, h2⟩ | ⟨h1, h2⟩
    · exact h2 (fun i hi => by
        by_cases e : i = k
        · exact .inl e
        · exact .inr (by have := hg i hi; rwa [also_ne e] at this))
    · exact hst f h2 W W' hb (h.all f h2 (fun i hi => by
        have := hg i hi
        rwa [also_ne (fun e => h1 (by rw [← e]; exact hi))] at this))⟩
theorem ob_enter' {P : Program} {ops : Array Oper} {Q : Exit → Act → World → Prop} {K : Act → World → Prop} {K' : Prop} {o : Oper} {a : Act} {w w' : World} {f : FuncId} {args : Array Value} (hg : o.guard = none) (hr : (execOp a.eval o).run P w = .ok (.enter f args) w')
    (h : Calls P f args w' fun e w'' => ∃ v, e = .returned v ∧ K (a.put o.dst v) w'') : if Region.wanted o (yielded ops a.tmps) then o.wp P a w K Q else K' := by
  rw [if_pos (show Region.wanted o _ = true by simp [Region.wanted, hg])]
  unfold Oper.wp
  rw [hr]
  exact h.mono fun e w'' ⟨v, he, hk⟩ => by subst he; exact hk
theorem frC_wait {a0 : Act} {D : Nat → Bool} {t : Nat} : ∀ {vs : List (Nat × Nat × Value)}, (∀ e ∈ vs, e.2.1 = t → D e.1 = false) → (frC a0 D vs).eval (.tmp t) = a0.eval (.tmp t)
  | [], _ => rfl
  | e :: r, h => by
    have ih := frC_wait (a0 := a0) (D := D) (vs := r) (fun e he => h e (by simp [he]))
    unfold frC
    split
    · rename_i hd
      have hne : e.2.1 ≠ t := fun he => by have := h e (by simp) he; rw [this] at hd; cases hd
      rw [← ih]
      simp only [Act.put, Act.eval]
      exact by simp [Array.getElem?_setIfInBounds_ne hne]
    · exact ih
end Go.Proofs.YtmlimedmeolegaaDoor
