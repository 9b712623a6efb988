/- Frames of a region's walk by an invariant: which slots have been written hangs on the operations that are done; two allocations among them. -/
import Derived.Test.YtmlimedmeolegaaDoorInv
namespace Go.Proofs.YtmlimedmeolegaaDoor
open Go.RowKit Go.BigFrame

/-- The frame behind the operations D: (operation, slot, value). -/
def frC (a0 : Act) (D : Nat → Bool) : List (Nat × Nat × Value) → Act
  | [] => a0
  | e :: r => if D e.1 then (frC a0 D r).put (some e.2.1) e.2.2 else frC a0 D r

theorem frC_size (a0 : Act) (D : Nat → Bool) : ∀ vs, (frC a0 D vs).tmps.size = a0.tmps.size
  | [] => rfl
  | e :: r => by
    unfold frC
    split
    · simp [Act.put, frC_size a0 D r]
    · exact frC_size a0 D r
theorem frC_out {a0 : Act} {D : Nat → Bool} {t : Nat} : ∀ {vs : List (Nat × Nat × Value)}, t ∉ vs.map (·.2.1) → (frC a0 D vs).eval (.tmp t) = a0.eval (.tmp t)
  | [], _ => rfl
  | e :: r, h => by
    simp only [List.map_cons, List.mem_cons, not_or] at h
    have ih := frC_out (a0 := a0) (D := D) h.2
    unfold frC
    split
    · rw [← ih]
      simp only [Act.put, Act.eval]
      exact by simp [Array.getElem?_setIfInBounds_ne (Ne.symm h.1)]
    · exact ih
theorem frC_in {a0 : Act} {D : Nat → Bool} {i t : Nat} {v : Value} (hD : D i = true) (ht : t < a0.tmps.size) : ∀ {vs : List (Nat × Nat × Value)}, (i, t, v) ∈ vs → (vs.map (·.2.1)).Nodup → (frC a0 D vs).eval (.tmp t) = v
  | [], h, _ => by cases h
  | e :: r, h, hn => by
    simp only [List.map_cons, List.nodup_cons] at hn
    rcases List.mem_cons.1 h with rfl | h
    · unfold frC
      rw [if_pos hD]
      simp [Act.put, Act.eval, frC_size, ht]
    · have ih := frC_in (a0 := a0) hD ht h hn.2
      have hne : e.2.1 ≠ t := fun he => hn.1 (by rw [he]; exact List.mem_map.2 ⟨_, h, rfl⟩)
      unfold frC
      split
      · rw [← ih]
        simp only [Act.put, Act.eval]
        exact by simp [Array.getElem?_setIfInBounds_ne hne]
      · exact ih
theorem also_ne {D : Nat → Bool} {i j : Nat} (h : j ≠ i) : also D i j = D j := by simp [also, h]
theorem also_self {D : Nat → Bool} {i : Nat} : also D i i = true := by simp [also]
theorem frC_also_out {a0 : Act} {D : Nat → Bool} {i : Nat} : ∀ {vs : List (Nat × Nat × Value)}, i ∉ vs.map (·.1) → frC a0 (also D i) vs = frC a0 D vs
  | [], _ => rfl
  | e :: r, h => by
    simp only [List.map_cons, List.mem_cons, not_or] at h
    unfold frC
    rw [also_ne (Ne.symm h.1), frC_also_out h.2]
theorem frC_put {a0 : Act} {D : Nat → Bool} {i t : Nat} {v : Value} (hD : D i = false) : ∀ {vs : List (Nat × Nat × Value)}, (i, t, v) ∈ vs → (vs.map (·.2.1)).Nodup → (vs.map (·.1)).Nodup → (frC a0 D vs).put (some t) v = frC a0 (also D i) vs
  | [], h, _, _ => by cases h
  | e :: r, h, hn, hm => by
    simp only [List.map_cons, List.nodup_cons] at hn hm
    rcases List.mem_cons.1 h with rfl | h
    · unfold frC
      simp only [also_self, if_true, hD, Bool.false_eq_true, if_false]
      rw [frC_also_out hm.1]
    · have ih := frC_put (a0 := a0) hD h hn.2 hm.2
      have hne : e.2.1 ≠ t := fun he => hn.1 (by rw [he]; exact List.mem_map.2 ⟨_, h, rfl⟩)
      have hni : e.1 ≠ i := fun he => hm.1 (by rw [he]; exact List.mem_map.2 ⟨_, h, rfl⟩)
      unfold frC
      rw [also_ne hni, ← ih]
      split
      · simp only [Act.put]
        congr 1
        rw [Array.setIfInBounds_comm _ _ hne]
      · rfl
theorem frC_none (a0 : Act) : ∀ vs, frC a0 (fun _ => false) vs = a0
  | [] => rfl
  | e :: r => by unfold frC; simp [frC_none a0 r]
theorem frC_all {a0 : Act} {D : Nat → Bool} : ∀ {vs : List (Nat × Nat × Value)}, (∀ e ∈ vs, D e.1 = true) → frC a0 D vs = vs.foldr (fun e a => a.put (some e.2.1) e.2.2) a0
  | [], _ => rfl
  | e :: r, h => by
    unfold frC
    rw [if_pos (h e (by simp)), frC_all (fun e he => h e (by simp [he]))]
    rfl

/-- One obligation: operation i, o. -/
def Ob (P : Program) (ops : Array Oper) (Q : Exit → Act → World → Prop) (Inv : (Nat → Bool) → Act → World → Prop) (i : Nat) (o : Oper) : Prop :=
  ∀ D a w, D i = false → (∀ e ∈ o.after, Region.binds .any e = true → D e.on = true) → Inv D a w → if Region.wanted o (yielded ops a.tmps) then o.wp P a w (Inv (also D i)) Q else Inv (also D i) (a.put o.dst undef) w
def Obs (P : Program) (ops : Array Oper) (Q : Exit → Act → World → Prop) (Inv : (Nat → Bool) → Act → World → Prop) : Nat → List Oper → Prop
  | _, [] => True
  | k, o :: r => Ob P ops Q Inv k o ∧ Obs P ops Q Inv (k + 1) r
theorem obs_get {P : Program} {ops : Array Oper} {Q : Exit → Act → World → Prop} {Inv : (Nat → Bool) → Act → World → Prop} : ∀ (l : List Oper) (k : Nat), Obs P ops Q Inv k l → ∀ (i : Nat) (o : Oper), l[i]? = some o → Ob P ops Q Inv (k + i) o
  | [], _, _, i, o, h => by simp at h
  | a :: l, k, hh, 0, o, h => by simp at h; subst h; exact hh.1
  | a :: l, k, hh, i + 1, o, h => by
    have := obs_get l (k + 1) hh.2 i o (by simpa using h)
    rwa [show k + 1 + i = k + (i + 1) by omega] at this
theorem region_obs {P : Program} {id : Nat} {Q : Exit → Act → World → Prop} {a : Act} {w : World} {l : List Oper} (Inv : (Nat → Bool) → Act → World → Prop) (hm : P.follows .mixedOrders = true) (hE : earlier l = true) (h0 : Inv (fun _ => false) a w.drew)
    (hs : Obs P l.toArray Q Inv 0 l) (hend : ∀ D a w, (∀ j, j < l.length → D j = true) → Inv D a w → Q .normal a w) : (Code.region id l.toArray true).wp P Q a w :=
  region_inv Inv hm hE h0 (fun i o ho D a w hd hdeps hi => by
    have := obs_get l 0 hs i o ho
    rw [Nat.zero_add] at this
    exact this D a w hd hdeps hi) hend
theorem ev_get {a : Act} {t : Nat} {v : Value} (h : a.eval (.tmp t) = v) : a.tmps[t]?.getD undef = v := by rw [← h]; simp [Act.eval]
theorem act_name {P : Program} {C : Code} {Q : Exit → Act → World → Prop} {a : Act} {w : World} (h : ∀ a0, a0 = a → C.wp P Q a0 w) : C.wp P Q a w := h a rfl
theorem ob_val {P : Program} {ops : Array Oper} {Q : Exit → Act → World → Prop} {K : Act → World → Prop} {K' : Prop} {o : Oper} {a : Act} {w w' : World} {v : Value} (hg : o.guard = none) (hr : (execOp a.eval o).run P w = .ok (.value v) w') (h : K (a.put o.dst v) w') :
    if Region.wanted o (yielded ops a.tmps) then o.wp P a w K Q else K' := by
  rw [if_pos (show Region.wanted o _ = true by simp [Region.wanted, hg])]
  unfold Oper.wp
  rw [hr]
  exact h
theorem ob_skip {P : Program} {ops : Array Oper} {Q : Exit → Act → World → Prop} {K : Act → World → Prop} {K' : Prop} {o : Oper} {a : Act} {w w' : World} (hg : o.guard = none) (hr : (execOp a.eval o).run P w = .ok .skip w') (h : K (a.put o.dst undef) w') :
    if Region.wanted o (yielded ops a.tmps) then o.wp P a w K Q else K' := by
  rw [if_pos (show Region.wanted o _ = true by simp [Region.wanted, hg])]
  unfold Oper.wp
  rw [hr]
  exact h
theorem ob_enter {P : Program} {ops : Array Oper} {Q : Exit → Act → World → Prop} {K : Act → World → Prop} {K' : Prop} {o : Oper} {a : Act} {w w' : World} {v : Value} {f : FuncId} {args : Array Value} (hg : o.guard = none) (hr : (execOp a.eval o).run P w = .ok (.enter f args) w')
    (h : Calls P f args w' fun e w'' => e = .returned v ∧ K (a.put o.dst v) w'') : if Region.wanted o (yielded ops a.tmps) then o.wp P a w K Q else K' := by
  rw [if_pos (show Region.wanted o _ = true by simp [Region.wanted, hg])]
  unfold Oper.wp
  rw [hr]
  exact h.mono fun e w'' ⟨he, hk⟩ => by subst he; exact hk
theorem bel_setI {w w' : World} {p : Addr} {v : Value} (h : Bel w w') (hp : w.heap.size ≤ p.block) : Bel w (w'.setCell p v) := ((Kept.of_bel (S := []) h).setCell (.inr hp) v).bel
end Go.Proofs.YtmlimedmeolegaaDoor
