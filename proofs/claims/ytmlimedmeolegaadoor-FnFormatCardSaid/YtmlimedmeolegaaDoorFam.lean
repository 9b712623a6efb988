/- A drawn region walked once, over a FAMILY of classes of worlds: C D holds of the world once the operations D have been carried out. So a store may be a step of the walk. The reasoning of the library's 'wp_region_quiet', over a family. -/
import Derived.Test.YtmlimedmeolegaaDoorTail
namespace Go.Proofs.YtmlimedmeolegaaDoor
open Go.RowKit Go.BigFrame

section
variable {P : Program} {ops : Array Oper} {md : Region.Mode} {C : (Nat → Bool) → World → Prop}

def also (D : Nat → Bool) (i : Nat) : Nat → Bool := fun j => j == i || D j

def famUpon (P : Program) (S : World → Prop) (v : Value) : Result Next → Prop
  | .ok (.value u) w' => S w' ∧ u = v
  | .ok .skip w' => S w' ∧ v = undef
  | .ok (.enter f args) w' => Calls P f args w' (fun e w'' => e = .returned v ∧ S w'')
  | _ => False

def famAt (P : Program) (o : Oper) (a : Act) (C : (Nat → Bool) → World → Prop) (i : Nat) (v : Value) : Prop := ∀ D w, C D w → famUpon P (C (also D i)) v ((execOp a.eval o).run P w)
def famKeeps (C : (Nat → Bool) → World → Prop) (i : Nat) : Prop := ∀ D w, C D w → C (also D i) w

def wpFam (P : Program) (ops : Array Oper) (C : (Nat → Bool) → World → Prop) (Q : Act → Prop) : Nat → List Oper → Act → Prop
  | _, [], a => Q a
  | k, o :: rest, a => if Region.wanted o (yielded ops a.tmps) then ∃ v, famAt P o a C k v ∧ wpFam P ops C Q (k + 1) rest (a.put o.dst v) else famKeeps C k ∧ wpFam P ops C Q (k + 1) rest (a.put o.dst undef)

def fOp (P : Program) (ops : Array Oper) (C : (Nat → Bool) → World → Prop) (i : Nat) (K : Act → Prop) (a : Act) : Prop :=
  match ops[i]? with
  | none => famKeeps C i ∧ K a
  | some o => if Region.wanted o (yielded ops a.tmps) then ∃ v, famAt P o a C i v ∧ K (a.put o.dst v) else famKeeps C i ∧ K (a.put o.dst undef)

theorem fOp_mono {i : Nat} {a : Act} {K K' : Act → Prop} (h : ∀ a, K a → K' a) (hh : fOp P ops C i K a) : fOp P ops C i K' a := by
  unfold fOp at *
  split
  · rename_i ho; simp only [ho] at hh; exact ⟨hh.1, h _ hh.2⟩
  · rename_i o ho
    simp only [ho] at hh
    split
    · rename_i hw; simp only [hw, if_true] at hh; obtain ⟨v, h1, h2⟩ := hh; exact ⟨v, h1, h _ h2⟩
    · rename_i hw; simp only [hw] at hh; exact ⟨hh.1, h _ hh.2⟩

def wpAnyF (P : Program) (md : Region.Mode) (ops : Array Oper) (C : (Nat → Bool) → World → Prop) (Q : Array Bool → Act → Prop) : Nat → Array Bool → Act → Prop
  | 0, listed, a => Region.ready md ops listed = [] ∧ Q listed a
  | fuel + 1, listed, a =>
    (Region.ready md ops listed = [] → Q listed a) ∧
    ∀ i ∈ Region.ready md ops listed, fOp P ops C i (wpAnyF P md ops C Q fuel (listed.setIfInBounds i true)) a

theorem wp_of_fam {i : Nat} {o : Oper} {a : Act} {K : Act → Prop} {K' : Act → World → Prop} {Q' : Exit → Act → World → Prop} {w : World} {D : Nat → Bool} (hw : C D w) (h : ∀ a w', C (also D i) w' → K a → K' a w')
    (hh : ∃ v, famAt P o a C i v ∧ K (a.put o.dst v)) : o.wp P a w K' Q' := by
  obtain ⟨v, h1, h2⟩ := hh
  have h3 := h1 D w hw
  unfold Oper.wp
  generalize (execOp a.eval o).run P w = r at *
  cases r with
  | ok n w' =>
    cases n <;> simp only [famUpon] at h3 <;> simp only [Oper.upon]
    case value u => obtain ⟨e1, rfl⟩ := h3; exact h _ _ e1 h2
    case skip => obtain ⟨e1, rfl⟩ := h3; exact h _ _ e1 h2
    case enter f args => exact h3.mono fun e w'' ⟨he, hw''⟩ => by subst he; exact h _ _ hw'' h2
  | halt x w' => simp only [famUpon] at h3

theorem wpOp_of_fOp {i : Nat} {a : Act} {K : Act → Prop} {K' : Act → World → Prop} {Q' : Exit → Act → World → Prop} {w : World} {D : Nat → Bool} (hC : C D w) (h : ∀ a w', C (also D i) w' → K a → K' a w') (hh : fOp P ops C i K a) : wpOp P ops Q' i K' a w := by
  unfold fOp at hh
  unfold wpOp
  split
  · rename_i ho; simp only [ho] at hh; exact h _ _ (hh.1 _ _ hC) hh.2
  · rename_i o ho
    simp only [ho] at hh
    split
    · rename_i hw; simp only [hw, if_true] at hh; exact .inl (wp_of_fam hC h hh)
    · rename_i hw; simp only [hw] at hh; exact h _ _ (hh.1 _ _ hC) hh.2

def dn (listed : Array Bool) : Nat → Bool := fun j => listed.getD j false
theorem dn_set {listed : Array Bool} {i : Nat} (hi : i < listed.size) : dn (listed.setIfInBounds i true) = also (dn listed) i := by
  funext j
  unfold dn also
  by_cases hij : j = i
  · subst hij; simp [hi]
  · rw [getD_set_ne false (Ne.symm hij)]; simp [hij]
theorem ready_lt {listed : Array Bool} {i : Nat} (h : i ∈ Region.ready md ops listed) : i < listed.size := by
  have h0 := (mem_ready.1 h).1
  rcases Nat.lt_or_ge i listed.size with h' | h'
  · exact h'
  · simp [Array.getElem?_eq_none h'] at h0

theorem wpAny_of_F {Q : Array Bool → Act → Prop} {Q' : Exit → Act → World → Prop} (hQ : ∀ listed a w, C (dn listed) w → Q listed a → Q' .normal a w) : ∀ (fuel : Nat) (listed : Array Bool) (a : Act) (w : World), C (dn listed) w →
    wpAnyF P md ops C Q fuel listed a → wpAny P md ops Q' fuel listed a w
  | 0, _, _, _, hw, h => ⟨h.1, hQ _ _ _ hw h.2⟩
  | fuel + 1, _, _, _, hw, h => ⟨fun h0 => hQ _ _ _ hw (h.1 h0), fun i hi => wpOp_of_fOp hw (fun a' w' hw' => wpAny_of_F hQ fuel _ a' w' (by rw [dn_set (ready_lt hi)]; exact hw')) (h.2 i hi)⟩

def YieldsF (P : Program) (ops : Array Oper) (C : (Nat → Bool) → World → Prop) (i : Nat) (o : Oper) (v : Value) (a : Act) : Prop :=
  (Region.wanted o (yielded ops a.tmps) = true ∧ famAt P o a C i v) ∨ (Region.wanted o (yielded ops a.tmps) = false ∧ v = undef ∧ famKeeps C i)

theorem YieldsF.fOp {i : Nat} {o : Oper} {v : Value} {a : Act} (hi : ops[i]? = some o) (hy : YieldsF P ops C i o v a) {K : Act → Prop} (h : K (a.put o.dst v)) : fOp P ops C i K a := by
  unfold Go.Proofs.YtmlimedmeolegaaDoor.fOp
  simp only [hi]
  rcases hy with ⟨hw, hv⟩ | ⟨hw, rfl, hk⟩
  · simp only [hw, if_true]; exact ⟨v, hv, h⟩
  · simp only [hw, Bool.false_eq_true, if_false]; exact ⟨hk, h⟩

theorem YieldsF.of_same {i : Nat} {o : Oper} {v : Value} {a a' : Act} (hy : YieldsF P ops C i o v a) (he : execOp a'.eval o = execOp a.eval o)
    (hw : Region.wanted o (yielded ops a'.tmps) = Region.wanted o (yielded ops a.tmps)) : YieldsF P ops C i o v a' := by
  unfold YieldsF famAt at *
  rw [he, hw]
  exact hy

theorem yieldsF_of_fOp {i : Nat} {o : Oper} {a : Act} {K : Act → Prop} (hi : ops[i]? = some o) (h : fOp P ops C i K a) : ∃ v, YieldsF P ops C i o v a ∧ K (a.put o.dst v) := by
  unfold fOp at h
  simp only [hi] at h
  by_cases hw : Region.wanted o (yielded ops a.tmps) = true
  · simp only [hw, if_true] at h
    obtain ⟨v, h1, h2⟩ := h
    exact ⟨v, .inl ⟨hw, h1⟩, h2⟩
  · simp only [hw] at h
    exact ⟨undef, .inr ⟨by simpa using hw, rfl, h.1⟩, h.2⟩

theorem fOp_put {i j : Nat} {oi oj : Oper} {v : Value} (hj : ops[j]? = some oj) (hap : oi.apart ops oj = true)
    (hsi : ∀ cs b, oi.op ≠ .select cs b) (hsj : ∀ cs b, oj.op ≠ .select cs b) {K : Act → Prop} {a : Act}
    (hy : YieldsF P ops C i oi v a) (h : fOp P ops C j K (a.put oi.dst v)) :
    fOp P ops C j (fun a' => YieldsF P ops C i oi v a' ∧ K (a'.put oi.dst v)) a := by
  obtain ⟨h1, h2, h3⟩ := Oper.apart_spec hap
  have keep : ∀ (a : Act), YieldsF P ops C i oi v a → ∀ u, YieldsF P ops C i oi v (a.put oj.dst u) := fun a hy u =>
    hy.of_same (execOp_put oi hsi a oj.dst u h3) (wanted_put oi a oj.dst u h3)
  unfold fOp at *
  simp only [hj] at *
  rw [wanted_put oj a oi.dst v h1] at h
  split
  · rename_i hw
    simp only [hw, if_true] at h
    obtain ⟨u, hu, hn⟩ := h
    refine ⟨u, fun D w hw' => ?_, keep a hy u, by rw [← Act.put_comm a v u h2]; exact hn⟩
    have := hu D w hw'
    rwa [execOp_put oj hsj a oi.dst v h1] at this
  · rename_i hw
    simp only [hw] at h
    exact ⟨h.1, keep a hy _, by rw [← Act.put_comm a v undef h2]; exact h.2⟩

theorem wpAnyF_first {Q : Array Bool → Act → Prop} {i : Nat} {oi : Oper} {v : Value} (hi : ops[i]? = some oi) (hsel : ∀ (j : Nat) (o : Oper) cs b, ops[j]? = some o → o.op ≠ .select cs b) :
    ∀ (fuel : Nat) (listed : Array Bool) (a : Act),
      (∀ j oj, ops[j]? = some oj → j ≠ i → listed.getD j true = false → (∀ e ∈ oj.after, Region.binds md e = true → e.on ≠ i) → oi.apart ops oj = true) →
      i ∈ Region.ready md ops listed → YieldsF P ops C i oi v a →
      wpAnyF P md ops C Q fuel (listed.setIfInBounds i true) (a.put oi.dst v) → wpAnyF P md ops C Q (fuel + 1) listed a := by
  intro fuel
  induction fuel with
  | zero =>
    intro listed a _ hr hy H
    refine ⟨fun h => (by rw [h] at hr; cases hr), fun j hj => ?_⟩
    by_cases hji : j = i
    · subst hji; exact hy.fOp hi H
    · have := ready_mono hj hji
      rw [H.1] at this
      cases this
  | succ fuel ih =>
    intro listed a hfree hr hy H
    refine ⟨fun h => (by rw [h] at hr; cases hr), fun j hj => ?_⟩
    by_cases hji : j = i
    · subst hji; exact hy.fOp hi H
    · have h1 := H.2 j (ready_mono hj hji)
      obtain ⟨hjun, oj, hoj, hall⟩ := mem_ready.1 hj
      have hnot : ∀ e ∈ oj.after, Region.binds md e = true → e.on ≠ i := fun e he hb heq => by
        have h1 := hall e he hb
        rw [heq, getD_both (mem_ready.1 hr).1] at h1
        cases h1
      have h2 := fOp_put hoj (hfree j oj hoj hji hjun hnot) (fun cs b => hsel i oi cs b hi) (fun cs b => hsel j oj cs b hoj) hy h1
      have hfree' : ∀ k ok, ops[k]? = some ok → k ≠ i → (listed.setIfInBounds j true).getD k true = false →
          (∀ e ∈ ok.after, Region.binds md e = true → e.on ≠ i) → oi.apart ops ok = true := fun k ok hk hki hun hno => by
        refine hfree k ok hk hki ?_ hno
        by_cases hjk : j = k
        · subst hjk; exact hjun
        · rw [getD_set_ne true hjk] at hun; exact hun
      refine fOp_mono (fun a' h3 => ih (listed.setIfInBounds j true) a' hfree' (ready_mono hr (Ne.symm hji)) h3.1 ?_) h2
      rw [Array.setIfInBounds_comm _ _ hji]
      exact h3.2

theorem wpAnyF_lex {Q : Act → Prop} (hs : Region.noSelect ops = true) : ∀ (l : List Oper) (k : Nat) (listed : Array Bool) (a : Act), (∀ j, l[j]? = ops[k + j]?) → k + l.length = ops.size → (∀ j, j < k → dn listed j = true) →
    Region.lexFrom md ops l.length k listed = true → wpFam P ops C Q k l a → wpAnyF P md ops C (fun listed' a' => (∀ j, j < ops.size → dn listed' j = true) ∧ Q a') l.length listed a
  | [], k, _, _, _, hk, hd, hB, h => ⟨by simpa [Region.lexFrom] using hB, fun j hj => hd j (by simp at hk; omega), h⟩
  | o :: l, k, listed, a, hl, hk, hd, hB, h => by
    have h0 : ops[k]? = some o := by simpa using (hl 0).symm
    simp only [List.length_cons, Region.lexFrom, Bool.and_eq_true] at hB
    obtain ⟨⟨hr, hf⟩, hB'⟩ := hB
    have hr' : k ∈ Region.ready md ops listed := by simpa using hr
    have hst : fOp P ops C k (wpFam P ops C Q (k + 1) l) a := by unfold fOp; simp only [h0]; exact h
    obtain ⟨v, hy, hK⟩ := yieldsF_of_fOp h0 hst
    refine wpAnyF_first h0 (Region.noSelect_spec hs) l.length listed a (Region.free_spec h0 hf) hr' hy
      (wpAnyF_lex hs l (k + 1) _ _ (fun j => by have := hl (j + 1); simpa [Nat.add_assoc, Nat.add_comm 1 j] using this) (by simp only [List.length_cons] at hk; omega) (fun j hj => ?_) hB' hK)
    rw [dn_set (ready_lt hr')]
    unfold also
    by_cases hjk : j = k
    · simp [hjk]
    · simp [hd j (by omega)]

theorem region_fam {id : Nat} {Q : Exit → Act → World → Prop} {a : Act} {w : World} {l : List Oper} (hm : P.follows .mixedOrders = true) (hB : Region.lexB .any l.toArray = true) (hC : C (fun _ => false) w.drew)
    (h : wpFam P l.toArray C (fun a' => ∀ D w', (∀ j, j < l.length → D j = true) → C D w' → Q .normal a' w') 0 l a) : (Code.region id l.toArray true).wp P Q a w := by
  simp only [Region.lexB, Bool.and_eq_true] at hB
  have hd0 : dn (Array.replicate l.toArray.size false) = fun _ => false := by funext j; exact getD_replicate_false _ _
  have H := wpAnyF_lex (md := .any) hB.1 l 0 (Array.replicate l.toArray.size false) a (by simp) (by simp) (fun j hj => by omega) (by simpa using hB.2) h
  refine wp_region_any hm ?_
  have := wpAny_of_F (md := .any) (Q' := Q) (fun listed a' w' hw' hq => hq.2 (dn listed) w' (by simpa using hq.1) hw') _ _ _ w.drew (by rw [hd0]; exact hC) H
  simpa using this

/-- The worlds of one class of the family. -/
def Fam (C : (Nat → Bool) → World → Prop) (D : Nat → Bool) : Type := { W : World // C D W }
def Fam.at {C : (Nat → Bool) → World → Prop} {D : Nat → Bool} (x : Fam C D) : World := x.1
theorem Fam.holds {C : (Nat → Bool) → World → Prop} {D : Nat → Bool} (x : Fam C D) : C D x.at := x.2
theorem call_fam {f : FuncId} {args : Array Value} {v : Value} {D : Nat → Bool} (x : Fam C D) (h : Calls P f args x.at fun e w' => e = .returned v ∧ C D w') : Calls P f args x.at fun e w'' => e = .returned v ∧ ∃ y : Fam C D, w'' = y.at :=
  h.mono fun _ w' h => ⟨h.1, ⟨w', h.2⟩, rfl⟩

/-- One operation that reads, or a call that keeps the class. -/
theorem wpFam_step {Q : Act → Prop} {k : Nat} {o : Oper} {rest : List Oper} {a a1 : Act} (hne : ∃ D w, C D w) (hk : famKeeps C k) (hd : ∃ t, o.dst = some t ∧ t < a.tmps.size)
    (h : ∀ D, Nonempty (Fam C D) → wpQuiet P ops (fun w' => ∃ y : Fam C D, w' = y.at) (fun a' => a' = a1) [o] a) (hn : wpFam P ops C Q (k + 1) rest a1) : wpFam P ops C Q k (o :: rest) a := by
  obtain ⟨t, ht, hts⟩ := hd
  unfold wpFam
  by_cases hw : Region.wanted o (yielded ops a.tmps) = true
  · rw [if_pos hw]
    have hput : ∀ D, Nonempty (Fam C D) → ∃ v, a.put o.dst v = a1 ∧ ∀ w, (∃ y : Fam C D, w = y.at) → o.quietAt P a (fun w' => ∃ y : Fam C D, w' = y.at) w v := fun D hD => by
      have := h D hD
      unfold wpQuiet at this
      rw [if_pos hw] at this
      obtain ⟨v, h1, h2⟩ := this
      exact ⟨v, h2, h1⟩
    have hget : ∀ v, a.put o.dst v = a1 → v = a1.tmps.getD t undef := fun v hv => by
      rw [← hv, ht]
      simp [Act.put, hts]
    refine ⟨a1.tmps.getD t undef, fun D w hw' => ?_, ?_⟩
    · obtain ⟨v, hv, hq⟩ := hput D ⟨⟨w, hw'⟩⟩
      obtain rfl := hget v hv
      have hq := hq w ⟨⟨w, hw'⟩, rfl⟩
      unfold Oper.quietAt at hq
      generalize (execOp a.eval o).run P w = r at *
      cases r with
      | ok n w' =>
        cases n <;> simp only [Oper.quietUpon] at hq <;> simp only [famUpon]
        case value u => obtain ⟨rfl, e⟩ := hq; exact ⟨hk _ _ hw', e⟩
        case skip => obtain ⟨rfl, e⟩ := hq; exact ⟨hk _ _ hw', e⟩
        case enter f args => obtain ⟨rfl, e⟩ := hq; exact e.mono fun _ _ ⟨he, y, hy⟩ => ⟨he, hk _ _ (by rw [hy]; exact y.holds)⟩
      | halt x w' => simp only [Oper.quietUpon] at hq
    · obtain ⟨D, w, hw'⟩ := hne
      obtain ⟨v, hv, _⟩ := hput D ⟨⟨w, hw'⟩⟩
      rw [← hget v hv, hv]
      exact hn
  · rw [if_neg hw]
    obtain ⟨D, w, hw'⟩ := hne
    have := h D ⟨⟨w, hw'⟩⟩
    unfold wpQuiet at this
    rw [if_neg hw] at this
    have e : a.put o.dst undef = a1 := this
    exact ⟨hk, by rw [e]; exact hn⟩

/-- A store. -/
theorem wpFam_store {Q : Act → Prop} {k : Nat} {o : Oper} {rest : List Oper} {a : Act} (hw : Region.wanted o (yielded ops a.tmps) = true)
    (h : ∀ D w, C D w → ∃ w', (execOp a.eval o).run P w = .ok .skip w' ∧ C (also D k) w') (hn : wpFam P ops C Q (k + 1) rest (a.put o.dst undef)) : wpFam P ops C Q k (o :: rest) a := by
  unfold wpFam
  rw [if_pos hw]
  refine ⟨undef, fun D w hC => ?_, hn⟩
  obtain ⟨w', e, h'⟩ := h D w hC
  rw [e]
  exact ⟨h', rfl⟩
theorem wpFam_nil {Q : Act → Prop} {k : Nat} {a : Act} (h : Q a) : wpFam P ops C Q k [] a := h
end
end Go.Proofs.YtmlimedmeolegaaDoor
