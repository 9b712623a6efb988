/- Plain laws: a line put in without a value; a map that has been cleared. -/
import Derived.Test.YtangceejmjklcaaLsQ
namespace Go.Proofs.Ytangceejmjklcaa
open Go.RowKit

theorem at0 (S : List Pl.LStep) (x : Pl.LStep) (r : List Pl.LStep) : (S ++ x :: r)[S.length]? = some x := by simp
theorem at1 (S : List Pl.LStep) (x y : Pl.LStep) (r : List Pl.LStep) : (S ++ x :: y :: r)[S.length + 1]? = some y := by simp
theorem at2 (S : List Pl.LStep) (x y z : Pl.LStep) (r : List Pl.LStep) : (S ++ x :: y :: z :: r)[S.length + 2]? = some z := by simp
theorem at3 (S : List Pl.LStep) (x y z u : Pl.LStep) (r : List Pl.LStep) : (S ++ x :: y :: z :: u :: r)[S.length + 3]? = some u := by simp
theorem lineD_look {fs : Nat → Int} {ns : Nat → Nat} {d : Nat → List Pl.Ent} {i : Nat} {s : Pl.LStep} (h : s.kind = 2 ∨ s.kind = 7) : Pl.lineD fs ns d i s = d := by
  unfold Pl.lineD
  rw [if_neg (by omega), if_neg (by omega), if_neg (by omega), if_neg (by omega)]
theorem runD_cut (fs : Nat → Int) (ns : Nat → Nat) (S T : List Pl.LStep) : Pl.runD fs ns (S ++ T) S.length = Pl.runD fs ns S S.length := by
  unfold Pl.runD; simp
theorem hasB_put {d : List Pl.Ent} (h : Kd d) (x v y : Int) : hasB (putE d x v) y = (decide (x = y) || hasB d y) := by
  rw [Bool.eq_iff_iff, hasB_iff, Bool.or_eq_true, decide_eq_true_eq, hasB_iff]
  constructor
  · rintro ⟨u, hu⟩
    rcases (mem_putE h x v _).1 hu with h1 | h1
    · injection h1 with h1 _; exact .inl h1.symm
    · exact .inr ⟨u, h1.1⟩
  · rintro (rfl | ⟨u, hu⟩)
    · exact ⟨v, (mem_putE h x v _).2 (.inl rfl)⟩
    · by_cases e : y = x
      · subst e; exact ⟨v, (mem_putE h y v _).2 (.inl rfl)⟩
      · exact ⟨u, (mem_putE h x v _).2 (.inr ⟨hu, e⟩)⟩
theorem lineR_has {fs : Nat → Int} {m : Nat} {d : Nat → List Pl.Ent} {s : Pl.LStep} {a : Pl.LAns} (h2 : s.kind = 2) (h : Pl.lineR fs m d s a) : a.ok = hasB (d s.file.toNat) (s.line - fs s.file.toNat) := by
  obtain ⟨b, hb, rfl⟩ := h
  unfold Pl.lineA at hb
  rw [if_pos h2] at hb
  subst hb
  simp only
  rw [hasB_sh]
/-- A line put in is there, if it is in the range of its file; no other line comes or goes. -/
theorem have_law {R : List Pl.Ent} {S : List Pl.LStep} (hR : RngOk R) (hS : ∀ s ∈ S, StepK R.length s ∧ s.kind ≠ 8) {f1 l1 c1 v1 f2 l2 c2 v2 : Int} (h10 : 0 ≤ f1) (h11 : f1 < (R.length : Int)) (h20 : 0 ≤ f2) (h21 : f2 < (R.length : Int))
    {A : List Pl.LAns} (hA : Pl.Runs (fsOf R) (nsOf R) R.length (S ++ [⟨2, f2, l2, c2, v2⟩, ⟨8, f1, l1, c1, v1⟩, ⟨2, f1, l1, c1, v1⟩, ⟨2, f2, l2, c2, v2⟩]) A) :
    ∃ a0 a2 a3, A[S.length]? = some a0 ∧ A[S.length + 2]? = some a2 ∧ A[S.length + 3]? = some a3 ∧ a2.ok = (decide (fsOf R f1.toNat ≤ l1) && decide (l1 ≤ lsOf R f1.toNat)) ∧ (¬ (f1 = f2 ∧ l1 = l2) → a0.ok = a3.ok) := by
  have hl := hA.1
  simp only [List.length_append, List.length_cons, List.length_nil] at hl
  obtain ⟨a0, ha0⟩ : ∃ a, A[S.length]? = some a := ⟨_, List.getElem?_eq_getElem (by omega)⟩
  obtain ⟨a2, ha2⟩ : ∃ a, A[S.length + 2]? = some a := ⟨_, List.getElem?_eq_getElem (by omega)⟩
  obtain ⟨a3, ha3⟩ : ∃ a, A[S.length + 3]? = some a := ⟨_, List.getElem?_eq_getElem (by omega)⟩
  refine ⟨a0, a2, a3, ha0, ha2, ha3, ?_⟩
  have r0 := lineR_has rfl (hA.2 _ _ _ (at0 _ _ _) ha0)
  have r2 := lineR_has rfl (hA.2 _ _ _ (at2 _ _ _ _ _) ha2)
  have r3 := lineR_has rfl (hA.2 _ _ _ (at3 _ _ _ _ _ _) ha3)
  have K := run_KL hR hS S.length
  have d0 := runD_cut (fsOf R) (nsOf R) S [⟨2, f2, l2, c2, v2⟩, ⟨8, f1, l1, c1, v1⟩, ⟨2, f1, l1, c1, v1⟩, ⟨2, f2, l2, c2, v2⟩]
  have d1 := Pl.runD_succ (fsOf R) (nsOf R) (at0 S ⟨2, f2, l2, c2, v2⟩ [⟨8, f1, l1, c1, v1⟩, ⟨2, f1, l1, c1, v1⟩, ⟨2, f2, l2, c2, v2⟩])
  have d2 := Pl.runD_succ (fsOf R) (nsOf R) (at1 S ⟨2, f2, l2, c2, v2⟩ ⟨8, f1, l1, c1, v1⟩ [⟨2, f1, l1, c1, v1⟩, ⟨2, f2, l2, c2, v2⟩])
  have d3 := Pl.runD_succ (fsOf R) (nsOf R) (at2 S ⟨2, f2, l2, c2, v2⟩ ⟨8, f1, l1, c1, v1⟩ ⟨2, f1, l1, c1, v1⟩ [⟨2, f2, l2, c2, v2⟩])
  rw [lineD_look (.inl rfl), d0] at d1
  rw [d1] at d2
  rw [lineD_look (.inl rfl), d2] at d3
  rw [d0] at r0
  rw [d2] at r2
  rw [d3] at r3
  obtain ⟨i, rfl⟩ : ∃ i : Nat, f1 = (i : Int) := ⟨f1.toNat, by omega⟩
  obtain ⟨j, rfl⟩ : ∃ j : Nat, f2 = (j : Int) := ⟨f2.toNat, by omega⟩
  have hi : i < R.length := by omega
  have hj : j < R.length := by omega
  simp only [Int.toNat_natCast] at r0 r2 r3 ⊢
  have hls := lsOf_eq hR hi
  obtain ⟨g1, g2, g3, g4⟩ := rng_at hR hi
  have e8 : Pl.lineD (fsOf R) (nsOf R) (Pl.runD (fsOf R) (nsOf R) S S.length) i ⟨8, (i : Int), l1, c1, v1⟩ = upd (Pl.runD (fsOf R) (nsOf R) S S.length) i (bputE (nsOf R i) (fsOf R i) (Pl.runD (fsOf R) (nsOf R) S S.length i) l1 0) := by
    unfold Pl.lineD; simp
  rw [e8] at r2 r3
  have hkd := K.kd i hi
  have hkr := K.kr i hi
  generalize Pl.runD (fsOf R) (nsOf R) S S.length = d at *
  constructor
  · rw [r2, upd_same, Bool.eq_iff_iff, Bool.and_eq_true, decide_eq_true_eq, decide_eq_true_eq]
    unfold bputE
    by_cases hin : fsOf R i ≤ l1 ∧ l1 < (nsOf R i : Int) + fsOf R i
    · rw [if_pos hin, hasB_put hkd, decide_eq_true rfl]
      simp only [Bool.true_or, true_iff]
      omega
    · rw [if_neg hin]
      have hb : hasB (d i) (l1 - fsOf R i) = false := hasB_false (fun v hv => by have := hkr _ hv; simp only at this; omega)
      rw [hb]
      simp only [Bool.false_eq_true, false_iff]
      omega
  · intro hne
    rw [r0, r3]
    by_cases hij : j = i
    · subst hij
      rw [upd_same]
      unfold bputE
      split
      · rw [hasB_put hkd, decide_eq_false (by omega), Bool.false_or]
      · rfl
    · rw [upd_ne _ hij]

/-! ### Cleared maps -/
theorem runD_clear (fs : Nat → Int) (ns : Nat → Nat) (S T : List Pl.LStep) {x y : Pl.LStep} (hx : x.kind = 5) (hy : y.kind = 7) (z : Pl.LStep) : Pl.runD fs ns (S ++ x :: y :: (T ++ [z])) (S.length + 2 + T.length) = Pl.runD fs ns (T ++ [z]) T.length := by
  have e1 : (S ++ x :: y :: (T ++ [z])).take (S.length + 2 + T.length) = S ++ x :: y :: T := by
    rw [show S ++ x :: y :: (T ++ [z]) = (S ++ x :: y :: T) ++ [z] by simp]
    exact List.take_left' (by simp; omega)
  have e2 : (T ++ [z]).take T.length = T := by simp
  unfold Pl.runD
  rw [e1, e2, List.foldl_append, List.foldl_cons, List.foldl_cons, lineD_look (.inr hy)]
  congr 1
  unfold Pl.lineD
  rw [if_neg (by omega), if_neg (by omega), if_neg (by omega), if_pos hx]
theorem lineR_all {fs : Nat → Int} {m : Nat} {d : Nat → List Pl.Ent} {s : Pl.LStep} {a : Pl.LAns} (h7 : s.kind = 7) (h : Pl.lineR fs m d s a) : ∃ q, q.Perm (List.range m) ∧ a = ⟨false, 0, (Pl.entF d q).map (· - 1), Pl.entL fs d q, Pl.entV d q⟩ := by
  obtain ⟨b, hb, rfl⟩ := h
  unfold Pl.lineA at hb
  rw [if_neg (by omega), if_neg (by omega), if_pos h7] at hb
  obtain ⟨q, hq, rfl⟩ := hb
  exact ⟨q, hq, rfl⟩
theorem clear_law {R : List Pl.Ent} {S T : List Pl.LStep} (hR : RngOk R) {x y z : Pl.LStep} (hx : x.kind = 5) (hy : y.kind = 7) (hz : z.kind = 7) (hK : ∀ s ∈ T ++ [z], StepK R.length s ∧ s.kind ≠ 8)
    {A B : List Pl.LAns} (hA : Pl.Runs (fsOf R) (nsOf R) R.length (S ++ x :: y :: (T ++ [z])) A) (hB : Pl.Runs (fsOf R) (nsOf R) R.length (T ++ [z]) B) :
    ∃ a0 a b, A[S.length + 1]? = some a0 ∧ a0.files = [] ∧ A[S.length + 2 + T.length]? = some a ∧ B[T.length]? = some b ∧ ∃ L : List Pl.LnE, b.files = L.map (·.file) ∧ b.lines = L.map (·.line) ∧ b.vals = L.map (·.val) ∧ L.length ≤ T.length ∧ SameQ L a.files a.lines a.vals := by
  have hl := hA.1
  have hl2 := hB.1
  simp only [List.length_append, List.length_cons, List.length_nil] at hl hl2
  obtain ⟨a0, ha0⟩ : ∃ a, A[S.length + 1]? = some a := ⟨_, List.getElem?_eq_getElem (by omega)⟩
  obtain ⟨a, ha⟩ : ∃ a, A[S.length + 2 + T.length]? = some a := ⟨_, List.getElem?_eq_getElem (by omega)⟩
  obtain ⟨b, hb⟩ : ∃ b, B[T.length]? = some b := ⟨_, List.getElem?_eq_getElem (by omega)⟩
  have hzt : (T ++ [z])[T.length]? = some z := by simp
  have hzs : (S ++ x :: y :: (T ++ [z]))[S.length + 2 + T.length]? = some z := by
    rw [show S ++ x :: y :: (T ++ [z]) = (S ++ x :: y :: T) ++ [z] by simp, show S.length + 2 + T.length = (S ++ x :: y :: T).length by simp; omega]
    simp
  refine ⟨a0, a, b, ha0, ?_, ha, hb, ?_⟩
  · obtain ⟨q, hq, rfl⟩ := lineR_all hy (hA.2 _ _ _ (at1 _ _ _ _) ha0)
    rw [Pl.runD_succ (fsOf R) (nsOf R) (at0 S x _)]
    have : Pl.lineD (fsOf R) (nsOf R) (Pl.runD (fsOf R) (nsOf R) (S ++ x :: y :: (T ++ [z])) S.length) x.file.toNat x = fun _ => [] := by
      unfold Pl.lineD
      rw [if_neg (by omega), if_neg (by omega), if_neg (by omega), if_pos hx]
    rw [this]
    clear hq ha0
    simp only [Pl.entF]
    induction q with
    | nil => rfl
    | cons i q ih => simp
  · have hra := hA.2 _ _ _ hzs ha
    rw [runD_clear _ _ _ _ hx hy] at hra
    have hrb := hB.2 _ _ _ hzt hb
    have K := run_KL hR hK T.length
    have hz' := hK z (by simp)
    have pa := K.ans hz'.1.f0 hz'.1.f1 hra
    have pb := K.ans hz'.1.f0 hz'.1.f1 hrb
    obtain ⟨L, e1, e2, e3, g7, g0⟩ := pb.told
    refine ⟨L, e1, e2, e3, ?_, told_same K.nd rfl pa g7 g0⟩
    have := (g7 hz).length_eq
    have h2 := runL_length (fsOf R) (lsOf R) (T ++ [z]) T.length
    omega
end Go.Proofs.Ytangceejmjklcaa
