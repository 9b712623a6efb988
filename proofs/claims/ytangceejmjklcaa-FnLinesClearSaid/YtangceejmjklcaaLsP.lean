/- Maps of lines as a list of lines: the plain law. -/
import Derived.Test.YtangceejmjklcaaLs6
namespace Go.Proofs.Ytangceejmjklcaa
open Go.RowKit

abbrev Kd (d : List Pl.Ent) : Prop := d.Pairwise (fun a b => a.1 ≠ b.1)
theorem Kd.uniq {d : List Pl.Ent} (h : Kd d) {i j : Nat} {a b : Pl.Ent} (ha : d[i]? = some a) (hb : d[j]? = some b) (e : a.1 = b.1) : i = j := by
  obtain ⟨hi, hia⟩ := List.getElem?_eq_some_iff.1 ha
  obtain ⟨hj, hjb⟩ := List.getElem?_eq_some_iff.1 hb
  have hp := List.pairwise_iff_getElem.1 h
  rcases Nat.lt_trichotomy i j with h1 | h1 | h1
  · have := hp i j hi hj h1; rw [hia, hjb] at this; exact absurd e this
  · exact h1
  · have := hp j i hj hi h1; rw [hia, hjb] at this; exact absurd e.symm this
theorem Kd.get {d : List Pl.Ent} (h : Kd d) {x v : Int} (hm : (x, v) ∈ d) : getV d x = v := by
  obtain ⟨i, hi, hie⟩ := List.getElem_of_mem hm
  exact getV_at h (by rw [List.getElem?_eq_getElem hi, hie])
theorem mem_putE {d : List Pl.Ent} (h : Kd d) (x v : Int) (e : Pl.Ent) : e ∈ putE d x v ↔ e = (x, v) ∨ (e ∈ d ∧ e.1 ≠ x) := by
  cases hb : hasB d x with
  | false =>
    have hn : ∀ u, (x, u) ∉ d := fun u hu => by rw [hasB_iff.2 ⟨u, hu⟩] at hb; cases hb
    rw [putE_not hn]
    simp only [List.mem_append, List.mem_singleton]
    constructor
    · rintro (h1 | h1)
      · exact .inr ⟨h1, fun e1 => hn e.2 (by rw [← e1]; exact h1)⟩
      · exact .inl h1
    · rintro (h1 | h1)
      · exact .inr h1
      · exact .inl h1.1
  | true =>
    obtain ⟨u, hu⟩ := hasB_iff.1 hb
    obtain ⟨i, hi, hie⟩ := List.getElem_of_mem hu
    have hix : d[i]? = some (x, u) := by rw [List.getElem?_eq_getElem hi, hie]
    rw [putE_at h hix]
    constructor
    · intro hm
      obtain ⟨j, hj, hje⟩ := List.getElem_of_mem hm
      rw [List.length_set] at hj
      by_cases e1 : i = j
      · subst e1; left; simpa using hje.symm
      · right
        rw [List.getElem_set_ne e1] at hje
        refine ⟨by rw [← hje]; exact List.getElem_mem _, fun e2 => e1 ?_⟩
        exact h.uniq hix (show d[j]? = some e by rw [List.getElem?_eq_getElem hj, hje]) e2.symm
    · rintro (rfl | ⟨hm, hne⟩)
      · exact List.mem_set hi _
      · obtain ⟨j, hj, hje⟩ := List.getElem_of_mem hm
        have e1 : i ≠ j := by
          rintro rfl
          rw [hie] at hje
          exact hne (by rw [← hje])
        have : (d.set i (x, v))[j]'(by rw [List.length_set]; exact hj) = e := by rw [List.getElem_set_ne e1]; exact hje
        rw [← this]; exact List.getElem_mem _
theorem Kd.put {d : List Pl.Ent} (h : Kd d) (x v : Int) : Kd (putE d x v) := by
  cases hb : hasB d x with
  | false =>
    have hn : ∀ u, (x, u) ∉ d := fun u hu => by rw [hasB_iff.2 ⟨u, hu⟩] at hb; cases hb
    rw [putE_not hn]
    unfold Kd
    rw [List.pairwise_append]
    refine ⟨h, by simp, fun a ha b hb => ?_⟩
    simp at hb
    subst hb
    exact fun e => hn a.2 (by have e' : a.1 = x := e; rw [← e']; exact ha)
  | true =>
    obtain ⟨u, hu⟩ := hasB_iff.1 hb
    obtain ⟨i, hi, hie⟩ := List.getElem_of_mem hu
    have hix : d[i]? = some (x, u) := by rw [List.getElem?_eq_getElem hi, hie]
    rw [putE_at h hix]
    unfold Kd
    rw [List.pairwise_iff_getElem]
    intro a b ha hb hab
    rw [List.length_set] at ha hb
    have hp := List.pairwise_iff_getElem.1 h a b ha hb hab
    have key : ∀ (c : Nat) (hc : c < d.length), ((d.set i (x, v))[c]'(by rw [List.length_set]; exact hc)).1 = d[c].1 := fun c hc => by
      by_cases e1 : i = c
      · subst e1; rw [List.getElem_set_self, hie]
      · rw [List.getElem_set_ne e1]
    rw [key a ha, key b hb]
    exact hp
theorem mem_outE {d : List Pl.Ent} (h : Kd d) (x : Int) (e : Pl.Ent) : e ∈ outE d x ↔ e ∈ d ∧ e.1 ≠ x := by
  cases hb : hasB d x with
  | false =>
    have hn : ∀ u, (x, u) ∉ d := fun u hu => by rw [hasB_iff.2 ⟨u, hu⟩] at hb; cases hb
    rw [outE_not hn]
    exact ⟨fun h1 => ⟨h1, fun e1 => hn e.2 (by rw [← e1]; exact h1)⟩, fun h1 => h1.1⟩
  | true =>
    obtain ⟨u, hu⟩ := hasB_iff.1 hb
    obtain ⟨i, hi, hie⟩ := List.getElem_of_mem hu
    have hix : d[i]? = some (x, u) := by rw [List.getElem?_eq_getElem hi, hie]
    rw [outE_at h hix, Pl.mem_swapOut h hi, hie]
theorem Kd.out {d : List Pl.Ent} (h : Kd d) (x : Int) : Kd (outE d x) := by
  cases hb : hasB d x with
  | false =>
    rw [outE_not (fun u hu => by rw [hasB_iff.2 ⟨u, hu⟩] at hb; cases hb)]; exact h
  | true =>
    obtain ⟨u, hu⟩ := hasB_iff.1 hb
    obtain ⟨i, hi, hie⟩ := List.getElem_of_mem hu
    rw [outE_at h (show d[i]? = some (x, u) by rw [List.getElem?_eq_getElem hi, hie])]
    exact Pl.swapOut_nodup h hi

/-- No line stands twice. -/
abbrev Nl (l : List Pl.LnE) : Prop := l.Pairwise (fun a b => ¬ (a.file = b.file ∧ a.line = b.line))
theorem Nl.uniq {l : List Pl.LnE} (h : Nl l) {i j : Nat} {a b : Pl.LnE} (ha : l[i]? = some a) (hb : l[j]? = some b) (e : a.file = b.file ∧ a.line = b.line) : i = j := by
  obtain ⟨hi, hia⟩ := List.getElem?_eq_some_iff.1 ha
  obtain ⟨hj, hjb⟩ := List.getElem?_eq_some_iff.1 hb
  have hp := List.pairwise_iff_getElem.1 h
  rcases Nat.lt_trichotomy i j with h1 | h1 | h1
  · have := hp i j hi hj h1; rw [hia, hjb] at this; exact absurd e this
  · exact h1
  · have := hp j i hj hi h1; rw [hia, hjb] at this; exact absurd ⟨e.1.symm, e.2.symm⟩ this
theorem Nl.same {l : List Pl.LnE} (h : Nl l) {a b : Pl.LnE} (ha : a ∈ l) (hb : b ∈ l) (e : a.file = b.file ∧ a.line = b.line) : a = b := by
  obtain ⟨i, hi, hia⟩ := List.getElem_of_mem ha
  obtain ⟨j, hj, hjb⟩ := List.getElem_of_mem hb
  have := h.uniq (show l[i]? = some a by rw [List.getElem?_eq_getElem hi, hia]) (show l[j]? = some b by rw [List.getElem?_eq_getElem hj, hjb]) e
  subst this
  exact hia.symm.trans hjb
theorem findL_some {l : List Pl.LnE} {f n : Int} {k : Nat} (h : Pl.findL l f n = some k) : ∃ e, l[k]? = some e ∧ e.file = f ∧ e.line = n := by
  unfold Pl.findL at h
  obtain ⟨hk, hp, _⟩ := List.findIdx?_eq_some_iff_getElem.1 h
  exact ⟨l[k], List.getElem?_eq_getElem hk, by simpa using hp⟩
theorem findL_mem {l : List Pl.LnE} {e : Pl.LnE} (h : e ∈ l) : ∃ k, Pl.findL l e.file e.line = some k := by
  cases hf : Pl.findL l e.file e.line with
  | some k => exact ⟨k, rfl⟩
  | none =>
    unfold Pl.findL at hf
    have := List.findIdx?_eq_none_iff.1 hf e h
    simp at this
/-- What tells the lines of a list in another order is right. -/
theorem sameQ_perm {l T : List Pl.LnE} (h : T.Perm l) (hn : Nl l) : SameQ l (T.map (·.file)) (T.map (·.line)) (T.map (·.val)) := by
  have hT : Nl T := by
    refine (h.pairwise_iff ?_).2 hn
    intro a b hab e
    exact hab ⟨e.1.symm, e.2.symm⟩
  refine ⟨by simp [h.length_eq], by simp [h.length_eq], by simp [h.length_eq], fun i f n x hf hl hv => ?_, fun i j f n hji hf hl hf' hl' => ?_⟩
  · rw [List.getElem?_map] at hf hl hv
    obtain ⟨e, he, rfl⟩ := Option.map_eq_some_iff.1 hf
    rw [he] at hl hv
    simp at hl hv
    subst hl hv
    have hm : e ∈ l := h.mem_iff.1 (List.mem_of_getElem? he)
    obtain ⟨k, hk⟩ := findL_mem hm
    obtain ⟨e', he', h1, h2⟩ := findL_some hk
    have := hn.same hm (List.mem_of_getElem? he') ⟨h1.symm, h2.symm⟩
    subst this
    exact ⟨k, e, hk, he', rfl⟩
  · rw [List.getElem?_map] at hf hl hf' hl'
    obtain ⟨e, he, rfl⟩ := Option.map_eq_some_iff.1 hf
    obtain ⟨e', he', h1⟩ := Option.map_eq_some_iff.1 hf'
    rw [he] at hl
    rw [he'] at hl'
    simp at hl hl'
    have := hT.uniq he he' ⟨h1.symm, by rw [hl, hl']⟩
    omega

/-- The list l has the lines of the maps d of m files. -/
structure KL (fs : Nat → Int) (ns : Nat → Nat) (m : Nat) (d : Nat → List Pl.Ent) (l : List Pl.LnE) : Prop where
  kd : ∀ i, i < m → Kd (d i)
  kr : ∀ i, i < m → ∀ e ∈ d i, 0 ≤ e.1 ∧ e.1 < (ns i : Int)
  nd : Nl l
  ml : ∀ e : Pl.LnE, e ∈ l ↔ ∃ i, i < m ∧ e.file = (i : Int) ∧ (e.line - fs i, e.val) ∈ d i
theorem KL.start (fs : Nat → Int) (ns : Nat → Nat) (m : Nat) : KL fs ns m (fun _ => []) [] := ⟨fun _ _ => List.Pairwise.nil, by simp, List.Pairwise.nil, by simp⟩
section
variable {fs : Nat → Int} {ns : Nat → Nat} {m : Nat} {d : Nat → List Pl.Ent} {l : List Pl.LnE}
theorem mem_withoutL {l : List Pl.LnE} {f n : Int} {e : Pl.LnE} : e ∈ Pl.withoutL l f n ↔ e ∈ l ∧ ¬ (e.file = f ∧ e.line = n) := by
  unfold Pl.withoutL
  rw [List.mem_filter]
  simp only [Bool.not_eq_true', decide_eq_false_iff_not]
theorem Nl.without {l : List Pl.LnE} (h : Nl l) (f n : Int) : Nl (Pl.withoutL l f n) := h.sublist List.filter_sublist
theorem Nl.put {l : List Pl.LnE} (h : Nl l) (x : Pl.LnE) : Nl (Pl.putL l x) := by
  unfold Pl.putL Nl
  rw [List.pairwise_append]
  refine ⟨h.without _ _, by simp, fun a ha b hb => ?_⟩
  simp at hb
  subst hb
  exact (mem_withoutL.1 ha).2
theorem mem_putL {l : List Pl.LnE} {x e : Pl.LnE} : e ∈ Pl.putL l x ↔ e = x ∨ (e ∈ l ∧ ¬ (e.file = x.file ∧ e.line = x.line)) := by
  unfold Pl.putL
  rw [List.mem_append, mem_withoutL, List.mem_singleton]
  exact ⟨fun h => h.symm, fun h => h.symm⟩
theorem KL.put (h : KL fs ns m d l) {i : Nat} (hi : i < m) {n x : Int} (h0 : fs i ≤ n) (h1 : n < fs i + ns i) : KL fs ns m (upd d i (putE (d i) (n - fs i) x)) (Pl.putL l ⟨i, n, x⟩) := by
  refine ⟨fun j hj => ?_, fun j hj e he => ?_, h.nd.put _, fun e => ?_⟩
  · by_cases e : j = i
    · subst e; rw [upd_same]; exact (h.kd j hj).put _ _
    · rw [upd_ne _ e]; exact h.kd j hj
  · by_cases e1 : j = i
    · subst e1
      rw [upd_same] at he
      rcases (mem_putE (h.kd j hj) _ _ e).1 he with rfl | ⟨he, _⟩
      · simp only; omega
      · exact h.kr j hj e he
    · rw [upd_ne _ e1] at he; exact h.kr j hj e he
  · rw [mem_putL]
    constructor
    · rintro (rfl | ⟨hm, hne⟩)
      · exact ⟨i, hi, rfl, by rw [upd_same]; exact (mem_putE (h.kd i hi) _ _ _).2 (.inl rfl)⟩
      · obtain ⟨j, hj, hf, hmem⟩ := (h.ml e).1 hm
        refine ⟨j, hj, hf, ?_⟩
        by_cases e1 : j = i
        · subst e1
          rw [upd_same]
          refine (mem_putE (h.kd j hj) _ _ _).2 (.inr ⟨hmem, fun e2 => hne ⟨hf, ?_⟩⟩)
          simp only at e2 ⊢
          omega
        · rw [upd_ne _ e1]; exact hmem
    · rintro ⟨j, hj, hf, hmem⟩
      by_cases e1 : j = i
      · subst e1
        rw [upd_same] at hmem
        rcases (mem_putE (h.kd j hj) _ _ _).1 hmem with h2 | ⟨h2, h3⟩
        · left
          obtain ⟨ef, el, ev⟩ := e
          simp only [Prod.mk.injEq] at h2 hf
          simp only [Pl.LnE.mk.injEq]
          exact ⟨hf, by omega, h2.2⟩
        · right
          refine ⟨(h.ml e).2 ⟨j, hj, hf, h2⟩, fun hh => h3 ?_⟩
          simp only at hh ⊢
          omega
      · right
        rw [upd_ne _ e1] at hmem
        refine ⟨(h.ml e).2 ⟨j, hj, hf, hmem⟩, fun hh => e1 ?_⟩
        simp only at hh
        omega
theorem KL.out (h : KL fs ns m d l) {i : Nat} (hi : i < m) (n : Int) : KL fs ns m (upd d i (outE (d i) (n - fs i))) (Pl.withoutL l i n) := by
  refine ⟨fun j hj => ?_, fun j hj e he => ?_, h.nd.without _ _, fun e => ?_⟩
  · by_cases e : j = i
    · subst e; rw [upd_same]; exact (h.kd j hj).out _
    · rw [upd_ne _ e]; exact h.kd j hj
  · by_cases e1 : j = i
    · subst e1
      rw [upd_same] at he
      exact h.kr j hj e ((mem_outE (h.kd j hj) _ e).1 he).1
    · rw [upd_ne _ e1] at he; exact h.kr j hj e he
  · rw [mem_withoutL]
    constructor
    · rintro ⟨hm, hne⟩
      obtain ⟨j, hj, hf, hmem⟩ := (h.ml e).1 hm
      refine ⟨j, hj, hf, ?_⟩
      by_cases e1 : j = i
      · subst e1
        rw [upd_same]
        exact (mem_outE (h.kd j hj) _ _).2 ⟨hmem, fun e2 => hne ⟨hf, by simp only at e2; omega⟩⟩
      · rw [upd_ne _ e1]; exact hmem
    · rintro ⟨j, hj, hf, hmem⟩
      by_cases e1 : j = i
      · subst e1
        rw [upd_same] at hmem
        obtain ⟨h2, h3⟩ := (mem_outE (h.kd j hj) _ _).1 hmem
        exact ⟨(h.ml e).2 ⟨j, hj, hf, h2⟩, fun hh => h3 (by simp only; omega)⟩
      · rw [upd_ne _ e1] at hmem
        exact ⟨(h.ml e).2 ⟨j, hj, hf, hmem⟩, fun hh => e1 (by omega)⟩
/-- A step keeps this (a step without a value aside). -/
theorem KL.step (h : KL fs ns m d l) {s : Pl.LStep} (h0 : 0 ≤ s.file) (h1 : s.file < (m : Int)) (hk : s.kind ≠ 8) {ls : Nat → Int} (hls : ls s.file.toNat = fs s.file.toNat + ns s.file.toNat - 1) : KL fs ns m (Pl.lineD fs ns d s.file.toNat s) (Pl.specL fs ls l s) := by
  obtain ⟨i, hi⟩ : ∃ i : Nat, s.file = (i : Int) := ⟨s.file.toNat, by omega⟩
  have hit : s.file.toNat = i := by omega
  have him : i < m := by omega
  rw [hit] at hls ⊢
  unfold Pl.lineD Pl.specL
  rw [hit, hi]
  by_cases k0 : s.kind = 0
  · rw [if_pos k0, if_pos k0]
    unfold bputE
    by_cases hin : fs i ≤ s.line ∧ s.line < (ns i : Int) + fs i
    · rw [if_pos hin, if_pos (by omega)]
      exact h.put him hin.1 (by omega)
    · rw [if_neg hin, if_neg (by omega)]
      have : upd d i (d i) = d := by funext j; unfold upd; split <;> simp_all
      rw [this]; exact h
  rw [if_neg k0, if_neg k0, if_neg hk]
  by_cases k1 : s.kind = 1
  · rw [if_pos k1, if_pos k1]; exact h.out him _
  rw [if_neg k1, if_neg k1]
  by_cases k5 : s.kind = 5
  · rw [if_pos k5, if_pos k5]; exact KL.start fs ns m
  · rw [if_neg k5, if_neg k5]; exact h
theorem KL.has (h : KL fs ns m d l) {i : Nat} (hi : i < m) (n : Int) : (Pl.findL l i n).isSome = hasB (shE (fs i) (d i)) n := by
  rw [hasB_sh, Bool.eq_iff_iff, hasB_iff]
  constructor
  · intro hs
    obtain ⟨k, hk⟩ := Option.isSome_iff_exists.1 hs
    obtain ⟨e, he, h1, h2⟩ := findL_some hk
    obtain ⟨j, hj, hf, hm⟩ := (h.ml e).1 (List.mem_of_getElem? he)
    obtain rfl : j = i := by omega
    exact ⟨e.val, by rw [← h2]; exact hm⟩
  · rintro ⟨v, hv⟩
    have hm : (⟨i, n, v⟩ : Pl.LnE) ∈ l := (h.ml _).2 ⟨i, hi, rfl, hv⟩
    obtain ⟨k, hk⟩ := findL_mem hm
    simp only at hk
    rw [hk]; rfl
theorem KL.val (h : KL fs ns m d l) {i : Nat} (hi : i < m) (n : Int) : (match Pl.findL l i n with | some k => (l.getD k ⟨0, 0, 0⟩).val | none => 0) = getV (shE (fs i) (d i)) n := by
  have hh := h.has hi n
  cases hf : Pl.findL l i n with
  | none =>
    rw [hf] at hh
    rw [getV_out hh.symm]
  | some k =>
    obtain ⟨e, he, h1, h2⟩ := findL_some hf
    obtain ⟨j, hj, hfe, hm⟩ := (h.ml e).1 (List.mem_of_getElem? he)
    obtain rfl : j = i := by omega
    rw [getV_sh, ← h2, (h.kd j hi).get hm]
    simp only [List.getD_eq_getElem?_getD, he]
    rfl
/-- The lines of the files q. -/
def entT (fs : Nat → Int) (d : Nat → List Pl.Ent) (q : List Nat) : List Pl.LnE := q.flatMap fun i => (d i).map fun e => (⟨(i : Int), e.1 + fs i, e.2⟩ : Pl.LnE)
theorem entT_file (fs : Nat → Int) (d : Nat → List Pl.Ent) (q : List Nat) : (Pl.entF d q).map (· - 1) = (entT fs d q).map (·.file) := by
  unfold Pl.entF entT
  rw [List.map_flatMap, List.map_flatMap]
  congr 1
  funext i
  rw [List.map_map, List.map_map]
  congr 1
  funext e
  simp only [Function.comp]
  omega
theorem entT_line (fs : Nat → Int) (d : Nat → List Pl.Ent) (q : List Nat) : Pl.entL fs d q = (entT fs d q).map (·.line) := by
  unfold Pl.entL entT
  rw [List.map_flatMap]
  congr 1
  funext i
  rw [List.map_map]
  rfl
theorem entT_val (fs : Nat → Int) (d : Nat → List Pl.Ent) (q : List Nat) : Pl.entV d q = (entT fs d q).map (·.val) := by
  unfold Pl.entV entT
  rw [List.map_flatMap]
  congr 1
  funext i
  rw [List.map_map]
  rfl
theorem entT_nl (hk : ∀ i, i < m → Kd (d i)) : ∀ {q : List Nat}, q.Nodup → (∀ i ∈ q, i < m) → Nl (entT fs d q)
  | [], _, _ => List.Pairwise.nil
  | i :: q, hn, hm => by
    have ih := entT_nl hk (q := q) (List.nodup_cons.1 hn).2 (fun j hj => hm j (by simp [hj]))
    have e : entT fs d (i :: q) = ((d i).map fun e => (⟨(i : Int), e.1 + fs i, e.2⟩ : Pl.LnE)) ++ entT fs d q := rfl
    rw [e]
    unfold Nl
    rw [List.pairwise_append]
    refine ⟨?_, ih, fun a ha b hb => ?_⟩
    · rw [List.pairwise_map]
      refine (hk i (hm i (by simp))).imp ?_
      intro a b hab hh
      simp only at hh
      exact hab (by omega)
    · obtain ⟨x, _, rfl⟩ := List.mem_map.1 ha
      unfold entT at hb
      obtain ⟨j, hj, hb⟩ := List.mem_flatMap.1 hb
      obtain ⟨y, _, rfl⟩ := List.mem_map.1 hb
      rintro ⟨h1, _⟩
      simp only at h1
      have : i = j := by omega
      subst this
      exact (List.nodup_cons.1 hn).1 hj
theorem KL.perm (h : KL fs ns m d l) {q : List Nat} (hq : q.Perm (List.range m)) : (entT fs d q).Perm l := by
  have hm : ∀ i, i ∈ q ↔ i < m := fun i => by rw [hq.mem_iff, List.mem_range]
  have h1 : Nl (entT fs d q) := entT_nl h.kd ((hq.nodup_iff).2 List.nodup_range) (fun i hi => (hm i).1 hi)
  have nod : ∀ {l : List Pl.LnE}, Nl l → l.Nodup := fun h => h.imp (fun hab e => hab ⟨by rw [e], by rw [e]⟩)
  refine (List.perm_ext_iff_of_nodup (nod h1) (nod h.nd)).2 (fun e => ?_)
  rw [h.ml e]
  unfold entT
  rw [List.mem_flatMap]
  constructor
  · rintro ⟨i, hi, he⟩
    obtain ⟨x, hx, rfl⟩ := List.mem_map.1 he
    refine ⟨i, (hm i).1 hi, rfl, ?_⟩
    simp only
    rw [show x.1 + fs i - fs i = x.1 by omega]
    exact hx
  · rintro ⟨i, hi, hf, hx⟩
    refine ⟨i, (hm i).2 hi, List.mem_map.2 ⟨_, hx, ?_⟩⟩
    obtain ⟨ef, el, ev⟩ := e
    simp only at hf
    subst hf
    simp
end
/-- What a right answer is, seen from the list. -/
structure AnsP (l : List Pl.LnE) (s : Pl.LStep) (a : Pl.LAns) : Prop where
  ok : a.ok = Pl.specOk l s
  val : a.val = Pl.specVal l s
  files : s.kind ≠ 7 → a.files = [] ∧ a.lines = [] ∧ a.vals = []
  all : s.kind = 7 → ∃ T : List Pl.LnE, T.Perm l ∧ a.files = T.map (·.file) ∧ a.lines = T.map (·.line) ∧ a.vals = T.map (·.val)
theorem KL.ans {fs : Nat → Int} {ns : Nat → Nat} {m : Nat} {d : Nat → List Pl.Ent} {l : List Pl.LnE} (h : KL fs ns m d l) {s : Pl.LStep} (h0 : 0 ≤ s.file) (h1 : s.file < (m : Int)) {a : Pl.LAns} (ha : Pl.lineR fs m d s a) : AnsP l s a := by
  obtain ⟨b, hb, rfl⟩ := ha
  obtain ⟨i, hi⟩ : ∃ i : Nat, s.file = (i : Int) := ⟨s.file.toNat, by omega⟩
  have hit : s.file.toNat = i := by omega
  have him : i < m := by omega
  rw [hit] at hb
  unfold Pl.lineA at hb
  by_cases k2 : s.kind = 2
  · rw [if_pos k2] at hb
    subst hb
    refine ⟨?_, ?_, fun _ => ⟨rfl, rfl, rfl⟩, fun k7 => by omega⟩
    · simp only [Pl.specOk, k2]; rw [hi]; simpa using (h.has him s.line).symm
    · simp [Pl.specVal, k2]
  rw [if_neg k2] at hb
  by_cases k3 : s.kind = 3
  · rw [if_pos k3] at hb
    subst hb
    refine ⟨?_, ?_, fun _ => ⟨rfl, rfl, rfl⟩, fun k7 => by omega⟩
    · simp only [Pl.specOk, k3]; rw [hi]; simpa using (h.has him s.line).symm
    · simp only [Pl.specVal, k3, if_true]; rw [hi]; exact (h.val him s.line).symm
  rw [if_neg k3] at hb
  by_cases k7 : s.kind = 7
  · rw [if_pos k7] at hb
    obtain ⟨q, hq, rfl⟩ := hb
    refine ⟨by simp [Pl.specOk, k7], by simp [Pl.specVal, k7], fun h => absurd k7 h, fun _ => ⟨_, h.perm hq, entT_file fs d q, entT_line fs d q, entT_val fs d q⟩⟩
  · rw [if_neg k7] at hb
    subst hb
    exact ⟨by simp [Pl.specOk, k2, k3, Pl.lans0], by simp [Pl.specVal, k3, Pl.lans0], fun _ => ⟨rfl, rfl, rfl⟩, fun h => absurd h k7⟩
/-- The list behind k steps. -/
def runL (fs ls : Nat → Int) (S : List Pl.LStep) (k : Nat) : List Pl.LnE := (S.take k).foldl (fun l s => Pl.specL fs ls l s) []
theorem runL_succ (fs ls : Nat → Int) {S : List Pl.LStep} {k : Nat} {s : Pl.LStep} (h : S[k]? = some s) : runL fs ls S (k + 1) = Pl.specL fs ls (runL fs ls S k) s := by
  unfold runL
  rw [List.take_add_one, h]
  simp
theorem specL_length (fs ls : Nat → Int) (l : List Pl.LnE) (s : Pl.LStep) : (Pl.specL fs ls l s).length ≤ l.length + 1 := by
  have h1 := Pl.withoutL_length l s.file s.line
  unfold Pl.specL
  split
  · split
    · simp [Pl.putL]; exact h1
    · omega
  · split
    · omega
    · split <;> simp
theorem runL_length (fs ls : Nat → Int) (S : List Pl.LStep) : ∀ k, (runL fs ls S k).length ≤ k
  | 0 => by simp [runL]
  | k + 1 => by
    have ih := runL_length fs ls S k
    cases h : S[k]? with
    | none =>
      have : runL fs ls S (k + 1) = runL fs ls S k := by
        unfold runL
        rw [List.take_add_one, h]
        simp
      rw [this]; omega
    | some s =>
      rw [runL_succ fs ls h]
      have := specL_length fs ls (runL fs ls S k) s
      omega
theorem lsOf_eq {R : List Pl.Ent} (h : RngOk R) {i : Nat} (hi : i < R.length) : lsOf R i = fsOf R i + nsOf R i - 1 := by
  have hm : R.getD i (1, 1) ∈ R := by
    rw [List.getD_eq_getElem?_getD, List.getElem?_eq_getElem hi]
    exact List.getElem_mem hi
  obtain ⟨h1, h2, h3, h4⟩ := h _ hm
  unfold lsOf fsOf nsOf
  omega
/-- Behind k steps the list has what the maps have. -/
theorem run_KL {R : List Pl.Ent} (hR : RngOk R) {S : List Pl.LStep} (hS : ∀ s ∈ S, StepK R.length s ∧ s.kind ≠ 8) : ∀ k, KL (fsOf R) (nsOf R) R.length (Pl.runD (fsOf R) (nsOf R) S k) (runL (fsOf R) (lsOf R) S k)
  | 0 => by rw [Pl.runD_zero]; exact KL.start _ _ _
  | k + 1 => by
    have ih := run_KL hR hS k
    cases h : S[k]? with
    | none =>
      have e1 : runL (fsOf R) (lsOf R) S (k + 1) = runL (fsOf R) (lsOf R) S k := by
        unfold runL
        rw [List.take_add_one, h]
        simp
      have e2 : Pl.runD (fsOf R) (nsOf R) S (k + 1) = Pl.runD (fsOf R) (nsOf R) S k := by
        unfold Pl.runD
        rw [List.take_add_one, h]
        simp
      rw [e1, e2]; exact ih
    | some s =>
      obtain ⟨hs, h8⟩ := hS s (List.mem_of_getElem? h)
      rw [runL_succ _ _ h, Pl.runD_succ _ _ h]
      exact ih.step hs.f0 hs.f1 h8 (lsOf_eq hR (by have := hs.f0; have := hs.f1; omega))
theorem run_ans {R : List Pl.Ent} (hR : RngOk R) {S : List Pl.LStep} (hS : ∀ s ∈ S, StepK R.length s ∧ s.kind ≠ 8) {A : List Pl.LAns} (hA : Pl.Runs (fsOf R) (nsOf R) R.length S A) {k : Nat} {s : Pl.LStep} {a : Pl.LAns} (hs : S[k]? = some s) (ha : A[k]? = some a) : AnsP (runL (fsOf R) (lsOf R) S k) s a := by
  obtain ⟨h1, _⟩ := hS s (List.mem_of_getElem? hs)
  exact (run_KL hR hS k).ans h1.f0 h1.f1 (hA.2 k s a hs ha)
/-- The lines that an answer tells. -/
theorem AnsP.told {l : List Pl.LnE} {s : Pl.LStep} {a : Pl.LAns} (h : AnsP l s a) : ∃ T : List Pl.LnE, a.files = T.map (·.file) ∧ a.lines = T.map (·.line) ∧ a.vals = T.map (·.val) ∧ (s.kind = 7 → T.Perm l) ∧ (s.kind ≠ 7 → T = []) := by
  by_cases k7 : s.kind = 7
  · obtain ⟨T, hT, h1, h2, h3⟩ := h.all k7
    exact ⟨T, h1, h2, h3, fun _ => hT, fun hh => absurd k7 hh⟩
  · obtain ⟨h1, h2, h3⟩ := h.files k7
    exact ⟨[], h1, h2, h3, fun hh => absurd hh k7, fun _ => rfl⟩
/-- Two answers of a right kind tell the same. -/
theorem told_same {l : List Pl.LnE} (hn : Nl l) {s s' : Pl.LStep} (hk : s'.kind = s.kind) {a : Pl.LAns} (h : AnsP l s a) {T' : List Pl.LnE} (h7 : s'.kind = 7 → T'.Perm l) (h0 : s'.kind ≠ 7 → T' = []) : SameQ T' a.files a.lines a.vals := by
  obtain ⟨T, e1, e2, e3, g7, g0⟩ := h.told
  rw [e1, e2, e3]
  by_cases k7 : s.kind = 7
  · have p1 := g7 k7
    have p2 := h7 (by rw [hk]; exact k7)
    refine sameQ_perm (p1.trans p2.symm) ((p2.pairwise_iff ?_).2 hn)
    intro a b hab e
    exact hab ⟨e.1.symm, e.2.symm⟩
  · rw [g0 k7, h0 (by rw [hk]; exact k7)]
    exact sameQ_perm (List.Perm.refl _) List.Pairwise.nil
end Go.Proofs.Ytangceejmjklcaa
