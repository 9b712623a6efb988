/-
  Plain: a dense list of entries and a sparse list of places (from Briggs and Torczon): what adding, setting, taking out do to both. No program in sight.
-/
import Derived.Test.YtangceejmjklcaaPlainSet
namespace Go.Proofs.Ytangceejmjklcaa.Pl

structure SI (n : Nat) (d : List Ent) (sp : List Int) : Prop where
  len : sp.length = n
  nn : ∀ (i : Nat) (s : Int), sp[i]? = some s → 0 ≤ s
  ix : ∀ (j : Nat) (e : Ent), d[j]? = some e → 0 ≤ e.1 ∧ e.1.toNat < n ∧ sp[e.1.toNat]? = some (j : Int)

theorem SI.new (n : Nat) : SI n [] (List.replicate n 0) := ⟨by simp, fun i s h => by
  rw [List.getElem?_replicate] at h; split at h <;> cases h; exact Int.le_refl _, fun j e h => by simp at h⟩

theorem SI.nodup {n : Nat} {d : List Ent} {sp : List Int} (h : SI n d sp) : d.Pairwise (fun a b => a.1 ≠ b.1) := by
  rw [List.pairwise_iff_getElem]
  intro i j hi hj hij e
  have h1 := (h.ix i d[i] (List.getElem?_eq_getElem hi)).2.2
  have h2 := (h.ix j d[j] (List.getElem?_eq_getElem hj)).2.2
  rw [e, h2] at h1
  simp at h1
  omega

theorem bounded_length : ∀ (n : Nat) (l : List Nat), l.Nodup → (∀ x ∈ l, x < n) → l.length ≤ n
  | 0, l, _, h => by
    cases l with
    | nil => simp
    | cons a r => exact absurd (h a (by simp)) (by omega)
  | n + 1, l, hd, h => by
    by_cases hn : n ∈ l
    · have h1 := bounded_length n (l.erase n) (hd.erase n) (fun x hx => by
        have hm := (List.Nodup.mem_erase_iff hd).1 hx
        have := h x hm.2
        have := hm.1
        omega)
      rw [List.length_erase_of_mem hn] at h1
      omega
    · have h1 := bounded_length n l hd (fun x hx => by
        have := h x hx
        have : x ≠ n := fun e => hn (e ▸ hx)
        omega)
      omega

theorem SI.le {n : Nat} {d : List Ent} {sp : List Int} (h : SI n d sp) : d.length ≤ n := by
  have h1 : (d.map (fun e => e.1.toNat)).Nodup := by
    unfold List.Nodup
    rw [List.pairwise_map, List.pairwise_iff_getElem]
    intro i j hi hj hij e
    have a1 := h.ix i d[i] (List.getElem?_eq_getElem hi)
    have a2 := h.ix j d[j] (List.getElem?_eq_getElem hj)
    have h3 := a1.2.2
    rw [e, a2.2.2] at h3
    simp at h3
    omega
  have := bounded_length n _ h1 (fun x hx => by
    obtain ⟨e, he, rfl⟩ := List.mem_map.1 hx
    obtain ⟨i, hi, rfl⟩ := List.getElem_of_mem he
    exact (h.ix i d[i] (List.getElem?_eq_getElem hi)).2.1)
  simpa using this

/-- The look-up: at the place that sparse tells, the key is there, or it is nowhere. -/
theorem SI.find {n : Nat} {d : List Ent} {sp : List Int} (h : SI n d sp) {x : Int} (h0 : 0 ≤ x) (h1 : x < n) :
    ∃ s : Nat, sp[x.toNat]? = some (s : Int) ∧ ((∃ v, d[s]? = some (x, v)) ∨ ((∀ v, (x, v) ∉ d) ∧ (d.length ≤ s ∨ ∃ e, d[s]? = some e ∧ e.1 ≠ x))) := by
  have hl : x.toNat < sp.length := by rw [h.len]; omega
  obtain ⟨s, hs⟩ : ∃ s, sp[x.toNat]? = some s := ⟨_, List.getElem?_eq_getElem hl⟩
  obtain ⟨k, rfl⟩ := Int.eq_ofNat_of_zero_le (h.nn _ _ hs)
  refine ⟨k, hs, ?_⟩
  have hno : (∀ v, d[k]? ≠ some (x, v)) → ∀ v, (x, v) ∉ d := fun hk v hv => by
    obtain ⟨i, hi, hie⟩ := List.getElem_of_mem hv
    have a := h.ix i (x, v) (by rw [List.getElem?_eq_getElem hi, hie])
    rw [hs] at a
    have : k = i := by have := a.2.2; simp at this; omega
    subst this
    exact hk v (by rw [List.getElem?_eq_getElem hi, hie])
  cases hk : d[k]? with
  | none => exact .inr ⟨hno (fun v => by rw [hk]; simp), .inl (by simpa using hk)⟩
  | some e =>
    by_cases he : e.1 = x
    · exact .inl ⟨e.2, by rw [← he]⟩
    · exact .inr ⟨hno (fun v => by rw [hk]; rintro hh; cases hh; exact he rfl), .inr ⟨e, rfl, he⟩⟩

theorem SI.push {n : Nat} {d : List Ent} {sp : List Int} (h : SI n d sp) {x : Int} (h0 : 0 ≤ x) (h1 : x < n) (hno : ∀ v, (x, v) ∉ d) (v : Int) : SI n (d ++ [(x, v)]) (sp.set x.toNat (d.length : Int)) := by
  have hl : x.toNat < sp.length := by rw [h.len]; omega
  refine ⟨by simp [h.len], fun i s hs => ?_, fun j e he => ?_⟩
  · rw [List.getElem?_set] at hs
    split at hs
    · cases hs; omega
    · exact h.nn i s hs
  · rw [List.getElem?_append] at he
    split at he
    · obtain ⟨a, b, c⟩ := h.ix j e he
      refine ⟨a, b, ?_⟩
      have hne : x.toNat ≠ e.1.toNat := fun hh => by
        have : e.1 = x := by omega
        exact hno e.2 (by rw [← this]; exact List.mem_of_getElem? he)
      rw [List.getElem?_set_ne hne]
      exact c
    · have hj : j = d.length := by
        have := (List.getElem?_eq_some_iff.1 he).1
        simp at this
        omega
      subst hj
      simp at he
      subst he
      refine ⟨h0, by show x.toNat < n; omega, ?_⟩
      rw [List.getElem?_set_self hl]

theorem SI.set {n : Nat} {d : List Ent} {sp : List Int} (h : SI n d sp) {i : Nat} {x u : Int} (hi : d[i]? = some (x, u)) (v : Int) : SI n (d.set i (x, v)) sp := by
  refine ⟨h.len, h.nn, fun j e he => ?_⟩
  rw [List.getElem?_set] at he
  split at he
  · rename_i hij
    subst hij
    split at he
    · cases he
      exact h.ix i (x, u) hi
    · cases he
  · exact h.ix j e he

theorem swapOut_length {d : List Ent} {i : Nat} (_hi : i < d.length) : (swapOut d i).length = d.length - 1 := by unfold swapOut; simp
theorem swapOut_get {d : List Ent} {i j : Nat} (hi : i < d.length) (hj : j < d.length - 1) : (swapOut d i)[j]? = if i = j then d[d.length - 1]? else d[j]? := by
  unfold swapOut
  rw [List.getElem?_take, if_pos hj, List.getElem?_set]
  split
  · rename_i hij; subst hij
    rw [List.getD_eq_getElem?_getD, List.getElem?_eq_getElem (show d.length - 1 < d.length by omega)]
    rfl
  · rfl

/-- The last entry y goes to place i. -/
theorem SI.out {n : Nat} {d : List Ent} {sp : List Int} (h : SI n d sp) {i : Nat} (hi : i < d.length) {y : Ent} (hy : d[d.length - 1]? = some y) : SI n (swapOut d i) (sp.set y.1.toNat (i : Int)) := by
  have hyA := h.ix _ y hy
  have hl : y.1.toNat < sp.length := by rw [h.len]; exact hyA.2.1
  refine ⟨by simp [h.len], fun k s hs => ?_, fun j e he => ?_⟩
  · rw [List.getElem?_set] at hs
    split at hs
    · cases hs; omega
    · exact h.nn k s hs
  · have hj : j < d.length - 1 := by
      have := (List.getElem?_eq_some_iff.1 he).1
      rwa [swapOut_length hi] at this
    rw [swapOut_get hi hj] at he
    split at he
    · rename_i hij; subst hij
      rw [hy] at he
      cases he
      exact ⟨hyA.1, hyA.2.1, List.getElem?_set_self hl⟩
    · obtain ⟨a, b, c⟩ := h.ix j e he
      refine ⟨a, b, ?_⟩
      rw [List.getElem?_set_ne]
      · exact c
      · intro hh
        have hc := hyA.2.2
        rw [hh, c] at hc
        simp at hc
        omega

theorem SI.pop {n : Nat} {d : List Ent} {sp : List Int} (h : SI n d sp) (k : Nat) : SI n (d.take k) sp :=
  ⟨h.len, h.nn, fun j e he => h.ix j e (by rw [List.getElem?_take] at he; split at he; exact he; cases he)⟩
theorem SI.zero {n : Nat} {d : List Ent} {sp : List Int} (h : SI n d sp) : SI n [] sp := h.pop 0
end Go.Proofs.Ytangceejmjklcaa.Pl
