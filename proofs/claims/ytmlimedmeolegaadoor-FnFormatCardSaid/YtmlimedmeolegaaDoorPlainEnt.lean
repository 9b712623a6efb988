/-
  Plain lists of entries (key, value) in the order of their keys: what the reference's Place, Put, Without, Get, Sorted and Same compute. No program in sight.
-/
namespace Go.Proofs.YtmlimedmeolegaaDoor.Pl

abbrev Ent := Int × Int

def place (l : List Ent) (k : Int) : Nat := (l.takeWhile (fun e => decide (e.1 < k))).length
def there (l : List Ent) (k : Int) : Bool := match l[place l k]? with | some e => decide (e.1 = k) | none => false
def put (l : List Ent) (k v : Int) : List Ent := l.take (place l k) ++ (k, v) :: l.drop (place l k + (if there l k then 1 else 0))
def without (l : List Ent) (k : Int) : List Ent := l.filter (fun e => decide (e.1 ≠ k))
def valOf (l : List Ent) (k : Int) : Int := if there l k then (l[place l k]?.getD (0, 0)).2 else 0

/-- What Sorted answers: none where a key comes twice. -/
def sortedFrom : List Ent → List Ent → Option (List Ent)
  | acc, [] => some acc
  | acc, e :: r => if there acc e.1 then none else sortedFrom (put acc e.1 e.2) r

/-- In the order of the keys, no key twice. -/
def Srt (l : List Ent) : Prop := l.Pairwise (fun a b => a.1 < b.1)

theorem Srt.nil : Srt [] := List.Pairwise.nil

theorem place_le (l : List Ent) (k : Int) : place l k ≤ l.length := by
  unfold place; exact (List.takeWhile_sublist _).length_le

/-- Ahead of the place all keys are smaller. -/
theorem place_lt (l : List Ent) (k : Int) (i : Nat) (h : i < place l k) : ∃ e, l[i]? = some e ∧ e.1 < k := by
  unfold place at h
  induction l generalizing i with
  | nil => simp at h
  | cons a r ih =>
    simp only [List.takeWhile_cons] at h
    by_cases ha : a.1 < k
    · simp [ha] at h
      cases i with
      | zero => exact ⟨a, rfl, ha⟩
      | succ i => simpa using ih i (by omega)
    · simp [ha] at h

theorem place_at (l : List Ent) (k : Int) (e : Ent) (h : l[place l k]? = some e) : ¬ e.1 < k := by
  unfold place at h
  induction l with
  | nil => simp at h
  | cons a r ih =>
    simp only [List.takeWhile_cons] at h
    by_cases ha : a.1 < k
    · simp [ha] at h; exact ih h
    · simp [ha] at h; subst h; exact ha

/-- The place is where the loop stops: it is told by what lies ahead and what stands there. -/
theorem place_eq (l : List Ent) (k : Int) (n : Nat) (h1 : ∀ i, i < n → ∃ e, l[i]? = some e ∧ e.1 < k) (h2 : ∀ e, l[n]? = some e → ¬ e.1 < k) : place l k = n := by
  rcases Nat.lt_trichotomy (place l k) n with h | h | h
  · obtain ⟨e, he, hlt⟩ := h1 _ h
    exact absurd hlt (place_at l k e he)
  · exact h
  · obtain ⟨e, he, hlt⟩ := place_lt l k n h
    exact absurd hlt (h2 e he)

theorem there_iff {l : List Ent} (hs : Srt l) (k : Int) : there l k = true ↔ ∃ v, (k, v) ∈ l := by
  unfold there
  constructor
  · intro h
    cases he : l[place l k]? with
    | none => rw [he] at h; cases h
    | some e =>
      rw [he] at h
      have hk : e.1 = k := by simpa using h
      exact ⟨e.2, by rw [← hk]; exact List.mem_of_getElem? he⟩
  · rintro ⟨v, hv⟩
    obtain ⟨i, hi, hie⟩ := List.getElem_of_mem hv
    have hp : place l k = i := by
      refine place_eq l k i (fun j hj => ?_) (fun e he => ?_)
      · refine ⟨l[j], List.getElem?_eq_getElem (by omega), ?_⟩
        have := List.pairwise_iff_getElem.1 hs j i (by omega) hi hj
        rw [hie] at this
        exact this
      · rw [List.getElem?_eq_getElem hi, hie] at he
        cases he
        simp
    rw [hp, List.getElem?_eq_getElem hi, hie]
    simp

theorem not_there {l : List Ent} (hs : Srt l) {k : Int} (h : there l k = false) : ∀ v, (k, v) ∉ l := by
  intro v hv
  rw [(there_iff hs k).2 ⟨v, hv⟩] at h
  cases h

theorem srt_unique {l : List Ent} (hs : Srt l) {a b : Ent} (ha : a ∈ l) (hb : b ∈ l) (h : a.1 = b.1) : a = b := by
  obtain ⟨i, hi, rfl⟩ := List.getElem_of_mem ha
  obtain ⟨j, hj, rfl⟩ := List.getElem_of_mem hb
  rcases Nat.lt_trichotomy i j with hij | hij | hij
  · have := List.pairwise_iff_getElem.1 hs i j hi hj hij; omega
  · subst hij; rfl
  · have := List.pairwise_iff_getElem.1 hs j i hj hi hij; omega

theorem take_place_lt (l : List Ent) (k : Int) : ∀ e ∈ l.take (place l k), e.1 < k := by
  intro e he
  obtain ⟨i, hi, rfl⟩ := List.getElem_of_mem he
  have hi' : i < place l k := by simp at hi; omega
  obtain ⟨e', he', hlt⟩ := place_lt l k i hi'
  have hil : i < l.length := by simp at hi; omega
  rw [List.getElem?_eq_getElem hil] at he'
  cases he'
  simpa using hlt

theorem drop_place_ge {l : List Ent} (hs : Srt l) (k : Int) : ∀ e ∈ l.drop (place l k + (if there l k then 1 else 0)), k < e.1 := by
  intro e he
  obtain ⟨i, hi, rfl⟩ := List.getElem_of_mem he
  simp only [List.getElem_drop]
  simp only [List.length_drop] at hi
  have hpl : place l k < l.length := by omega
  have hat := place_at l k l[place l k] (List.getElem?_eq_getElem hpl)
  by_cases ht : there l k = true
  · simp only [ht, if_true] at hi ⊢
    have hk : l[place l k].1 = k := by
      unfold there at ht
      rw [List.getElem?_eq_getElem hpl] at ht
      simpa using ht
    have := List.pairwise_iff_getElem.1 hs (place l k) (place l k + 1 + i) hpl (by omega) (by omega)
    omega
  · have hf : there l k = false := by simpa using ht
    simp only [hf] at hi ⊢
    have hk : l[place l k].1 ≠ k := by
      unfold there at hf
      rw [List.getElem?_eq_getElem hpl] at hf
      simpa using hf
    cases i with
    | zero => simp; omega
    | succ i =>
      have := List.pairwise_iff_getElem.1 hs (place l k) (place l k + 0 + (i + 1)) hpl (by simp at hi ⊢; omega) (by omega)
      simp at this ⊢
      omega

theorem put_srt {l : List Ent} (hs : Srt l) (k v : Int) : Srt (put l k v) := by
  unfold put Srt
  rw [List.pairwise_append]
  refine ⟨hs.sublist (List.take_sublist _ _), ?_, ?_⟩
  · rw [List.pairwise_cons]
    exact ⟨fun e he => drop_place_ge hs k e he, hs.sublist (List.drop_sublist _ _)⟩
  · intro a ha b hb
    have h1 := take_place_lt l k a ha
    rcases List.mem_cons.1 hb with rfl | hb
    · exact h1
    · have := drop_place_ge hs k b hb
      omega

theorem without_srt {l : List Ent} (hs : Srt l) (k : Int) : Srt (without l k) := hs.sublist List.filter_sublist

theorem mem_without {l : List Ent} {k : Int} {e : Ent} : e ∈ without l k ↔ e ∈ l ∧ e.1 ≠ k := by simp [without]

theorem mem_put {l : List Ent} (hs : Srt l) {k v : Int} {e : Ent} : e ∈ put l k v ↔ e = (k, v) ∨ (e ∈ l ∧ e.1 ≠ k) := by
  unfold put
  simp only [List.mem_append, List.mem_cons]
  constructor
  · rintro (h | h | h)
    · exact .inr ⟨List.mem_of_mem_take h, by have := take_place_lt l k e h; omega⟩
    · exact .inl h
    · exact .inr ⟨List.mem_of_mem_drop h, by have := drop_place_ge hs k e h; omega⟩
  · rintro (h | ⟨h, hk⟩)
    · exact .inr (.inl h)
    · obtain ⟨i, hi, rfl⟩ := List.getElem_of_mem h
      by_cases hlt : i < place l k
      · refine .inl ?_
        have : l[i] = (l.take (place l k))[i]'(by simp; omega) := by simp
        rw [this]; exact List.getElem_mem _
      · refine .inr (.inr ?_)
        have hge : place l k + (if there l k then 1 else 0) ≤ i := by
          by_cases ht : there l k = true
          · simp only [ht, if_true]
            rcases Nat.lt_or_ge (place l k) i with h' | h'
            · omega
            · have hpi : place l k = i := by omega
              exfalso
              unfold there at ht
              rw [hpi, List.getElem?_eq_getElem hi] at ht
              exact hk (by simpa using ht)
          · simp [ht]; omega
        have : l[i] = (l.drop (place l k + (if there l k then 1 else 0)))[i - (place l k + (if there l k then 1 else 0))]'(by simp; omega) := by
          simp only [List.getElem_drop]; congr 1; omega
        rw [this]; exact List.getElem_mem _

/-- Two lists in order with the same entries are one. -/
theorem srt_ext : ∀ {a b : List Ent}, Srt a → Srt b → (∀ e, e ∈ a ↔ e ∈ b) → a = b
  | [], [], _, _, _ => rfl
  | [], y :: _, _, _, h => by have := (h y).2 (by simp); cases this
  | x :: _, [], _, _, h => by have := (h x).1 (by simp); cases this
  | x :: r, y :: s, ha, hb, h => by
    obtain ⟨ha1, ha2⟩ := List.pairwise_cons.1 ha
    obtain ⟨hb1, hb2⟩ := List.pairwise_cons.1 hb
    have hxy : x = y := by
      rcases List.mem_cons.1 ((h x).1 (by simp)) with e | hx
      · exact e
      · rcases List.mem_cons.1 ((h y).2 (by simp)) with e | hy
        · exact e.symm
        · have h1 := ha1 y hy
          have h2 := hb1 x hx
          omega
    subst hxy
    congr 1
    refine srt_ext ha2 hb2 (fun e => ?_)
    constructor
    · intro he
      rcases List.mem_cons.1 ((h e).1 (by simp [he])) with rfl | h'
      · have := ha1 e he; omega
      · exact h'
    · intro he
      rcases List.mem_cons.1 ((h e).2 (by simp [he])) with rfl | h'
      · have := hb1 e he; omega
      · exact h'

theorem valOf_mem {l : List Ent} (hs : Srt l) {k v : Int} (h : (k, v) ∈ l) : there l k = true ∧ valOf l k = v := by
  have ht : there l k = true := (there_iff hs k).2 ⟨v, h⟩
  refine ⟨ht, ?_⟩
  unfold valOf
  rw [if_pos ht]
  have ht' := ht
  unfold there at ht'
  cases he : l[place l k]? with
  | none => rw [he] at ht'; cases ht'
  | some e =>
    rw [he] at ht'
    have hk : e.1 = k := by simpa using ht'
    have := srt_unique hs (List.mem_of_getElem? he) h hk
    subst this
    rfl

theorem valOf_not {l : List Ent} {k : Int} (h : there l k = false) : valOf l k = 0 := by simp [valOf, h]

/-- Sorted succeeds just if no key comes twice, and gives the entries in order. -/
theorem sortedFrom_some : ∀ (d acc : List Ent), Srt acc → (∀ e ∈ d, there acc e.1 = false) → d.Pairwise (fun a b => a.1 ≠ b.1) →
    ∃ l, sortedFrom acc d = some l ∧ Srt l ∧ ∀ e, e ∈ l ↔ e ∈ acc ∨ e ∈ d
  | [], acc, hs, _, _ => ⟨acc, rfl, hs, by simp⟩
  | x :: r, acc, hs, hd, hn => by
    obtain ⟨hn1, hn2⟩ := List.pairwise_cons.1 hn
    have hx := hd x (by simp)
    have hs' := put_srt hs x.1 x.2
    have hd' : ∀ e ∈ r, there (put acc x.1 x.2) e.1 = false := by
      intro e he
      cases hh : there (put acc x.1 x.2) e.1
      · rfl
      · obtain ⟨v, hv⟩ := (there_iff hs' e.1).1 hh
        rcases (mem_put hs).1 hv with h1 | ⟨h1, _⟩
        · exact absurd (congrArg Prod.fst h1).symm (hn1 e he)
        · have := not_there hs (hd e (by simp [he])) v
          exact absurd h1 this
    obtain ⟨l, hl, hls, hm⟩ := sortedFrom_some r (put acc x.1 x.2) hs' hd' hn2
    refine ⟨l, ?_, hls, fun e => ?_⟩
    · unfold sortedFrom; rw [hx]; exact hl
    · rw [hm e, mem_put hs]
      constructor
      · rintro ((h | ⟨h, _⟩) | h)
        · exact .inr (by simp [h])
        · exact .inl h
        · exact .inr (by simp [h])
      · rintro (h | h)
        · refine .inl (.inr ⟨h, fun hk => ?_⟩)
          exact absurd h (by have := not_there hs hx e.2; rw [← hk] at this; exact this)
        · rcases List.mem_cons.1 h with h | h
          · exact .inl (.inl h)
          · exact .inr h

/-- A list of entries that a map keeps in whatever order, and the list in order, are one set of entries. -/
structure Rep (l d : List Ent) : Prop where
  srt : Srt l
  nodup : d.Pairwise (fun a b => a.1 ≠ b.1)
  mem : ∀ e, e ∈ l ↔ e ∈ d

theorem Rep.nil : Rep [] [] := ⟨Srt.nil, List.Pairwise.nil, by simp⟩

theorem Rep.sorted {l d : List Ent} (h : Rep l d) : sortedFrom [] d = some l := by
  obtain ⟨l', h1, h2, h3⟩ := sortedFrom_some d [] Srt.nil (by intro e _; rfl) h.nodup
  rw [h1]
  congr 1
  exact srt_ext h2 h.srt (fun e => by rw [h3 e, h.mem e]; simp)

theorem Srt.keys_ne {l : List Ent} (hs : Srt l) : l.Pairwise (fun a b => a.1 ≠ b.1) := hs.imp (by intro a b h; omega)

theorem nodup_of_keys {d : List Ent} (h : d.Pairwise (fun a b => a.1 ≠ b.1)) : d.Nodup := h.imp (by intro a b h e; exact h (by rw [e]))

theorem Rep.length {l d : List Ent} (h : Rep l d) : l.length = d.length := by
  have h1 : l.Nodup := nodup_of_keys h.srt.keys_ne
  have h2 : d.Nodup := nodup_of_keys h.nodup
  exact ((List.perm_ext_iff_of_nodup h1 h2).2 h.mem).length_eq

theorem Rep.there {l d : List Ent} (h : Rep l d) (k : Int) : there l k = true ↔ ∃ v, (k, v) ∈ d := by
  rw [there_iff h.srt]
  constructor <;> rintro ⟨v, hv⟩
  · exact ⟨v, (h.mem _).1 hv⟩
  · exact ⟨v, (h.mem _).2 hv⟩

theorem Rep.not_there {l d : List Ent} (h : Rep l d) {k : Int} (hk : ∀ v, (k, v) ∉ d) : Pl.there l k = false := by
  cases ht : Pl.there l k
  · rfl
  · obtain ⟨v, hv⟩ := (h.there k).1 ht
    exact absurd hv (hk v)

theorem Rep.valOf {l d : List Ent} (h : Rep l d) {k v : Int} (hv : (k, v) ∈ d) : valOf l k = v := (valOf_mem h.srt ((h.mem _).2 hv)).2

/-- A new key behind all others. -/
theorem Rep.push {l d : List Ent} (h : Rep l d) {k v : Int} (hk : ∀ u, (k, u) ∉ d) : Rep (put l k v) (d ++ [(k, v)]) := by
  refine ⟨put_srt h.srt k v, ?_, fun e => ?_⟩
  · rw [List.pairwise_append]
    refine ⟨h.nodup, by simp, fun a ha b hb => ?_⟩
    simp at hb; subst hb
    intro e
    have e' : a.1 = k := e
    exact hk a.2 (by rw [← e']; exact ha)
  · rw [mem_put h.srt]
    simp only [List.mem_append, List.mem_singleton]
    constructor
    · rintro (h1 | ⟨h1, _⟩)
      · exact .inr h1
      · exact .inl ((h.mem e).1 h1)
    · rintro (h1 | h1)
      · refine .inr ⟨(h.mem e).2 h1, fun hk' => hk e.2 (by rw [← hk']; exact h1)⟩
      · exact .inl h1

/-- Another value for the key in place i. -/
theorem Rep.set {l d : List Ent} (h : Rep l d) {k v u : Int} {i : Nat} (hi : d[i]? = some (k, u)) : Rep (put l k v) (d.set i (k, v)) := by
  obtain ⟨hil, hie⟩ := List.getElem?_eq_some_iff.1 hi
  have hnd := List.pairwise_iff_getElem.1 h.nodup
  refine ⟨put_srt h.srt k v, ?_, fun e => ?_⟩
  · rw [List.pairwise_iff_getElem]
    intro a b ha hb hab
    simp only [List.length_set] at ha hb
    simp only [List.getElem_set]
    have h0 := hnd a b ha hb hab
    split
    · rename_i e; subst e
      split
      · omega
      · rw [hie] at h0; exact h0
    · split
      · rename_i e; subst e; rw [hie] at h0; exact h0
      · exact h0
  · rw [mem_put h.srt, h.mem]
    constructor
    · rintro (h1 | ⟨h1, hk⟩)
      · subst h1
        exact List.mem_set hil (k, v)
      · obtain ⟨j, hj, rfl⟩ := List.getElem_of_mem h1
        have hne : i ≠ j := by rintro rfl; rw [hie] at hk; exact hk rfl
        have : (d.set i (k, v))[j]'(by simpa using hj) = d[j] := by simp [hne]
        rw [← this]; exact List.getElem_mem _
    · intro h1
      obtain ⟨j, hj, rfl⟩ := List.getElem_of_mem h1
      simp only [List.length_set] at hj
      rw [List.getElem_set]
      split
      · exact .inl rfl
      · rename_i hne
        refine .inr ⟨List.getElem_mem _, fun hk => ?_⟩
        rcases Nat.lt_or_ge i j with hij | hij
        · have := hnd i j hil hj hij; rw [hie] at this; exact this hk.symm
        · have := hnd j i hj hil (by omega); rw [hie] at this; exact this hk

/-- The last entry goes to place i, which is taken out. -/
def swapOut (d : List Ent) (i : Nat) : List Ent := (d.set i (d.getD (d.length - 1) (0, 0))).take (d.length - 1)

theorem mem_swapOut {d : List Ent} (hn : d.Pairwise (fun a b => a.1 ≠ b.1)) {i : Nat} (hi : i < d.length) (e : Ent) : e ∈ swapOut d i ↔ e ∈ d ∧ e.1 ≠ d[i].1 := by
  have hnd := List.pairwise_iff_getElem.1 hn
  have hne : ∀ a b (ha : a < d.length) (hb : b < d.length), a ≠ b → d[a].1 ≠ d[b].1 := by
    intro a b ha hb hab
    rcases Nat.lt_or_ge a b with h | h
    · exact hnd a b ha hb h
    · exact (hnd b a hb ha (by omega)).symm
  have hlast : d.getD (d.length - 1) (0, 0) = d[d.length - 1]'(by omega) := by
    rw [List.getD_eq_getElem?_getD, List.getElem?_eq_getElem (by omega)]; rfl
  unfold swapOut
  rw [hlast]
  constructor
  · intro h
    obtain ⟨j, hj, rfl⟩ := List.getElem_of_mem h
    simp only [List.length_take, List.length_set] at hj
    rw [List.getElem_take, List.getElem_set]
    split
    · rename_i e; subst e
      exact ⟨List.getElem_mem _, hne _ _ _ _ (by omega)⟩
    · exact ⟨List.getElem_mem _, hne _ _ _ _ (by omega)⟩
  · rintro ⟨h, hk⟩
    obtain ⟨j, hj, rfl⟩ := List.getElem_of_mem h
    have hji : j ≠ i := by rintro rfl; exact hk rfl
    by_cases hjl : j = d.length - 1
    · subst hjl
      refine List.mem_iff_getElem.2 ⟨i, by simp; omega, by simp⟩
    · have : ((d.set i (d[d.length - 1]'(by omega))).take (d.length - 1))[j]'(by simp; omega) = d[j] := by
        simp [Ne.symm hji]
      rw [← this]; exact List.getElem_mem _

theorem swapOut_nodup {d : List Ent} (hn : d.Pairwise (fun a b => a.1 ≠ b.1)) {i : Nat} (hi : i < d.length) : (swapOut d i).Pairwise (fun a b => a.1 ≠ b.1) := by
  have hnd := List.pairwise_iff_getElem.1 hn
  have hne : ∀ a b (ha : a < d.length) (hb : b < d.length), a ≠ b → d[a].1 ≠ d[b].1 := by
    intro a b ha hb hab
    rcases Nat.lt_or_ge a b with h | h
    · exact hnd a b ha hb h
    · exact (hnd b a hb ha (by omega)).symm
  have hlast : d.getD (d.length - 1) (0, 0) = d[d.length - 1]'(by omega) := by
    rw [List.getD_eq_getElem?_getD, List.getElem?_eq_getElem (by omega)]; rfl
  unfold swapOut
  rw [hlast, List.pairwise_iff_getElem]
  intro a b ha hb hab
  simp only [List.length_take, List.length_set] at ha hb
  simp only [List.getElem_take, List.getElem_set]
  split
  · split
    · omega
    · exact hne _ _ _ _ (by omega)
  · split
    · exact hne _ _ _ _ (by omega)
    · exact hne _ _ _ _ (by omega)

theorem Rep.out {l d : List Ent} (h : Rep l d) {i : Nat} (hi : i < d.length) : Rep (without l (d[i]).1) (swapOut d i) :=
  ⟨without_srt h.srt _, swapOut_nodup h.nodup hi, fun e => by rw [mem_without, h.mem, mem_swapOut h.nodup hi]⟩

/-- A key that is not there goes without a trace. -/
theorem Rep.stays {l d : List Ent} (h : Rep l d) {k : Int} (hk : ∀ v, (k, v) ∉ d) : without l k = l := by
  unfold without
  rw [List.filter_eq_self]
  intro e he
  simp only [decide_eq_true_eq]
  rintro rfl
  exact hk e.2 ((h.mem e).1 he)

/-- Put at a key that is there with this value changes nothing. -/
theorem put_same {l : List Ent} (hs : Srt l) {k v : Int} (h : (k, v) ∈ l) : put l k v = l :=
  srt_ext (put_srt hs k v) hs (fun e => by
    rw [mem_put hs]
    constructor
    · rintro (rfl | ⟨h1, _⟩)
      · exact h
      · exact h1
    · intro he
      by_cases hk : e.1 = k
      · exact .inl (srt_unique hs he h hk)
      · exact .inr ⟨he, hk⟩)

end Go.Proofs.YtmlimedmeolegaaDoor.Pl
