/- impl.Lines: its steps and answers in memory; what its second loop keeps. -/
import Derived.Test.YtangceejmjklcaaLn11
namespace Go.Proofs.Ytangceejmjklcaa
open Go.RowKit Go.BigFrame

/-- The slice with address a and n elements reads as the steps S. -/
def LSt (w : World) (a : Option Addr) (n : Nat) (S : List Pl.LStep) : Prop :=
  S.length = n ∧ (0 < n → ∃ b o, a = some ⟨b, o, none⟩ ∧ ∀ i s, S[i]? = some s → w.cell? ⟨b, o + i * 5, none⟩ = some (.int .i64 s.kind) ∧ w.cell? ⟨b, o + i * 5 + 1, none⟩ = some (.int .i64 s.file) ∧ w.cell? ⟨b, o + i * 5 + 2, none⟩ = some (.int .i64 s.line) ∧ w.cell? ⟨b, o + i * 5 + 3, none⟩ = some (.int .i64 s.col) ∧ w.cell? ⟨b, o + i * 5 + 4, none⟩ = some (.int .i64 s.val))
theorem LSt.bel {w w' : World} {a : Option Addr} {n : Nat} {S : List Pl.LStep} (h : LSt w a n S) (hb : Bel w w') : LSt w' a n S :=
  ⟨h.1, fun hn => by
    obtain ⟨b, o, ha, hc⟩ := h.2 hn
    exact ⟨b, o, ha, fun i s hs => by
      obtain ⟨c0, c1, c2, c3, c4⟩ := hc i s hs
      exact ⟨hb.cell c0, hb.cell c1, hb.cell c2, hb.cell c3, hb.cell c4⟩⟩⟩
/-- A slice value reads as the numbers l. -/
def IntR (w : World) (v : Value) (l : List Int) : Prop :=
  ∃ a c, v = .slice a l.length c ∧ l.length ≤ c ∧ c ≤ 9223372036854775807 ∧ (0 < l.length → ∃ b o, a = some ⟨b, o, none⟩ ∧ ∀ i x, l[i]? = some x → w.cell? ⟨b, o + i, none⟩ = some (.int .i64 x))
theorem IntR.bel {w w' : World} {v : Value} {l : List Int} (h : IntR w v l) (hb : Bel w w') : IntR w' v l := by
  obtain ⟨a, c, h1, h2, h3, h4⟩ := h
  exact ⟨a, c, h1, h2, h3, fun h0 => by
    obtain ⟨b, o, ha, hc⟩ := h4 h0
    exact ⟨b, o, ha, fun i x hx => hb.cell (hc i x hx)⟩⟩
theorem IntR.own {w : World} {B n : Nat} {e : TypeId} {v : Value} {l : List Int} (h : w.ownsRow B e 1 v n (l.map (Value.int .i64))) : IntR w v l := by
  obtain ⟨a, c, rfl, h1, h2, h3⟩ := own_form h
  have hl : l.length = n := by have := h.1; simpa using this
  subst hl
  refine ⟨a, c, rfl, h1, h2, fun h0 => ?_⟩
  obtain ⟨g, rfl, hg⟩ := h3 h0
  exact ⟨g, 0, rfl, fun i x hx => by
    have := hg i (.int .i64 x) (by rw [List.getElem?_map, hx]; rfl)
    simpa using this⟩
/-- A slice value reads as the answers A. -/
def LAnS (w : World) (v : Value) (A : List Pl.LAns) : Prop :=
  ∃ a c, v = .slice a A.length c ∧ A.length ≤ c ∧ c ≤ 9223372036854775807 ∧ (0 < A.length → ∃ b, a = some ⟨b, 0, none⟩ ∧ ∀ i x, A[i]? = some x → ∃ u1 u2 u3, w.cell? ⟨b, i * 5, none⟩ = some (.bool x.ok) ∧ w.cell? ⟨b, i * 5 + 1, none⟩ = some (.int .i64 x.val) ∧
    w.cell? ⟨b, i * 5 + 2, none⟩ = some u1 ∧ w.cell? ⟨b, i * 5 + 3, none⟩ = some u2 ∧ w.cell? ⟨b, i * 5 + 4, none⟩ = some u3 ∧ IntR w u1 x.files ∧ IntR w u2 x.lines ∧ IntR w u3 x.vals)
theorem LAnS.bel {w w' : World} {v : Value} {A : List Pl.LAns} (h : LAnS w v A) (hb : Bel w w') : LAnS w' v A := by
  obtain ⟨a, c, h1, h2, h3, h4⟩ := h
  exact ⟨a, c, h1, h2, h3, fun h0 => by
    obtain ⟨b, ha, hc⟩ := h4 h0
    exact ⟨b, ha, fun i x hx => by
      obtain ⟨u1, u2, u3, c0, c1, c2, c3, c4, i1, i2, i3⟩ := hc i x hx
      exact ⟨u1, u2, u3, hb.cell c0, hb.cell c1, hb.cell c2, hb.cell c3, hb.cell c4, i1.bel hb, i2.bel hb, i3.bel hb⟩⟩⟩

namespace Pl
/-- The maps behind k steps. -/
def runD (fs : Nat → Int) (ns : Nat → Nat) (S : List LStep) (k : Nat) : Nat → List Ent := (S.take k).foldl (fun d s => lineD fs ns d s.file.toNat s) (fun _ => [])
theorem runD_zero (fs : Nat → Int) (ns : Nat → Nat) (S : List LStep) : runD fs ns S 0 = fun _ => [] := by simp [runD]
theorem runD_succ (fs : Nat → Int) (ns : Nat → Nat) {S : List LStep} {k : Nat} {s : LStep} (h : S[k]? = some s) : runD fs ns S (k + 1) = lineD fs ns (runD fs ns S k) s.file.toNat s := by
  unfold runD
  rw [List.take_add_one, h]
  simp
/-- What is answered, the files told from 0 on. -/
def lineR (fs : Nat → Int) (m : Nat) (d : Nat → List Ent) (s : LStep) (a : LAns) : Prop := ∃ b, lineA fs m d s.file.toNat s b ∧ a = { b with files := b.files.map (· - 1) }
def Runs (fs : Nat → Int) (ns : Nat → Nat) (m : Nat) (S : List LStep) (A : List LAns) : Prop :=
  A.length = S.length ∧ ∀ k s a, S[k]? = some s → A[k]? = some a → lineR fs m (runD fs ns S k) s a
theorem lineD_congr {fs fs' : Nat → Int} {ns ns' : Nat → Nat} {d : Nat → List Ent} {i : Nat} {s : LStep} (h1 : fs i = fs' i) (h2 : ns i = ns' i) : lineD fs ns d i s = lineD fs' ns' d i s := by
  unfold lineD
  rw [h1, h2]
theorem entL_congr {fs fs' : Nat → Int} {d : Nat → List Ent} : ∀ {q : List Nat}, (∀ i ∈ q, fs i = fs' i) → entL fs d q = entL fs' d q
  | [], _ => rfl
  | i :: q, h => by
    have ih := entL_congr (d := d) (q := q) (fun j hj => h j (by simp [hj]))
    unfold entL at ih ⊢
    rw [List.flatMap_cons, List.flatMap_cons, ih, h i (by simp)]
theorem lineA_congr {fs fs' : Nat → Int} {m : Nat} {d : Nat → List Ent} {i : Nat} {s : LStep} {a : LAns} (hi : i < m) (h : ∀ j, j < m → fs j = fs' j) (ha : lineA fs m d i s a) : lineA fs' m d i s a := by
  unfold lineA at ha ⊢
  rw [← h i hi]
  split
  · rename_i h2; simpa [h2] using ha
  · rename_i h2
    rw [if_neg h2] at ha
    split
    · rename_i h3; simpa [h3] using ha
    · rename_i h3
      rw [if_neg h3] at ha
      split
      · rename_i h7
        rw [if_pos h7] at ha
        obtain ⟨q, hq, rfl⟩ := ha
        exact ⟨q, hq, by rw [entL_congr (fun j hj => h j (List.mem_range.1 (hq.mem_iff.1 hj)))]⟩
      · rename_i h7
        rwa [if_neg h7] at ha
theorem entF_mem {d : Nat → List Ent} {q : List Nat} {f : Int} (h : f ∈ entF d q) : ∃ i ∈ q, f = (i : Int) + 1 := by
  unfold entF at h
  obtain ⟨i, hi, hf⟩ := List.mem_flatMap.1 h
  obtain ⟨e, _, rfl⟩ := List.mem_map.1 hf
  exact ⟨i, hi, rfl⟩
theorem entF_length {d : Nat → List Ent} {M : Nat} : ∀ {q : List Nat}, (∀ i ∈ q, (d i).length ≤ M) → (entF d q).length ≤ q.length * M
  | [], _ => by simp [entF]
  | i :: q, h => by
    have ih := entF_length (d := d) (q := q) (fun j hj => h j (by simp [hj]))
    have h1 := h i (by simp)
    unfold entF at ih ⊢
    rw [List.flatMap_cons, List.length_append, List.length_map, List.length_cons, Nat.add_mul, Nat.one_mul]
    omega
theorem lineA_files {fs : Nat → Int} {m : Nat} {d : Nat → List Ent} {i : Nat} {s : LStep} {a : LAns} (ha : lineA fs m d i s a) (hd : ∀ j, j < m → (d j).length ≤ 1000000) : (∀ f ∈ a.files, 1 ≤ f ∧ f ≤ (m : Int)) ∧ a.files.length ≤ m * 1000000 := by
  unfold lineA at ha
  split at ha
  · subst ha; simp
  · split at ha
    · subst ha; simp
    · split at ha
      · obtain ⟨q, hq, rfl⟩ := ha
        refine ⟨fun f hf => ?_, ?_⟩
        · obtain ⟨i, hi, rfl⟩ := entF_mem hf
          have := List.mem_range.1 (hq.mem_iff.1 hi)
          omega
        · have h1 := entF_length (d := d) (M := 1000000) (q := q) (fun i hi => hd i (List.mem_range.1 (hq.mem_iff.1 hi)))
          have h2 := hq.length_eq
          rw [List.length_range] at h2
          rw [h2] at h1
          exact h1
      · subst ha; simp [lans0]
end Pl
abbrev LA3 : Type := Pl.LAns × (Value × Value × Value)
def ansCell (p : LA3) : List Value := [.bool p.1.ok, .int .i64 p.1.val, p.2.1, p.2.2.1, p.2.2.2]
def ansCells (L : List LA3) : List Value := L.flatMap ansCell
theorem ansCells_snoc (L : List LA3) (p : LA3) : ansCells (L ++ [p]) = ansCells L ++ ansCell p := by simp [ansCells]
theorem ansCells_length (L : List LA3) : (ansCells L).length = L.length * 5 := by
  induction L with
  | nil => rfl
  | cons a r ih => simp only [ansCells, ansCell, List.flatMap_cons, List.length_append, List.length_cons, List.length_nil] at ih ⊢; omega
theorem ansCells_at : ∀ (L : List LA3) (i : Nat) (p : LA3), L[i]? = some p → (ansCells L)[i * 5]? = some (.bool p.1.ok) ∧ (ansCells L)[i * 5 + 1]? = some (.int .i64 p.1.val) ∧ (ansCells L)[i * 5 + 2]? = some p.2.1 ∧ (ansCells L)[i * 5 + 3]? = some p.2.2.1 ∧ (ansCells L)[i * 5 + 4]? = some p.2.2.2
  | [], i, p, h => by simp at h
  | a :: r, 0, p, h => by simp at h; subst h; simp [ansCells, ansCell]
  | a :: r, i + 1, p, h => by
    have := ansCells_at r i p (by simpa using h)
    have e1 : ansCells (a :: r) = .bool a.1.ok :: .int .i64 a.1.val :: a.2.1 :: a.2.2.1 :: a.2.2.2 :: ansCells r := rfl
    rw [e1, show (i + 1) * 5 = i * 5 + 1 + 1 + 1 + 1 + 1 by omega, show i * 5 + 1 + 1 + 1 + 1 + 1 + 1 = (i * 5 + 1) + 1 + 1 + 1 + 1 + 1 by omega, show i * 5 + 1 + 1 + 1 + 1 + 1 + 2 = (i * 5 + 2) + 1 + 1 + 1 + 1 + 1 by omega, show i * 5 + 1 + 1 + 1 + 1 + 1 + 3 = (i * 5 + 3) + 1 + 1 + 1 + 1 + 1 by omega, show i * 5 + 1 + 1 + 1 + 1 + 1 + 4 = (i * 5 + 4) + 1 + 1 + 1 + 1 + 1 by omega]
    simpa using this
/-- The three rows of an answer are own memory. -/
def AnsI (w : World) (B : Nat) (p : LA3) : Prop :=
  ∃ n, w.ownsRow B 2 1 p.2.1 n (p.1.files.map (Value.int .i64)) ∧ w.ownsRow B 2 1 p.2.2.1 n (p.1.lines.map (Value.int .i64)) ∧ w.ownsRow B 2 1 p.2.2.2 n (p.1.vals.map (Value.int .i64))
theorem AnsI.map {w w' : World} {B : Nat} {p : LA3} (h : AnsI w B p) (f : ∀ n u xs, w.ownsRow B 2 1 u n xs → w'.ownsRow B 2 1 u n xs) : AnsI w' B p := by
  obtain ⟨n, h1, h2, h3⟩ := h
  exact ⟨n, f _ _ _ h1, f _ _ _ h2, f _ _ _ h3⟩
theorem TabB.kt {T : List TypeId} {B : Nat} {w w' : World} {t : Nat} {ty : TypeId} {rest : List Value} {gs : List Nat} {nms : List ByteArray} {reg S : List Nat} (h : TabB w t ty rest gs nms reg S) (hk : KT T B w w') (h1 : ty ∉ T) (h2 : 73 ∉ T) (h3 : 53 ∉ T) : TabB w' t ty rest gs nms reg S := by
  obtain ⟨hT, hB, hr⟩ := h
  refine ⟨⟨hT.1, ?_⟩, ⟨hB.1, hB.2.1, fun i g nm a b => (hB.2.2 i g nm a b).kt hk (.inl h2)⟩, hr⟩
  rcases hT.2 with ⟨a, b, c, d⟩ | ⟨gv, bi, bn, a, b, cap, c, d, e, f, g⟩
  · exact .inl ⟨a, b, c, d.kt hk (.inl h1)⟩
  · exact .inr ⟨gv, bi, bn, a, b, cap, c.kt hk (.inl h1), own_kt d hk (.inl h3), e.kt hk, f.kt hk, g⟩
theorem Bel.kt {T : List TypeId} {B : Nat} {w w1 w' : World} (h : Bel w w1) (hk : KT T B w1 w') (hB : w.heap.size ≤ B) : Bel w w' :=
  ⟨hk.os.trans h.os, hk.tape.trans h.tape, hk.output.trans h.output, Nat.le_trans h.size hk.size, fun i hi => by
    obtain ⟨o, ho⟩ : ∃ o, w.heap[i]? = some o := ⟨_, Array.getElem?_eq_getElem hi⟩
    have h1 := (h.block i hi).trans ho
    rw [ho]
    exact hk.block i o h1 (.inl (by omega))⟩

/-- A base that is in the table: its number is told, nothing changes. -/
theorem xpos_reg (t : Nat) (gs : List Nat) (m : Nat) (S : List Nat) (i : Nat) (lc : Int) (w : World) (h : TabB w t TTY [] gs (nmsOf m) (List.range m) S) (hg : gs.length = m) (hi : i < m) :
    Calls Try.prog 13 #[ptr t, .agg #[ptr (gs.getD i 0), .int .u32 lc]] w fun e w' => e = .returned (xpos i lc) ∧ Bel w w' :=
  (xpos_tab t TTY [] gs (nmsOf m) (List.range m) S i lc w h (by rw [hg]; exact hi)).mono fun e w' ⟨S', h1, _, _, _, h5⟩ => by
    rw [idx_in hi] at h1
    exact ⟨h1, h5 (by simpa using hi)⟩

/-- What the second loop keeps. -/
structure LB (w W : World) (tb x m B : Nat) (F : Nat → FileS) (gs S : List Nat) (vb vf vo : Value) (d : Nat → List Pl.Ent) (L : List LA3) : Prop where
  bel : Bel w W
  hB : w.heap.size ≤ B
  tab : TabB W tb TTY [] gs (nmsOf m) (List.range m) S
  gl : gs.length = m
  rb : W.ownsRow w.heap.size 53 1 vb m (gs.map ptr)
  rf : W.ownsRow w.heap.size 3 1 vf m (filesV m)
  ln : LnW W B x m F d
  ro : W.ownsRow w.heap.size 33 5 vo L.length (ansCells L)
  ra : ∀ p ∈ L, AnsI W w.heap.size p
section
variable {w W W' : World} {tb x m B : Nat} {F : Nat → FileS} {gs S : List Nat} {vb vf vo : Value} {d d' : Nat → List Pl.Ent} {L : List LA3}
theorem LB.on (h : LB w W tb x m B F gs S vb vf vo d L) (hb : Bel W W') : LB w W' tb x m B F gs S vb vf vo d L :=
  ⟨h.bel.trans hb, h.hB, h.tab.bel hb, h.gl, own_bel h.rb hb, own_bel h.rf hb, h.ln.bel hb, own_bel h.ro hb, fun p hp => (h.ra p hp).map fun _ _ _ ho => own_bel ho hb⟩
theorem LB.step (h : LB w W tb x m B F gs S vb vf vo d L) (hk : KT lnT B W W') (hl : LnW W' B x m F d') : LB w W' tb x m B F gs S vb vf vo d' L :=
  ⟨h.bel.kt hk h.hB, h.hB, h.tab.kt hk (by decide) (by decide) (by decide), h.gl, own_kt h.rb hk (.inl (by decide)), own_kt h.rf hk (.inl (by decide)), hl, own_kt h.ro hk (.inl (by decide)), fun p hp => (h.ra p hp).map fun _ _ _ ho => own_kt ho hk (.inl (by decide))⟩
theorem LB.push (h : LB w W tb x m B F gs S vb vf vo d L) {p : LA3} (hp : AnsI W w.heap.size p) {vo' : Value} (ho : W'.ownsRow w.heap.size 33 5 vo' (L.length + 1) (ansCells L ++ ansCell p)) (hg : W.grownBy W' vo.ownBlock) : LB w W' tb x m B F gs S vb vf vo' d (L ++ [p]) := by
  have hk : KT outT w.heap.size W W' := (KT.refl _ _ W).grown h.ro (Nat.le_refl _) (by simp [outT]) hg
  refine ⟨h.bel.grown hg (fun q hq => (h.ro.lt q hq).1), h.hB, h.tab.far h.ro (by decide) (by decide) (h.tab.1.notMine h.ro (by decide)) hg, h.gl, own_far h.rb h.ro (by decide) hg, own_far h.rf h.ro (by decide) hg, h.ln.out hk, ?_, fun q hq => ?_⟩
  · rw [ansCells_snoc, List.length_append]; exact ho
  · rcases List.mem_append.1 hq with hq | hq
    · exact (h.ra q hq).map fun _ _ _ ho' => own_far ho' h.ro (by decide) hg
    · simp at hq; subst hq
      exact hp.map fun _ _ _ ho' => own_far ho' h.ro (by decide) hg
theorem LB.read (h : LB w W tb x m B F gs S vb vf vo d L) : LAnS W vo (L.map (·.1)) := by
  obtain ⟨a, c, rfl, h1, h2, h3⟩ := own_form h.ro
  refine ⟨a, c, by simp, by simpa using h1, h2, fun h0 => ?_⟩
  rw [List.length_map] at h0
  obtain ⟨g, rfl, hg⟩ := h3 h0
  refine ⟨g, rfl, fun i y hy => ?_⟩
  rw [List.getElem?_map] at hy
  obtain ⟨p, hp, rfl⟩ := Option.map_eq_some_iff.1 hy
  obtain ⟨c0, c1, c2, c3, c4⟩ := ansCells_at L i p hp
  obtain ⟨n, r1, r2, r3⟩ := h.ra p (List.mem_of_getElem? hp)
  exact ⟨_, _, _, hg _ _ c0, hg _ _ c1, hg _ _ c2, hg _ _ c3, hg _ _ c4, IntR.own r1, IntR.own r2, IntR.own r3⟩
end
/-- What the ranges must be. -/
def fsOf (R : List Pl.Ent) (i : Nat) : Int := (R.getD i (1, 1)).1
def nsOf (R : List Pl.Ent) (i : Nat) : Nat := ((R.getD i (1, 1)).2 - (R.getD i (1, 1)).1 + 1).toNat
def RngOk (R : List Pl.Ent) : Prop := ∀ e ∈ R, 1 ≤ e.1 ∧ e.1 ≤ e.2 ∧ e.2 ≤ 1000000 ∧ e.2 - e.1 < 2000
/-- .. and the steps. -/
structure StepK (m : Nat) (s : Pl.LStep) : Prop where
  f0 : 0 ≤ s.file
  f1 : s.file < (m : Int)
  l0 : 1 ≤ s.line
  l1 : s.line ≤ 1000000
  c0 : 1 ≤ s.col
  c1 : s.col ≤ 250
  v : Val32 s.val
theorem rng_at {R : List Pl.Ent} (h : RngOk R) {i : Nat} (hi : i < R.length) : 1 ≤ fsOf R i ∧ fsOf R i ≤ 1000000 ∧ 0 < nsOf R i ∧ nsOf R i ≤ 2000 := by
  have hm : R.getD i (1, 1) ∈ R := by
    rw [List.getD_eq_getElem?_getD, List.getElem?_eq_getElem hi]
    exact List.getElem_mem hi
  obtain ⟨h1, h2, h3, h4⟩ := h _ hm
  unfold fsOf nsOf
  omega
end Go.Proofs.Ytangceejmjklcaa
