/- Steps in memory of the call's own; what changes nothing of a run. -/
import Derived.Test.YtangceejmjklcaaLn13
import Derived.Test.YtangceejmjklcaaLsP
import Derived.ArgAppend
namespace Go.Proofs.Ytangceejmjklcaa
open Go.RowKit Go.BigFrame

def lsCells (S : List Pl.LStep) : List Value := S.flatMap fun s => [.int .i64 s.kind, .int .i64 s.file, .int .i64 s.line, .int .i64 s.col, .int .i64 s.val]
theorem lsCells_append (S T : List Pl.LStep) : lsCells (S ++ T) = lsCells S ++ lsCells T := by simp [lsCells]
theorem lsCells_length (l : List Pl.LStep) : (lsCells l).length = l.length * 5 := by
  induction l with
  | nil => rfl
  | cons a r ih => simp only [lsCells, List.flatMap_cons, List.length_append, List.length_cons, List.length_nil] at ih ⊢; omega
theorem lsCells_at : ∀ (l : List Pl.LStep) (i : Nat) (e : Pl.LStep), l[i]? = some e → (lsCells l)[i * 5]? = some (.int .i64 e.kind) ∧ (lsCells l)[i * 5 + 1]? = some (.int .i64 e.file) ∧ (lsCells l)[i * 5 + 2]? = some (.int .i64 e.line) ∧ (lsCells l)[i * 5 + 3]? = some (.int .i64 e.col) ∧ (lsCells l)[i * 5 + 4]? = some (.int .i64 e.val)
  | [], i, e, h => by simp at h
  | a :: r, 0, e, h => by simp at h; subst h; simp [lsCells]
  | a :: r, i + 1, e, h => by
    have := lsCells_at r i e (by simpa using h)
    have e1 : lsCells (a :: r) = .int .i64 a.kind :: .int .i64 a.file :: .int .i64 a.line :: .int .i64 a.col :: .int .i64 a.val :: lsCells r := rfl
    rw [e1, show (i + 1) * 5 = i * 5 + 1 + 1 + 1 + 1 + 1 by omega, show i * 5 + 1 + 1 + 1 + 1 + 1 + 1 = (i * 5 + 1) + 1 + 1 + 1 + 1 + 1 by omega, show i * 5 + 1 + 1 + 1 + 1 + 1 + 2 = (i * 5 + 2) + 1 + 1 + 1 + 1 + 1 by omega, show i * 5 + 1 + 1 + 1 + 1 + 1 + 3 = (i * 5 + 3) + 1 + 1 + 1 + 1 + 1 by omega, show i * 5 + 1 + 1 + 1 + 1 + 1 + 4 = (i * 5 + 4) + 1 + 1 + 1 + 1 + 1 by omega]
    simpa using this
/-- Every cell of a list of steps lies at its place. -/
theorem lsCells_mem : ∀ (S : List Pl.LStep), ∀ u ∈ lsCells S, u.oneCell' = true := by
  intro S u hu
  unfold lsCells at hu
  obtain ⟨s, _, h⟩ := List.mem_flatMap.1 hu
  simp at h
  rcases h with rfl | rfl | rfl | rfl | rfl <;> rfl
theorem LSt.own {w : World} {base n c : Nat} {e : TypeId} {a : Option Addr} {S : List Pl.LStep} (h : w.ownsRow base e 5 (.slice a n c) n (lsCells S)) : LSt w a n S := by
  have hl := h.1
  rw [lsCells_length] at hl
  refine ⟨by omega, fun hn => ?_⟩
  obtain ⟨a', c', hv, _, _, hc⟩ := own_form h
  injection hv with ha _ _
  subst ha
  obtain ⟨g, rfl, hg⟩ := hc hn
  exact ⟨g, 0, rfl, fun i s hs => by
    obtain ⟨h0, h1, h2, h3, h4⟩ := lsCells_at S i s hs
    exact ⟨by simpa using hg _ _ h0, by simpa using hg _ _ h1, by simpa using hg _ _ h2, by simpa using hg _ _ h3, by simpa using hg _ _ h4⟩⟩
theorem elLs : ElTy 23 29 5 40 := ElTy.mk' (z := .agg #[.int .i64 0, .int .i64 0, .int .i64 0, .int .i64 0, .int .i64 0]) Try.underlying23 (by kernel_rfl) rfl (by decide)
/-- The cells of steps that came in. -/
theorem LSt.cells {w : World} {b o n : Nat} {S : List Pl.LStep} (h : LSt w (some ⟨b, o, none⟩) n S) : ∀ j u, (lsCells S)[j]? = some u → w.cell? ⟨b, o + j, none⟩ = some u := by
  intro j u hj
  have hl : j < (lsCells S).length := (List.getElem?_eq_some_iff.1 hj).1
  rw [lsCells_length] at hl
  obtain ⟨b', o', hb, hc⟩ := h.2 (by rw [← h.1]; omega)
  injection hb with hb
  injection hb with hb ho _
  subst hb ho
  have hi : j / 5 < S.length := by omega
  have hs := List.getElem?_eq_getElem hi
  obtain ⟨c0, c1, c2, c3, c4⟩ := hc _ _ hs
  obtain ⟨k0, k1, k2, k3, k4⟩ := lsCells_at S _ _ hs
  have hm : j = j / 5 * 5 ∨ j = j / 5 * 5 + 1 ∨ j = j / 5 * 5 + 2 ∨ j = j / 5 * 5 + 3 ∨ j = j / 5 * 5 + 4 := by omega
  rcases hm with e | e | e | e | e
  · rw [e] at hj ⊢; rw [k0] at hj; cases hj; exact c0
  · rw [e] at hj ⊢; rw [k1] at hj; cases hj; rw [← Nat.add_assoc]; exact c1
  · rw [e] at hj ⊢; rw [k2] at hj; cases hj; rw [← Nat.add_assoc]; exact c2
  · rw [e] at hj ⊢; rw [k3] at hj; cases hj; rw [← Nat.add_assoc]; exact c3
  · rw [e] at hj ⊢; rw [k4] at hj; cases hj; rw [← Nat.add_assoc]; exact c4

/-! ### A line put behind a list, in a drawn region -/
/-- The worlds: operation mk lays the element into a block b, operation ap appends it to the row u. -/
structure ZI (mk ap : Nat) (w0 : World) (B n : Nat) (xs : List Value) (u : Value) (f l x : Int) (D : Nat → Bool) (b : Nat) (v : Value) (W : World) : Prop where
  kp : Kept u.ownBlock.toList w0 W
  old : D ap = false → W.ownsRow B 37 3 u n xs
  blk : D mk = true → D ap = false → Blk W b 37 [.int .i64 f, .int .i64 l, .int .i64 x]
  new : D ap = true → W.ownsRow B 37 3 v (n + 1) (xs ++ [.int .i64 f, .int .i64 l, .int .i64 x])
section
variable {mk ap : Nat} {w0 W W' : World} {B n b : Nat} {xs : List Value} {u v : Value} {f l x : Int} {D : Nat → Bool}
theorem ZI.quiet (h : ZI mk ap w0 B n xs u f l x D b v W) {k : Nat} (h1 : k ≠ mk) (h2 : k ≠ ap) : ZI mk ap w0 B n xs u f l x (also D k) b v W := by
  refine ⟨h.kp, ?_, ?_, ?_⟩
  · rw [also_ne (Ne.symm h2)]; exact h.old
  · rw [also_ne (Ne.symm h1), also_ne (Ne.symm h2)]; exact h.blk
  · rw [also_ne (Ne.symm h2)]; exact h.new
theorem ZI.box (hne : mk ≠ ap) (h : ZI mk ap w0 B n xs u f l x D b v W) : ZI mk ap w0 B n xs u f l x (also D mk) W.heap.size v (W.alloc (.cells #[.int .i64 f, .int .i64 l, .int .i64 x] 37)) := by
  have hb : Bel W (W.alloc (.cells #[.int .i64 f, .int .i64 l, .int .i64 x] 37)) := (Bel.refl W).alloc _
  refine ⟨h.kp.then hb, ?_, fun _ _ => Blk.new W _ [_, _, _], ?_⟩
  · rw [also_ne (Ne.symm hne)]; exact fun hd => own_bel (h.old hd) hb
  · rw [also_ne (Ne.symm hne)]; exact fun hd => own_bel (h.new hd) hb
theorem ZI.app (h : ZI mk ap w0 B n xs u f l x D b v W) {v' : Value} (ho : W'.ownsRow B 37 3 v' (n + 1) (xs ++ [.int .i64 f, .int .i64 l, .int .i64 x])) (hg : W.grownBy W' u.ownBlock) : ZI mk ap w0 B n xs u f l x (also D ap) b v' W' := by
  refine ⟨h.kp.trans (kept_own hg) (fun i hi => .inl hi), ?_, ?_, fun _ => ho⟩
  · rw [also_self]; exact fun hd => by cases hd
  · rw [also_self]; exact fun _ hd => by cases hd
end

/-! ### Columns -/
def setCol (c : Int) (s : Pl.LStep) : Pl.LStep := ⟨s.kind, s.file, s.line, c, s.val⟩
theorem runD_col (fs : Nat → Int) (ns : Nat → Nat) (c : Int) (S : List Pl.LStep) (k : Nat) : Pl.runD fs ns (S.map (setCol c)) k = Pl.runD fs ns S k := by
  unfold Pl.runD
  rw [← List.map_take, List.foldl_map]
  rfl
theorem runL_col (fs ls : Nat → Int) (c : Int) (S : List Pl.LStep) (k : Nat) : runL fs ls (S.map (setCol c)) k = runL fs ls S k := by
  unfold runL
  rw [← List.map_take, List.foldl_map]
  rfl
end Go.Proofs.Ytangceejmjklcaa
