/- Steps in memory of the call's own; what changes nothing of a run. -/
import Derived.Test.YtangceejmjklcaaLn13
import Derived.Test.YtangceejmjklcaaLsP
import Derived.ArgAppend
import Derived.Deep.RegionLawGrows
namespace Go.Proofs.Ytangceejmjklcaa
open Go.RowKit Go.BigFrame

def lsCells (S : List Pl.LStep) : List Value := S.flatMap fun s => [.int .i64 s.kind, .int .i64 s.file, .int .i64 s.line, .int .i64 s.col, .int .i64 s.val]
theorem lsCells_append (S T : List Pl.LStep) : lsCells (S ++ T) = lsCells S ++ lsCells T := by simp [lsCells]
theorem lsCells_length (l : List Pl.LStep) : (lsCells l).length = l.length * 5 := by
  induction l with
  | nil => rfl
  | cons a r ih => simp only [lsCells, List.flatMap_cons, List.length_append, List.length_cons, List.length_nil] at ih ⊢; omega
theorem lsCells_at : ∀ (l : List Pl.LStep) (i : Nat) (e : Pl.LStep), l[i]? = some e → (lsCells l)[i * 5]? = some (.int .i64 e.kind) ∧ (lsCells l)[i * 5 + 1]? = some (.int .i64 e.file) ∧ (lsCells l)[i * 5 + 2]? = some (.int .i64 e.line) ∧ (lsCells l)[i * 5 + 3]? = some (.int .i64 e.col) ∧ (lsCells l)[i * 5 + 4]? = some (.int .i64 e.val)
  | [], i, e, h => by simp at h
  | a :: r, 0, e, h => by simp at h; subst h; simp [lsCells]
  | a :: r, i + 1, e, h => by
    have := lsCells_at r i e (by simpa using h)
    have e1 : lsCells (a :: r) = .int .i64 a.kind :: .int .i64 a.file :: .int .i64 a.line :: .int .i64 a.col :: .int .i64 a.val :: lsCells r := rfl
    rw [e1, show (i + 1) * 5 = i * 5 + 1 + 1 + 1 + 1 + 1 by omega, show i * 5 + 1 + 1 + 1 + 1 + 1 + 1 = (i * 5 + 1) + 1 + 1 + 1 + 1 + 1 by omega, show i * 5 + 1 + 1 + 1 + 1 + 1 + 2 = (i * 5 + 2) + 1 + 1 + 1 + 1 + 1 by omega, show i * 5 + 1 + 1 + 1 + 1 + 1 + 3 = (i * 5 + 3) + 1 + 1 + 1 + 1 + 1 by omega, show i * 5 + 1 + 1 + 1 + 1 + 1 + 4 = (i * 5 + 4) + 1 + 1 + 1 + 1 + 1 by omega]
    simpa using this
/-- Every cell of a list of steps lies at its place. -/
theorem lsCells_mem : ∀ (S : List Pl.LStep), ∀ u ∈ lsCells S, u.oneCell' = true := by
  intro S u hu
  unfold lsCells at hu
  obtain ⟨s, _, h⟩ := List.mem_flatMap.1 hu
  simp at h
  rcases h with rfl | rfl | rfl | rfl | rfl <;> rfl
theorem LSt.own {w : World} {base n c : Nat} {e : TypeId} {a : Option Addr} {S : List Pl.LStep} (h : w.ownsRow base e 5 (.slice a n c) n (lsCells S)) : LSt w a n S := by
  have hl := h.1
  rw [lsCells_length] at hl
  refine ⟨by omega, fun hn => ?_⟩
  obtain ⟨a', c', hv, _, _, hc⟩ := own_form h
  injection hv with ha _ _
  subst ha
  obtain ⟨g, rfl, hg⟩ := hc hn
  exact ⟨g, 0, rfl, fun i s hs => by
    obtain ⟨h0, h1, h2, h3, h4⟩ := lsCells_at S i s hs
    exact ⟨by simpa using hg _ _ h0, by simpa using hg _ _ h1, by simpa using hg _ _ h2, by simpa using hg _ _ h3, by simpa using hg _ _ h4⟩⟩
theorem elLs : ElTy 23 29 5 40 := ElTy.mk' (z := .agg #[.int .i64 0, .int .i64 0, .int .i64 0, .int .i64 0, .int .i64 0]) Try.underlying23 (by kernel_rfl) rfl (by decide)
/-- The cells of steps that came in. -/
theorem LSt.cells {w : World} {b o n : Nat} {S : List Pl.LStep} (h : LSt w (some ⟨b, o, none⟩) n S) : ∀ j u, (lsCells S)[j]? = some u → w.cell? ⟨b, o + j, none⟩ = some u := by
  intro j u hj
  have hl : j < (lsCells S).length := (List.getElem?_eq_some_iff.1 hj).1
  rw [lsCells_length] at hl
  obtain ⟨b', o', hb, hc⟩ := h.2 (by rw [← h.1]; omega)
  injection hb with hb
  injection hb with hb ho _
  subst hb ho
  have hi : j / 5 < S.length := by omega
  have hs := List.getElem?_eq_getElem hi
  obtain ⟨c0, c1, c2, c3, c4⟩ := hc _ _ hs
  obtain ⟨k0, k1, k2, k3, k4⟩ := lsCells_at S _ _ hs
  have hm : j = j / 5 * 5 ∨ j = j / 5 * 5 + 1 ∨ j = j / 5 * 5 + 2 ∨ j = j / 5 * 5 + 3 ∨ j = j / 5 * 5 + 4 := by omega
  rcases hm with e | e | e | e | e
  · rw [e] at hj ⊢; rw [k0] at hj; cases hj; exact c0
  · rw [e] at hj ⊢; rw [k1] at hj; cases hj; rw [← Nat.add_assoc]; exact c1
  · rw [e] at hj ⊢; rw [k2] at hj; cases hj; rw [← Nat.add_assoc]; exact c2
  · rw [e] at hj ⊢; rw [k3] at hj; cases hj; rw [← Nat.add_assoc]; exact c3
  · rw [e] at hj ⊢; rw [k4] at hj; cases hj; rw [← Nat.add_assoc]; exact c4

/-- append of own steps onto input steps without room, at a step of a drawn region. -/
theorem step_lcat {w : World} {ops : Array Oper} {o : Oper} {a : Act} {K : Act → World → Prop} {Q : Exit → Act → World → Prop} {E : Prop} (hgd : o.guard = none) (s x : Operand)
    (ho : o.op = .call { callee := .builtin .append, args := #[s, x], argTypes := #[23, 23] })
    (a2 : Option Addr) (n : Nat) (S : List Pl.LStep) (hs : a.eval s = .slice a2 n n) (hS : LSt w a2 n S) (b m : Nat) (T : List Pl.LStep) (hx : a.eval x = .slice (some ⟨b, 0, none⟩) m m) (hB : Blk w b 29 (lsCells T)) (hm : T.length = m) (hm0 : 0 < m) (hn : n ≤ 2147483647) (hm' : m ≤ 100)
    (h : ∀ g cap w', LSt w' (some ⟨g, 0, none⟩) (n + m) (S ++ T) → Bel w w' → K (a.put o.dst (.slice (some ⟨g, 0, none⟩) (n + m) cap)) w') :
    if Region.wanted o (yielded ops a.tmps) = true then Oper.wp Try.prog o a w K Q else E := by
  obtain ⟨i, z, hi, hz, hsz, hby, hzc⟩ := elLs.ex
  have hnone : a2 = none → n = 0 := fun e => by
    rcases Nat.eq_zero_or_pos n with h0 | h0
    · exact h0
    · obtain ⟨_, _, e', _⟩ := hS.2 h0; rw [e] at e'; cases e'
  refine step_append_grows hgd s x 23 ho 29 i z 5 40 elLs.sl hi hz hsz hby hzc (by decide) a2 n n (lsCells S) hs (fun e => ⟨hnone e, hnone e⟩) (by rw [lsCells_length, hS.1]) (fun ad had j u hj => ?_)
    ⟨b, 0, none⟩ m m (lsCells T) hx (by rw [lsCells_length, hm]) (fun j u hj => ?_) (lsCells_mem T) (by omega) (by unfold maxLen; omega) (by omega) (fun v' w' ho' hg' => ?_)
  · have hn0 : 0 < n := by
      have := (List.getElem?_eq_some_iff.1 hj).1
      rw [lsCells_length, hS.1] at this
      omega
    obtain ⟨b', o', e', _⟩ := hS.2 hn0
    rw [had] at e'
    cases e'
    subst had
    rw [Go.WideShapes.add_plain]
    exact hS.cells j u hj
  · rw [Go.WideShapes.add_plain, Nat.zero_add, hB.cell]
    exact hj
  · obtain ⟨x', c', rfl, _, _, hc⟩ := own_form ho'
    obtain ⟨g, rfl, _⟩ := hc (by omega)
    refine h g c' w' ?_ ((Bel.refl w).grown hg' (by simp))
    rw [← lsCells_append] at ho'
    exact LSt.own ho'
theorem run_lslice (W : World) (a : Option Addr) (n c : Nat) (h : n ≤ c) : (Instr.sliceAt 23 (.slice a n c) none (some (.int .i64 (n : Int))) (some (.int .i64 (n : Int)))).run Try.prog W = .ok (.slice a n n) W := by
  have ht : Try.prog.underlying 23 = some (.slice (Try.prog.elem 23)) := by simp [Program.elem, Try.underlying23]
  have hz : (sizeOf 29).run Try.prog W = .ok 5 W := by kernel_rfl
  have he : Try.prog.elem 23 = 29 := by simp [Program.elem, Try.underlying23]
  rw [run_sliceAt_slice W _ _ _ _ _ ht, run_slice_hm W _ _ _ _ ht .i64 .i64 _ _ (by omega) (by omega) (by omega), he, hz]
  simp only [Result.andThen, sliced, Int.toNat_natCast]
  cases a with
  | none => simp
  | some ad => simp [Addr.add]

/-! ### A line put behind a list, in a drawn region -/
/-- The worlds: operation mk lays the element into a block b, operation ap appends it to the row u. -/
structure ZI (mk ap : Nat) (w0 : World) (B n : Nat) (xs : List Value) (u : Value) (f l x : Int) (D : Nat → Bool) (b : Nat) (v : Value) (W : World) : Prop where
  kp : Kept u.ownBlock.toList w0 W
  old : D ap = false → W.ownsRow B 37 3 u n xs
  blk : D mk = true → D ap = false → Blk W b 37 [.int .i64 f, .int .i64 l, .int .i64 x]
  new : D ap = true → W.ownsRow B 37 3 v (n + 1) (xs ++ [.int .i64 f, .int .i64 l, .int .i64 x])
section
variable {mk ap : Nat} {w0 W W' : World} {B n b : Nat} {xs : List Value} {u v : Value} {f l x : Int} {D : Nat → Bool}
theorem ZI.quiet (h : ZI mk ap w0 B n xs u f l x D b v W) {k : Nat} (h1 : k ≠ mk) (h2 : k ≠ ap) : ZI mk ap w0 B n xs u f l x (also D k) b v W := by
  refine ⟨h.kp, ?_, ?_, ?_⟩
  · rw [also_ne (Ne.symm h2)]; exact h.old
  · rw [also_ne (Ne.symm h1), also_ne (Ne.symm h2)]; exact h.blk
  · rw [also_ne (Ne.symm h2)]; exact h.new
theorem ZI.box (hne : mk ≠ ap) (h : ZI mk ap w0 B n xs u f l x D b v W) : ZI mk ap w0 B n xs u f l x (also D mk) W.heap.size v (W.alloc (.cells #[.int .i64 f, .int .i64 l, .int .i64 x] 37)) := by
  have hb : Bel W (W.alloc (.cells #[.int .i64 f, .int .i64 l, .int .i64 x] 37)) := (Bel.refl W).alloc _
  refine ⟨h.kp.then hb, ?_, fun _ _ => Blk.new W _ [_, _, _], ?_⟩
  · rw [also_ne (Ne.symm hne)]; exact fun hd => own_bel (h.old hd) hb
  · rw [also_ne (Ne.symm hne)]; exact fun hd => own_bel (h.new hd) hb
theorem ZI.app (h : ZI mk ap w0 B n xs u f l x D b v W) {v' : Value} (ho : W'.ownsRow B 37 3 v' (n + 1) (xs ++ [.int .i64 f, .int .i64 l, .int .i64 x])) (hg : W.grownBy W' u.ownBlock) : ZI mk ap w0 B n xs u f l x (also D ap) b v' W' := by
  refine ⟨h.kp.trans (kept_own hg) (fun i hi => .inl hi), ?_, ?_, fun _ => ho⟩
  · rw [also_self]; exact fun hd => by cases hd
  · rw [also_self]; exact fun _ hd => by cases hd
end

theorem ents_bel {w w' : World} {a : Option Addr} {n : Nat} {l : List Pl.Ent} (h : Ents w a n l) (hb : Bel w w') : Ents w' a n l := h.bel hb
/-- .. own memory from somewhere on. -/
def LAnE (w : World) (v : Value) (A : List Pl.LAns) : Prop := ∃ B, LAnO w B v A
theorem LAnE.read {W : World} {v : Value} {A : List Pl.LAns} (h : LAnE W v A) : LAnS W v A := h.elim fun _ h => h.read
theorem LAnE.bel {W W' : World} {v : Value} {A : List Pl.LAns} (h : LAnE W v A) (hb : Bel W W') : LAnE W' v A := h.imp fun _ h => h.bel hb
theorem LAnE.far {W W' : World} {b2 : Nat} {e2 : TypeId} {s2 n2 : Nat} {v v2 : Value} {x2 : List Value} {A : List Pl.LAns} (h : LAnE W v A) (h2 : W.ownsRow b2 e2 s2 v2 n2 x2) (hne : 33 ≠ e2) (hni : 2 ≠ e2) (hg : W.grownBy W' v2.ownBlock) : LAnE W' v A := h.imp fun _ h => h.far h2 hne hni hg
/-- impl.Lines, its answer's slice written out. -/
theorem lines_form {a1 : Option Addr} {n1 c1 : Nat} {R : List Pl.Ent} {a2 : Option Addr} {n2 c2 : Nat} {S : List Pl.LStep} {w : World} (hR : Ents w a1 n1 R) (hS : LSt w a2 n2 S) (hok : RngOk R) (hs : ∀ s ∈ S, StepK R.length s) (hn : R.length ≤ 20) (hn2 : n2 ≤ 1000) :
    Calls Try.prog 9 #[.slice a1 n1 c1, .slice a2 n2 c2] w fun e w' => ∃ ax al ac A, e = .returned (.slice ax al ac) ∧ LAnE w' (.slice ax al ac) A ∧ al = A.length ∧ Pl.Runs (fsOf R) (nsOf R) R.length S A ∧ Bel w w' := by
  have hr := hR.1
  subst hr
  refine (lines_own a1 _ c1 R a2 n2 c2 S w hR hS hok hs hn hn2).mono ?_
  rintro e w' ⟨v, A, rfl, hA, hr, hb⟩
  obtain ⟨a, c, rfl, h⟩ := hA.read
  exact ⟨a, A.length, c, A, rfl, ⟨_, hA⟩, rfl, hr, hb⟩

/-- Each part of a step is a number of 64 bits. -/
def LStepIn (s : Pl.LStep) : Prop := (-9223372036854775808 ≤ s.kind ∧ s.kind ≤ 9223372036854775807) ∧ (-9223372036854775808 ≤ s.file ∧ s.file ≤ 9223372036854775807) ∧ (-9223372036854775808 ≤ s.line ∧ s.line ≤ 9223372036854775807) ∧ (-9223372036854775808 ≤ s.col ∧ s.col ≤ 9223372036854775807) ∧ (-9223372036854775808 ≤ s.val ∧ s.val ≤ 9223372036854775807)

/-! ### One file -/
def ownB (f : Int) (s : Pl.LStep) : Bool := decide (s.file = f) || decide (s.kind = 5)
theorem runD_own (fs : Nat → Int) (ns : Nat → Nat) {f : Int} (hf : 0 ≤ f) : ∀ (S : List Pl.LStep) (d d' : Nat → List Pl.Ent), (∀ s ∈ S, 0 ≤ s.file) → d f.toNat = d' f.toNat →
    S.foldl (fun d s => Pl.lineD fs ns d s.file.toNat s) d f.toNat = (S.filter (ownB f)).foldl (fun d s => Pl.lineD fs ns d s.file.toNat s) d' f.toNat
  | [], _, _, _, h => h
  | s :: S, d, d', hs, h => by
    have ih := runD_own fs ns hf S
    rw [List.foldl_cons, List.filter_cons]
    have hs0 := hs s (by simp)
    have hss : ∀ x ∈ S, 0 ≤ x.file := fun x hx => hs x (by simp [hx])
    by_cases ho : ownB f s = true
    · rw [if_pos ho, List.foldl_cons]
      refine ih _ _ hss ?_
      unfold ownB at ho
      simp only [Bool.or_eq_true, decide_eq_true_eq] at ho
      unfold Pl.lineD
      by_cases k5 : s.kind = 5
      · simp [k5]
      · have hsf : s.file = f := ho.resolve_right k5
        rw [hsf, h]
        by_cases k0 : s.kind = 0
        · rw [if_pos k0, if_pos k0, upd_same, upd_same]
        rw [if_neg k0, if_neg k0]
        by_cases k8 : s.kind = 8
        · rw [if_pos k8, if_pos k8, upd_same, upd_same]
        rw [if_neg k8, if_neg k8]
        by_cases k1 : s.kind = 1
        · rw [if_pos k1, if_pos k1, upd_same, upd_same]
        rw [if_neg k1, if_neg k1, if_neg k5, if_neg k5]
        exact h
    · rw [if_neg ho]
      refine ih _ _ hss ?_
      unfold ownB at ho
      simp only [Bool.or_eq_true, decide_eq_true_eq, not_or] at ho
      have hne : f.toNat ≠ s.file.toNat := fun e => ho.1 (by omega)
      rw [← h]
      unfold Pl.lineD
      rw [if_neg ho.2]
      by_cases k0 : s.kind = 0
      · rw [if_pos k0, upd_ne _ hne]
      rw [if_neg k0]
      by_cases k8 : s.kind = 8
      · rw [if_pos k8, upd_ne _ hne]
      rw [if_neg k8]
      by_cases k1 : s.kind = 1
      · rw [if_pos k1, upd_ne _ hne]
      · rw [if_neg k1]
/-- The step behind the others. -/
theorem last_at (S : List Pl.LStep) (x : Pl.LStep) : (S ++ [x])[S.length]? = some x := by simp
theorem runD_last (fs : Nat → Int) (ns : Nat → Nat) (S : List Pl.LStep) (T : List Pl.LStep) : Pl.runD fs ns (S ++ T) S.length = Pl.runD fs ns S S.length := by
  unfold Pl.runD
  simp
/-- A get behind all steps answers as behind those of its file. -/
theorem get_own {R : List Pl.Ent} {S : List Pl.LStep} {x : Pl.LStep} (h3 : x.kind = 3) (hx : 0 ≤ x.file) (hS : ∀ s ∈ S, 0 ≤ s.file) {A B : List Pl.LAns} (hA : Pl.Runs (fsOf R) (nsOf R) R.length (S ++ [x]) A) (hB : Pl.Runs (fsOf R) (nsOf R) R.length (S.filter (ownB x.file) ++ [x]) B) :
    ∃ a b, A[S.length]? = some a ∧ B[(S.filter (ownB x.file)).length]? = some b ∧ a.ok = b.ok ∧ a.val = b.val := by
  obtain ⟨a, ha⟩ : ∃ a, A[S.length]? = some a := ⟨_, List.getElem?_eq_getElem (by rw [hA.1]; simp)⟩
  obtain ⟨b, hb⟩ : ∃ b, B[(S.filter (ownB x.file)).length]? = some b := ⟨_, List.getElem?_eq_getElem (by rw [hB.1]; simp)⟩
  obtain ⟨a', hla, rfl⟩ := hA.2 _ _ _ (last_at S x) ha
  obtain ⟨b', hlb, rfl⟩ := hB.2 _ _ _ (last_at _ x) hb
  refine ⟨_, _, ha, hb, ?_⟩
  rw [runD_last] at hla hlb
  have hd : Pl.runD (fsOf R) (nsOf R) S S.length x.file.toNat = Pl.runD (fsOf R) (nsOf R) (S.filter (ownB x.file)) (S.filter (ownB x.file)).length x.file.toNat := by
    unfold Pl.runD
    rw [List.take_length, List.take_length]
    exact runD_own _ _ hx S _ _ hS rfl
  unfold Pl.lineA at hla hlb
  rw [if_neg (by omega), if_pos h3] at hla hlb
  subst hla hlb
  rw [hd]
  exact ⟨rfl, rfl⟩

/-! ### Columns -/
def setCol (c : Int) (s : Pl.LStep) : Pl.LStep := ⟨s.kind, s.file, s.line, c, s.val⟩
theorem runD_col (fs : Nat → Int) (ns : Nat → Nat) (c : Int) (S : List Pl.LStep) (k : Nat) : Pl.runD fs ns (S.map (setCol c)) k = Pl.runD fs ns S k := by
  unfold Pl.runD
  rw [← List.map_take, List.foldl_map]
  rfl
theorem runL_col (fs ls : Nat → Int) (c : Int) (S : List Pl.LStep) (k : Nat) : runL fs ls (S.map (setCol c)) k = runL fs ls S k := by
  unfold runL
  rw [← List.map_take, List.foldl_map]
  rfl
end Go.Proofs.Ytangceejmjklcaa
