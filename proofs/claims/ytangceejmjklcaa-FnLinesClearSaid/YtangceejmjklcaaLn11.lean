/- impl.Lines: the memory of its first loop. -/
import Derived.Test.YtangceejmjklcaaLn10
import Derived.Laws.BytesArg
namespace Go.Proofs.Ytangceejmjklcaa
open Go.RowKit Go.BigFrame

theorem own_own_ne2 {w : World} {b1 b2 : Nat} {e1 e2 : TypeId} {s1 s2 n1 n2 : Nat} {v1 v2 : Value} {x1 x2 : List Value} (h1 : w.ownsRow b1 e1 s1 v1 n1 x1) (h2 : w.ownsRow b2 e2 s2 v2 n2 x2) (hne : e1 ≠ e2) : ∀ k, v1.ownBlock = some k → v2.ownBlock ≠ some k := by
  intro k hk1 hk2
  rcases h1.2 with ⟨rfl, _⟩ | ⟨g, cap, cur, rfl, _, hh, _⟩
  · simp [Value.ownBlock] at hk1
  · rcases h2.2 with ⟨rfl, _⟩ | ⟨g', cap', cur', rfl, _, hh', _⟩
    · simp [Value.ownBlock] at hk2
    · have a1 : g = k := by simpa [Value.ownBlock] using hk1
      have a2 : g' = k := by simpa [Value.ownBlock] using hk2
      subst a1 a2
      rw [hh] at hh'
      injection hh' with hh'
      injection hh' with _ ht _
      exact hne ht
theorem own_far {W W' : World} {b1 b2 : Nat} {e1 e2 : TypeId} {s1 s2 n1 n2 : Nat} {v1 v2 : Value} {x1 x2 : List Value} (h1 : W.ownsRow b1 e1 s1 v1 n1 x1) (h2 : W.ownsRow b2 e2 s2 v2 n2 x2) (hne : e1 ≠ e2) (hg : W.grownBy W' v2.ownBlock) : W'.ownsRow b1 e1 s1 v1 n1 x1 := by
  refine h1.kept hg ?_
  cases hv : v1.ownBlock with
  | none => exact .inl rfl
  | some q => exact .inr (fun e => own_own_ne2 h1 h2 hne q hv e.symm)

/-! ### The names of the files -/
def nmOf (k : Nat) : ByteArray := strOfNums [97 + (k : Int)]
def nmsOf (j : Nat) : List ByteArray := (List.range j).map nmOf
theorem nmsOf_length (j : Nat) : (nmsOf j).length = j := by simp [nmsOf]
theorem nmsOf_succ (j : Nat) : nmsOf (j + 1) = nmsOf j ++ [nmOf j] := by simp [nmsOf, List.range_succ]
theorem nmOf_inj {i j : Nat} (hi : i < 100) (hj : j < 100) (h : nmOf i = nmOf j) : i = j := by
  have h1 : (nmOf i).data.toList = (nmOf j).data.toList := by rw [h]
  unfold nmOf at h1
  rw [strOfNums_data, strOfNums_data] at h1
  simp only [List.map_cons, List.map_nil, List.cons.injEq, and_true] at h1
  have h2 := congrArg UInt8.toNat h1
  rw [UInt8.toNat_ofNat', UInt8.toNat_ofNat'] at h2
  omega
theorem nmOf_new {j : Nat} (hj : j < 100) : nmOf j ∉ nmsOf j := by
  unfold nmsOf
  rw [List.mem_map]
  rintro ⟨i, hi, e⟩
  have hi' := List.mem_range.1 hi
  have := nmOf_inj (by omega) hj e
  omega

/-! ### Places in a table whose files are all in it -/
theorem placeOf_range {i : Nat} : ∀ {k : Nat}, i < k → placeOf i (List.range k) = some i
  | 0, h => absurd h (by omega)
  | k + 1, h => by
    rw [List.range_succ]
    by_cases e : i < k
    · exact placeOf_append_left _ (placeOf_range e)
    · obtain rfl : i = k := by omega
      have := placeOf_append_new (g := i) (R := List.range i) (by simp)
      rwa [List.length_range] at this
theorem regAdd_range (k : Nat) : regAdd (List.range k) k = List.range (k + 1) := by
  unfold regAdd
  rw [if_neg (by simp), List.range_succ]
theorem regAdd_in {k i : Nat} (h : i < k) : regAdd (List.range k) i = List.range k := by
  unfold regAdd
  rw [if_pos (by simpa using h)]
theorem idx_new (k : Nat) : idx (List.range k) k = (k : Int) + 1 := by
  unfold idx regIx
  rw [regAdd_range, placeOf_range (by omega)]
theorem idx_in {k i : Nat} (h : i < k) : idx (List.range k) i = (i : Int) + 1 := by
  unfold idx regIx
  rw [regAdd_in h, placeOf_range h]

theorem TabB.snoc {w : World} {t : Nat} {ty : TypeId} {rest : List Value} {gs : List Nat} {nms : List ByteArray} {reg S : List Nat} (h : TabB w t ty rest gs nms reg S) {g : Nat} {nm : ByteArray} (hB : Blk w g 73 (fileBase g nm (-1))) (hg : g ∉ gs) (hn : nm ∉ nms) (hl : gs.length < 500) :
    TabB w t ty rest (gs ++ [g]) (nms ++ [nm]) reg S := by
  obtain ⟨h1, h2, h3, h4, h5, h6, h7, h8⟩ := h
  have hle := h2.1
  have e1 : (reg.map fun i => (gs ++ [g]).getD i 0) = reg.map fun i => gs.getD i 0 := List.map_congr_left (fun i hi => by
    rw [List.getD_eq_getElem?_getD, List.getD_eq_getElem?_getD, List.getElem?_append_left (h4 i hi)])
  have e2 : (reg.map fun i => (nms ++ [nm]).getD i ByteArray.empty) = reg.map fun i => nms.getD i ByteArray.empty := List.map_congr_left (fun i hi => by
    rw [List.getD_eq_getElem?_getD, List.getD_eq_getElem?_getD, List.getElem?_append_left (by rw [← hle]; exact h4 i hi)])
  refine ⟨by rw [e1, e2]; exact h1, ⟨by simp [hle], ?_, fun i g' nm' a b => ?_⟩, h3, fun i hi => by have := h4 i hi; simp; omega, ?_, by simp; omega, h7, h8⟩
  · rw [List.nodup_append]
    exact ⟨h2.2.1, by simp, fun a ha b hb => by simp at hb; subst hb; rintro rfl; exact hg ha⟩
  · by_cases hi : i < gs.length
    · rw [List.getElem?_append_left hi] at a
      rw [List.getElem?_append_left (by rw [← hle]; exact hi)] at b
      exact h2.2.2 i g' nm' a b
    · have hie : i = gs.length := by
        have := (List.getElem?_eq_some_iff.1 a).1
        simp at this; omega
      subst hie
      rw [List.getElem?_append_right (Nat.le_refl _)] at a
      rw [hle, List.getElem?_append_right (Nat.le_refl _)] at b
      simp at a b
      subst a b
      have : regIx reg gs.length = -1 := by
        unfold regIx
        rw [placeOf_none.2 (fun hm => by have := h4 _ hm; omega)]
      rw [this]; exact hB
  · rw [List.nodup_append]
    exact ⟨h5, by simp, fun a ha b hb => by simp at hb; subst hb; rintro rfl; exact hn ha⟩
/-- A row of another kind is no part of a table. -/
theorem TabB.far {w w' : World} {t : Nat} {ty : TypeId} {rest : List Value} {gs : List Nat} {nms : List ByteArray} {reg S : List Nat} (h : TabB w t ty rest gs nms reg S) {base : Nat} {e : TypeId} {size n : Nat} {u : Value} {xs : List Value} (ho : w.ownsRow base e size u n xs)
    (h1 : e ≠ ty) (h2 : e ≠ 73) (hS : ∀ q, u.ownBlock = some q → q ∉ S) (hg : w.grownBy w' u.ownBlock) : TabB w' t ty rest gs nms reg S := by
  have hk := kept_own hg
  refine h.kept hk (fun hm => ?_) (fun x hx hm => ?_) (fun x hx hm => hS x (by simpa using hm) hx)
  · have hm' : u.ownBlock = some t := by simpa using hm
    obtain ⟨_, ⟨_, _, _, hb⟩ | ⟨gv, bi, bn, _, _, cap, hb, _⟩⟩ := h.1
    · exact own_ne ho hb h1 hm'
    · exact own_ne ho hb h1 hm'
  · obtain ⟨i, hi, rfl⟩ := List.getElem_of_mem hx
    have hb := h.2.1.one hi
    rw [List.getD_eq_getElem?_getD, List.getElem?_eq_getElem hi] at hb
    exact own_ne ho hb h2 (by simpa using hm)

/-- The worlds of the two appends of a round. -/
structure CJ (w0 : World) (B bx n : Nat) (x1 x2 : List Value) (u1 u2 : Value) (f l : Int) (D : Nat → Bool) (b1 : Nat) (v1 : Value) (b2 : Nat) (v2 : Value) (W : World) : Prop where
  kp : Kept (u1.ownBlock.toList ++ u2.ownBlock.toList) w0 W
  bx : Blk W bx 40 [.int .i64 f, .int .i64 l]
  l1 : LaneC w0 W 55 B n u1 v1 x1 (.int .u32 f) b1 (D 4) (D 5)
  l2 : LaneC w0 W 55 B n u2 v2 x2 (.int .u32 l) b2 (D 10) (D 11)
  d12 : D 5 = true → D 11 = true → Dj v1 v2
structure CT (w0 : World) (bx : Nat) (u1 u2 : Value) : Prop where
  hu1 : ∀ q, u1.ownBlock = some q → q < w0.heap.size ∧ q ≠ bx
  hu2 : ∀ q, u2.ownBlock = some q → q < w0.heap.size ∧ q ≠ bx
  d12 : Dj u1 u2
section
variable {w0 W W' : World} {B bx n b1 b2 : Nat} {x1 x2 : List Value} {u1 u2 v1 v2 : Value} {f l : Int} {D : Nat → Bool}
theorem CJ.quiet (h : CJ w0 B bx n x1 x2 u1 u2 f l D b1 v1 b2 v2 W) {k : Nat} (hk : k ∉ [4, 5, 10, 11]) : CJ w0 B bx n x1 x2 u1 u2 f l (also D k) b1 v1 b2 v2 W := by
  simp only [List.mem_cons, List.not_mem_nil, or_false, not_or] at hk
  obtain ⟨h4, h5, h10, h11⟩ := hk
  refine ⟨h.kp, h.bx, ?_, ?_, ?_⟩
  · rw [also_ne (Ne.symm h4), also_ne (Ne.symm h5)]; exact h.l1
  · rw [also_ne (Ne.symm h10), also_ne (Ne.symm h11)]; exact h.l2
  · rw [also_ne (Ne.symm h5), also_ne (Ne.symm h11)]; exact h.d12
theorem CJ.mk1 (h : CJ w0 B bx n x1 x2 u1 u2 f l D b1 v1 b2 v2 W) : CJ w0 B bx n x1 x2 u1 u2 f l (also D 4) W.heap.size v1 b2 v2 (W.alloc (.cells #[.int .u32 f] 55)) := by
  have hb : Bel W (W.alloc (.cells #[.int .u32 f] 55)) := (Bel.refl W).alloc _
  have hk : Kept [] W (W.alloc (.cells #[.int .u32 f] 55)) := Kept.of_bel hb
  refine ⟨h.kp.then hb, h.bx.bel hb, ?_, ?_, ?_⟩
  · rw [also_self, also_ne (by decide)]
    exact ⟨fun hd => own_bel (h.l1.old hd) hb, (h.l1.far hk (by simp) (by simp)).new, fun _ _ => ⟨Blk.new W _ [_], h.kp.size⟩⟩
  · rw [also_ne (by decide), also_ne (by decide)]; exact h.l2.far hk (by simp) (by simp)
  · rw [also_ne (j := 5) (by decide), also_ne (j := 11) (by decide)]; exact h.d12
theorem CJ.ap1 (hs : CT w0 bx u1 u2) (h : CJ w0 B bx n x1 x2 u1 u2 f l D b1 v1 b2 v2 W) {q cap : Nat} (ho : W'.ownsRow B 55 1 (.slice (some ⟨q, 0, none⟩) (n + 1) cap) (n + 1) (x1 ++ [.int .u32 f])) (hg : W.grownBy W' u1.ownBlock) (hq : u1.ownBlock = some q ∨ q = W.heap.size) : CJ w0 B bx n x1 x2 u1 u2 f l (also D 5) b1 (.slice (some ⟨q, 0, none⟩) (n + 1) cap) b2 v2 W' := by
  have hk := kept_own hg
  have hlt : ∀ q ∈ u1.ownBlock.toList, q < w0.heap.size := fun q hq => (hs.hu1 q (by simpa using hq)).1
  refine ⟨h.kp.trans hk (fun i hi => .inl (by simp [Option.mem_toList] at hi ⊢; simp [hi])), h.bx.kept hk (fun hm => (hs.hu1 bx (by simpa using hm)).2 rfl), ?_, ?_, ?_⟩
  · rw [also_self]
    exact ⟨fun hd => (by cases hd), fun _ => ⟨ho, q, cap, rfl, hq.imp id (fun e => by rw [e]; exact h.kp.size)⟩, fun _ hd => (by cases hd)⟩
  · rw [also_ne (by decide), also_ne (by decide)]; exact h.l2.far hk (fun q hq hm => hs.d12.symm q hq (by simpa using hm)) hlt
  · rw [also_ne (j := 11) (by decide)]
    exact fun _ hd => dj_ap (by have := h.l2; rwa [hd] at this) hs.d12 (fun q hq => (hs.hu1 q hq).1) hq
theorem CJ.mk2 (h : CJ w0 B bx n x1 x2 u1 u2 f l D b1 v1 b2 v2 W) : CJ w0 B bx n x1 x2 u1 u2 f l (also D 10) b1 v1 W.heap.size v2 (W.alloc (.cells #[.int .u32 l] 55)) := by
  have hb : Bel W (W.alloc (.cells #[.int .u32 l] 55)) := (Bel.refl W).alloc _
  have hk : Kept [] W (W.alloc (.cells #[.int .u32 l] 55)) := Kept.of_bel hb
  refine ⟨h.kp.then hb, h.bx.bel hb, ?_, ?_, ?_⟩
  · rw [also_ne (by decide), also_ne (by decide)]; exact h.l1.far hk (by simp) (by simp)
  · rw [also_self, also_ne (by decide)]
    exact ⟨fun hd => own_bel (h.l2.old hd) hb, (h.l2.far hk (by simp) (by simp)).new, fun _ _ => ⟨Blk.new W _ [_], h.kp.size⟩⟩
  · rw [also_ne (j := 5) (by decide), also_ne (j := 11) (by decide)]; exact h.d12
theorem CJ.ap2 (hs : CT w0 bx u1 u2) (h : CJ w0 B bx n x1 x2 u1 u2 f l D b1 v1 b2 v2 W) {q cap : Nat} (ho : W'.ownsRow B 55 1 (.slice (some ⟨q, 0, none⟩) (n + 1) cap) (n + 1) (x2 ++ [.int .u32 l])) (hg : W.grownBy W' u2.ownBlock) (hq : u2.ownBlock = some q ∨ q = W.heap.size) : CJ w0 B bx n x1 x2 u1 u2 f l (also D 11) b1 v1 b2 (.slice (some ⟨q, 0, none⟩) (n + 1) cap) W' := by
  have hk := kept_own hg
  have hlt : ∀ q ∈ u2.ownBlock.toList, q < w0.heap.size := fun q hq => (hs.hu2 q (by simpa using hq)).1
  refine ⟨h.kp.trans hk (fun i hi => .inl (by simp [Option.mem_toList] at hi ⊢; simp [hi])), h.bx.kept hk (fun hm => (hs.hu2 bx (by simpa using hm)).2 rfl), ?_, ?_, ?_⟩
  · rw [also_ne (by decide), also_ne (by decide)]; exact h.l1.far hk (fun q hq hm => hs.d12 q hq (by simpa using hm)) hlt
  · rw [also_self]
    exact ⟨fun hd => (by cases hd), fun _ => ⟨ho, q, cap, rfl, hq.imp id (fun e => by rw [e]; exact h.kp.size)⟩, fun _ hd => (by cases hd)⟩
  · rw [also_ne (j := 5) (by decide)]
    exact fun hd _ => (dj_ap (by have := h.l1; rwa [hd] at this) hs.d12.symm (fun q hq => (hs.hu2 q hq).1) hq).symm
end

/-! ### What the first loop keeps -/
abbrev TTY : TypeId := 49
structure LA (w W : World) (tb : Nat) (fs : Nat → Int) (ns : Nat → Nat) (gs : List Nat) (nr nf nl : Nat) (S : List Nat) (vb vf v1 v2 : Value) : Prop where
  bel : Bel w W
  tbl : w.heap.size ≤ tb
  tab : TabB W tb TTY [] gs (nmsOf gs.length) (List.range nr) S
  ge : ∀ x ∈ gs ++ S, w.heap.size ≤ x
  rb : W.ownsRow w.heap.size 53 1 vb gs.length (gs.map ptr)
  rf : W.ownsRow w.heap.size 3 1 vf nf (filesV nf)
  r1 : W.ownsRow w.heap.size 55 1 v1 nl (firstV fs nl)
  r2 : W.ownsRow w.heap.size 55 1 v2 nl (lastV fs ns nl)
  d : Dj v1 v2
  nb : ∀ q, vb.ownBlock = some q → q ∉ S
section
variable {w W W' : World} {tb : Nat} {fs : Nat → Int} {ns : Nat → Nat} {gs : List Nat} {nr nf nl : Nat} {S : List Nat} {vb vf v1 v2 : Value}
theorem LA.on (h : LA w W tb fs ns gs nr nf nl S vb vf v1 v2) (hb : Bel W W') : LA w W' tb fs ns gs nr nf nl S vb vf v1 v2 :=
  ⟨h.bel.trans hb, h.tbl, h.tab.bel hb, h.ge, own_bel h.rb hb, own_bel h.rf hb, own_bel h.r1 hb, own_bel h.r2 hb, h.d, h.nb⟩
/-- The table's own blocks hold no row of another element type. -/
theorem Tab.notMine {W : World} {t : Nat} {ty : TypeId} {rest : List Value} {R : List Nat} {NM : List ByteArray} {S : List Nat} (h : Tab W t ty rest R NM S) {base : Nat} {e : TypeId} {size n : Nat} {u : Value} {xs : List Value} (ho : W.ownsRow base e size u n xs) (h3 : e ≠ 53) : ∀ q, u.ownBlock = some q → q ∉ S := by
  intro q hq hS
  have hobj : ∃ cur, W.heap[q]? = some (.cells cur e (0, 0)) := by
    rcases ho.2 with ⟨rfl, _⟩ | ⟨g, cap, cur, rfl, _, hh, _⟩
    · simp [Value.ownBlock] at hq
    · have : g = q := by simpa [Value.ownBlock] using hq
      subst this
      exact ⟨cur, hh⟩
  obtain ⟨cur, hh⟩ := hobj
  obtain ⟨_, ⟨_, _, rfl, _⟩ | ⟨gv, bi, bn, _, rfl, cap, _, hv, hi, hn, _⟩⟩ := h
  · simp at hS
  · simp at hS
    rcases hS with rfl | rfl | rfl
    · exact own_own_ne2 ho hv h3 _ hq rfl
    · unfold MapB at hi; rw [hh] at hi; cases hi
    · unfold MapB at hn; rw [hh] at hn; cases hn
theorem LA.base (h : LA w W tb fs ns gs nr nf nl S vb vf v1 v2) (hl : gs.length < 100) {g : Nat} (hB : Blk W g 73 (fileBase g (nmOf gs.length) (-1))) (hg : g ∉ gs) (hwg : w.heap.size ≤ g) {W1 : World} (hW : Bel W W1) {vb' : Value}
    (ho : W'.ownsRow w.heap.size 53 1 vb' (gs.length + 1) (gs.map ptr ++ [ptr g])) (hgr : W1.grownBy W' vb.ownBlock) (hq : vb'.ownBlock = vb.ownBlock ∨ vb'.ownBlock = some (W1.heap.size + 1)) : LA w W' tb fs ns (gs ++ [g]) nr nf nl S vb' vf v1 v2 := by
  have h1 := h.on hW
  have hS1 : ∀ x ∈ S, x < W1.heap.size := fun x hx => h1.tab.lt x (by simp [hx])
  refine ⟨h1.bel.grown hgr (fun q hq => (h1.rb.lt q hq).1), h.tbl, ?_, ?_, ?_, own_far h1.rf h1.rb (by decide) hgr, own_far h1.r1 h1.rb (by decide) hgr, own_far h1.r2 h1.rb (by decide) hgr, h.d, ?_⟩
  · have hB' : Blk W' g 73 (fileBase g (nmOf gs.length) (-1)) := (hB.bel hW).grown hgr (fun e => own_ne h1.rb (hB.bel hW) (by decide) e.symm)
    have ht : TabB W' tb TTY [] gs (nmsOf gs.length) (List.range nr) S := by
      have hk := kept_own hgr
      refine h1.tab.kept hk (fun hm => ?_) (fun x hx hm => ?_) (fun x hx hm => h.nb x (by simpa using hm) hx)
      · obtain ⟨_, ⟨_, _, _, hb⟩ | ⟨gv, bi, bn, _, _, cap, hb, _⟩⟩ := h1.tab.1
        · exact own_ne h1.rb hb (by decide) (by simpa using hm)
        · exact own_ne h1.rb hb (by decide) (by simpa using hm)
      · obtain ⟨i, hi, rfl⟩ := List.getElem_of_mem hx
        have hb := h1.tab.2.1.one hi
        rw [List.getD_eq_getElem?_getD, List.getElem?_eq_getElem hi] at hb
        exact own_ne h1.rb hb (by decide) (by simpa using hm)
    have := ht.snoc hB' hg (nmOf_new hl) (by omega)
    rw [List.length_append, List.length_singleton, nmsOf_succ]
    exact this
  · intro x hx
    simp only [List.mem_append, List.mem_singleton] at hx
    rcases hx with (hx | rfl) | hx
    · exact h.ge x (by simp [hx])
    · exact hwg
    · exact h.ge x (by simp [hx])
  · exact own_eq ho (by simp) (by simp)
  · intro q hq2 hx
    rcases hq with e | e
    · exact h.nb q (by rw [← e]; exact hq2) hx
    · rw [e] at hq2
      injection hq2 with hq2
      have := hS1 q hx
      omega
theorem LA.reg (h : LA w W tb fs ns gs nr nf nl S vb vf v1 v2) {S' : List Nat} (ht : TabB W' tb TTY [] gs (nmsOf gs.length) (List.range (nr + 1)) S') (hS : ∀ x ∈ S', x ∈ S ∨ W.heap.size ≤ x) (hk : Kept (tb :: gs ++ S) W W') : LA w W' tb fs ns gs (nr + 1) nf nl S' vb vf v1 v2 := by
  have hz := h.bel.size
  have hno : ∀ {e : TypeId} {n : Nat} {u : Value} {xs : List Value}, W.ownsRow w.heap.size e 1 u n xs → e ≠ TTY → e ≠ 73 → (∀ q, u.ownBlock = some q → q ∉ S) → W'.ownsRow w.heap.size e 1 u n xs := fun {e n u xs} ho h1 h2 h3 => by
    refine own_kept ho hk (fun q hq hm => ?_)
    simp only [List.cons_append, List.mem_cons, List.mem_append] at hm
    rcases hm with rfl | hm | hm
    · obtain ⟨_, ⟨_, _, _, hb⟩ | ⟨gv, bi, bn, _, _, cap, hb, _⟩⟩ := h.tab.1
      · exact own_ne ho hb h1 hq
      · exact own_ne ho hb h1 hq
    · obtain ⟨i, hi, rfl⟩ := List.getElem_of_mem hm
      have hb := h.tab.2.1.one hi
      rw [List.getD_eq_getElem?_getD, List.getElem?_eq_getElem hi] at hb
      exact own_ne ho hb h2 hq
    · exact h3 q hq hm
  refine ⟨?_, h.tbl, ht, fun x hx => ?_, hno h.rb (by decide) (by decide) h.nb, hno h.rf (by decide) (by decide) (h.tab.1.notMine h.rf (by decide)), hno h.r1 (by decide) (by decide) (h.tab.1.notMine h.r1 (by decide)), hno h.r2 (by decide) (by decide) (h.tab.1.notMine h.r2 (by decide)), h.d, fun q hq hx => ?_⟩
  · refine h.bel.kept hk (fun i hi => ?_)
    simp only [List.cons_append, List.mem_cons] at hi
    rcases hi with rfl | hi
    · exact h.tbl
    · exact h.ge i hi
  · rcases List.mem_append.1 hx with hx | hx
    · exact h.ge x (by simp [hx])
    · rcases hS x hx with hx | hx
      · exact h.ge x (by simp [hx])
      · omega
  · rcases hS q hx with hx | hx
    · exact h.nb q hq hx
    · have := (h.rb.lt q hq).2; omega
theorem LA.file (h : LA w W tb fs ns gs nr nf nl S vb vf v1 v2) {vf' : Value} (ho : W'.ownsRow w.heap.size 3 1 vf' (nf + 1) (filesV nf ++ [.int .i64 ((nf : Int) + 1)])) (hgr : W.grownBy W' vf.ownBlock) : LA w W' tb fs ns gs nr (nf + 1) nl S vb vf' v1 v2 := by
  have e : filesV nf ++ [.int .i64 ((nf : Int) + 1)] = filesV (nf + 1) := by simp [filesV, List.range_succ]
  rw [e] at ho
  refine ⟨h.bel.grown hgr (fun q hq => (h.rf.lt q hq).1), h.tbl, ?_, h.ge, own_far h.rb h.rf (by decide) hgr, ho, own_far h.r1 h.rf (by decide) hgr, own_far h.r2 h.rf (by decide) hgr, h.d, h.nb⟩
  have hk := kept_own hgr
  refine h.tab.kept hk (fun hm => ?_) (fun x hx hm => ?_) (fun x hx hm => h.tab.1.notMine h.rf (by decide) x (by simpa using hm) hx)
  · obtain ⟨_, ⟨_, _, _, hb⟩ | ⟨gv, bi, bn, _, _, cap, hb, _⟩⟩ := h.tab.1
    · exact own_ne h.rf hb (by decide) (by simpa using hm)
    · exact own_ne h.rf hb (by decide) (by simpa using hm)
  · obtain ⟨i, hi, rfl⟩ := List.getElem_of_mem hx
    have hb := h.tab.2.1.one hi
    rw [List.getD_eq_getElem?_getD, List.getElem?_eq_getElem hi] at hb
    exact own_ne h.rf hb (by decide) (by simpa using hm)
theorem LA.ct (h : LA w W tb fs ns gs nr nf nl S vb vf v1 v2) {bx : Nat} {cs : List Value} (hb : Blk W bx 40 cs) : CT W bx v1 v2 :=
  ⟨fun q hq => ⟨(h.r1.lt q hq).2, fun e => own_ne h.r1 hb (by decide) (e ▸ hq)⟩, fun q hq => ⟨(h.r2.lt q hq).2, fun e => own_ne h.r2 hb (by decide) (e ▸ hq)⟩, h.d⟩
theorem LA.two (h : LA w W tb fs ns gs nr nf nl S vb vf v1 v2) {bx b1 b2 : Nat} {u1 u2 : Value} {f l : Int} {D : Nat → Bool} (hf : fs nl = f) (hl : f + (ns nl : Int) - 1 = l) (hc : CJ W w.heap.size bx nl (firstV fs nl) (lastV fs ns nl) v1 v2 f l D b1 u1 b2 u2 W') (h5 : D 5 = true) (h11 : D 11 = true) : LA w W' tb fs ns gs nr nf (nl + 1) S vb vf u1 u2 := by
  have hk := hc.kp
  have hno : ∀ {e : TypeId} {n : Nat} {u : Value} {xs : List Value}, W.ownsRow w.heap.size e 1 u n xs → e ≠ 55 → W'.ownsRow w.heap.size e 1 u n xs := fun {e n u xs} ho h1 => by
    refine own_kept ho hk (fun q hq hm => ?_)
    simp only [List.mem_append, Option.mem_toList] at hm
    rcases hm with hm | hm
    · exact own_own_ne2 ho h.r1 h1 q hq hm
    · exact own_own_ne2 ho h.r2 h1 q hq hm
  have hnb : ∀ g t cs, Blk W g t cs → 55 ≠ t → g ∉ v1.ownBlock.toList ++ v2.ownBlock.toList := fun g t cs hb hne hm => by
    simp only [List.mem_append, Option.mem_toList] at hm
    rcases hm with hm | hm
    · exact own_ne h.r1 hb hne hm
    · exact own_ne h.r2 hb hne hm
  refine ⟨h.bel.kept hk (fun i hi => ?_), h.tbl, ?_, h.ge, hno h.rb (by decide), hno h.rf (by decide), ?_, ?_, hc.d12 h5 h11, h.nb⟩
  · simp only [List.mem_append, Option.mem_toList] at hi
    rcases hi with hi | hi
    · exact (h.r1.lt i hi).1
    · exact (h.r2.lt i hi).1
  · refine h.tab.kept hk ?_ (fun x hx => ?_) (fun x hx hm => ?_)
    · obtain ⟨_, ⟨_, _, _, hb⟩ | ⟨gv, bi, bn, _, _, cap, hb, _⟩⟩ := h.tab.1
      · exact hnb _ _ _ hb (by decide)
      · exact hnb _ _ _ hb (by decide)
    · obtain ⟨i, hi, rfl⟩ := List.getElem_of_mem hx
      have hb := h.tab.2.1.one hi
      rw [List.getD_eq_getElem?_getD, List.getElem?_eq_getElem hi] at hb
      exact hnb _ _ _ hb (by decide)
    · simp only [List.mem_append, Option.mem_toList] at hm
      rcases hm with hm | hm
      · exact h.tab.1.notMine h.r1 (by decide) x hm hx
      · exact h.tab.1.notMine h.r2 (by decide) x hm hx
  · have e : firstV fs nl ++ [.int .u32 f] = firstV fs (nl + 1) := by simp [firstV, List.range_succ, hf]
    have := (hc.l1.new h5).1
    rwa [e] at this
  · have e : lastV fs ns nl ++ [.int .u32 l] = lastV fs ns (nl + 1) := by simp [lastV, List.range_succ, hf, hl]
    have := (hc.l2.new h11).1
    rwa [e] at this
end
end Go.Proofs.Ytangceejmjklcaa
