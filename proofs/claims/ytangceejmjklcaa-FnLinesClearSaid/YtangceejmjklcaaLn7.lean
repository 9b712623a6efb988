/- The closure of impl.lineStep: three appends to the rows of an answer, in any order. -/
import Derived.Test.YtangceejmjklcaaLn6
import Derived.Test.YtangceejmjklcaaInv3
namespace Go.Proofs.Ytangceejmjklcaa
open Go.RowKit Go.BigFrame

theorem elI64 : ElTy 31 2 1 8 := ElTy.mk' (z := .int .i64 0) Try.underlying31 (by kernel_rfl) rfl (by decide)

/-- One of the three rows: as it was, or with one element more; the element lies in a block of its own. -/
structure LaneC (w0 W : World) (e : TypeId) (B n : Nat) (u v : Value) (xs : List Value) (c : Value) (b : Nat) (made done : Bool) : Prop where
  old : done = false → W.ownsRow B e 1 u n xs
  new : done = true → W.ownsRow B e 1 v (n + 1) (xs ++ [c]) ∧ ∃ q k, v = .slice (some ⟨q, 0, none⟩) (n + 1) k ∧ (u.ownBlock = some q ∨ w0.heap.size ≤ q)
  blk : made = true → done = false → Blk W b e [c] ∧ w0.heap.size ≤ b
theorem LaneC.far {w0 W W' : World} {e : TypeId} {B n b : Nat} {u v c : Value} {xs : List Value} {m d : Bool} (h : LaneC w0 W e B n u v xs c b m d) {S : List Nat} (hk : Kept S W W') (h1 : ∀ q, u.ownBlock = some q → q ∉ S) (h2 : ∀ q ∈ S, q < w0.heap.size) : LaneC w0 W' e B n u v xs c b m d := by
  refine ⟨fun hd => own_kept (h.old hd) hk h1, fun hd => ?_, fun hm hd => ?_⟩
  · obtain ⟨ho, q, k, rfl, hq⟩ := h.new hd
    refine ⟨own_kept ho hk (fun r hr => ?_), q, k, rfl, hq⟩
    have : q = r := by simpa [Value.ownBlock] using hr
    subst this
    rcases hq with hq | hq
    · exact h1 _ hq
    · intro hm; have := h2 _ hm; omega
  · obtain ⟨hb, hge⟩ := h.blk hm hd
    exact ⟨hb.kept hk (fun hm => by have := h2 _ hm; omega), hge⟩
theorem kept_own {W W' : World} {u : Value} (hg : W.grownBy W' u.ownBlock) : Kept u.ownBlock.toList W W' :=
  ⟨hg.os, hg.tape, hg.output, hg.size, fun k hk hr => hg.block k hk (fun e => hr (by rw [← e]; simp))⟩
/-- Two rows lie apart. -/
def Dj (u v : Value) : Prop := ∀ q, u.ownBlock = some q → v.ownBlock ≠ some q
theorem Dj.symm {u v : Value} (h : Dj u v) : Dj v u := fun q h1 h2 => h q h2 h1
structure CS (w0 : World) (o : Nat) (u1 u2 u3 : Value) : Prop where
  ho : o < w0.heap.size
  hu1 : ∀ q, u1.ownBlock = some q → q < w0.heap.size ∧ q ≠ o
  hu2 : ∀ q, u2.ownBlock = some q → q < w0.heap.size ∧ q ≠ o
  hu3 : ∀ q, u3.ownBlock = some q → q < w0.heap.size ∧ q ≠ o
  d12 : Dj u1 u2
  d13 : Dj u1 u3
  d23 : Dj u2 u3
/-- The worlds of the region. -/
structure CI (w0 : World) (B o n : Nat) (ok va : Value) (x1 x2 x3 : List Value) (u1 u2 u3 : Value) (j l x : Int) (D : Nat → Bool) (b1 : Nat) (v1 : Value) (b2 : Nat) (v2 : Value) (b3 : Nat) (v3 : Value) (W : World) : Prop where
  kp : Kept (o :: (u1.ownBlock.toList ++ (u2.ownBlock.toList ++ u3.ownBlock.toList))) w0 W
  bx : Blk W o 33 [ok, va, if D 19 = true then v1 else u1, if D 21 = true then v2 else u2, if D 23 = true then v3 else u3]
  l1 : LaneC w0 W 2 B n u1 v1 x1 (.int .i64 j) b1 (D 4) (D 5)
  l2 : LaneC w0 W 2 B n u2 v2 x2 (.int .i64 l) b2 (D 10) (D 11)
  l3 : LaneC w0 W 2 B n u3 v3 x3 (.int .i64 x) b3 (D 16) (D 17)
  d12 : D 5 = true → D 11 = true → Dj v1 v2
  d13 : D 5 = true → D 17 = true → Dj v1 v3
  d23 : D 11 = true → D 17 = true → Dj v2 v3
theorem dj_ap {w0 W : World} {e : TypeId} {B n b : Nat} {uk u v c : Value} {xs : List Value} {m : Bool} (h : LaneC w0 W e B n u v xs c b m true) (hd : Dj uk u) (hk : ∀ q, uk.ownBlock = some q → q < w0.heap.size) {q cap n' : Nat} (hq : uk.ownBlock = some q ∨ q = W.heap.size) : Dj (.slice (some ⟨q, 0, none⟩) n' cap) v := by
  obtain ⟨ho, r, k, rfl, hr⟩ := h.new rfl
  intro z hz hz2
  have a1 : q = z := by simpa [Value.ownBlock] using hz
  have a2 : r = z := by simpa [Value.ownBlock] using hz2
  subst a1
  subst a2
  have hlt := (ho.lt r (by simp [Value.ownBlock])).2
  rcases hq with hq | hq
  · rcases hr with hr | hr
    · exact hd _ hq hr
    · have := hk _ hq; omega
  · omega
section
variable {w0 W W' : World} {B o n b1 b2 b3 : Nat} {ok va : Value} {x1 x2 x3 : List Value} {u1 u2 u3 v1 v2 v3 : Value} {j l x : Int} {D : Nat → Bool}
theorem CI.quiet (h : CI w0 B o n ok va x1 x2 x3 u1 u2 u3 j l x D b1 v1 b2 v2 b3 v3 W) {k : Nat} (hk : k ∉ [4, 5, 10, 11, 16, 17, 19, 21, 23]) : CI w0 B o n ok va x1 x2 x3 u1 u2 u3 j l x (also D k) b1 v1 b2 v2 b3 v3 W := by
  simp only [List.mem_cons, List.not_mem_nil, or_false, not_or] at hk
  obtain ⟨h4, h5, h10, h11, h16, h17, h19, h21, h23⟩ := hk
  refine ⟨h.kp, ?_, ?_, ?_, ?_, ?_, ?_, ?_⟩
  · rw [also_ne (Ne.symm h19), also_ne (Ne.symm h21), also_ne (Ne.symm h23)]; exact h.bx
  · rw [also_ne (Ne.symm h4), also_ne (Ne.symm h5)]; exact h.l1
  · rw [also_ne (Ne.symm h10), also_ne (Ne.symm h11)]; exact h.l2
  · rw [also_ne (Ne.symm h16), also_ne (Ne.symm h17)]; exact h.l3
  · rw [also_ne (Ne.symm h5), also_ne (Ne.symm h11)]; exact h.d12
  · rw [also_ne (Ne.symm h5), also_ne (Ne.symm h17)]; exact h.d13
  · rw [also_ne (Ne.symm h11), also_ne (Ne.symm h17)]; exact h.d23
theorem CI.mk1 (_hs : CS w0 o u1 u2 u3) (h : CI w0 B o n ok va x1 x2 x3 u1 u2 u3 j l x D b1 v1 b2 v2 b3 v3 W) : CI w0 B o n ok va x1 x2 x3 u1 u2 u3 j l x (also D 4) W.heap.size v1 b2 v2 b3 v3 (W.alloc (.cells #[.int .i64 j] 2)) := by
  have hb : Bel W (W.alloc (.cells #[.int .i64 j] 2)) := (Bel.refl W).alloc _
  have hk : Kept [] W (W.alloc (.cells #[.int .i64 j] 2)) := Kept.of_bel hb
  refine ⟨h.kp.then hb, ?_, ?_, ?_, ?_, ?_, ?_, ?_⟩
  · rw [also_ne (by decide), also_ne (by decide), also_ne (by decide)]; exact h.bx.bel hb
  · rw [also_self, also_ne (by decide)]
    exact ⟨fun hd => own_bel (h.l1.old hd) hb, (h.l1.far hk (by simp) (by simp)).new, fun _ _ => ⟨Blk.new W _ [_], h.kp.size⟩⟩
  · rw [also_ne (by decide), also_ne (by decide)]; exact h.l2.far hk (by simp) (by simp)
  · rw [also_ne (by decide), also_ne (by decide)]; exact h.l3.far hk (by simp) (by simp)
  · rw [also_ne (j := 5) (by decide), also_ne (j := 11) (by decide)]; exact h.d12
  · rw [also_ne (j := 5) (by decide), also_ne (j := 17) (by decide)]; exact h.d13
  · rw [also_ne (j := 11) (by decide), also_ne (j := 17) (by decide)]; exact h.d23
theorem CI.ap1 (hs : CS w0 o u1 u2 u3) (h : CI w0 B o n ok va x1 x2 x3 u1 u2 u3 j l x D b1 v1 b2 v2 b3 v3 W) (_hD : D 5 = false) (hD2 : D 19 = false) {q cap : Nat} (ho : W'.ownsRow B 2 1 (.slice (some ⟨q, 0, none⟩) (n + 1) cap) (n + 1) (x1 ++ [.int .i64 j])) (hg : W.grownBy W' u1.ownBlock) (hq : u1.ownBlock = some q ∨ q = W.heap.size) : CI w0 B o n ok va x1 x2 x3 u1 u2 u3 j l x (also D 5) b1 (.slice (some ⟨q, 0, none⟩) (n + 1) cap) b2 v2 b3 v3 W' := by
  have hk := kept_own hg
  have hlt : ∀ q ∈ u1.ownBlock.toList, q < w0.heap.size := fun q hq => (hs.hu1 q (by simpa using hq)).1
  refine ⟨h.kp.trans hk (fun i hi => .inl (by simp [Option.mem_toList] at hi ⊢; simp [hi])), ?_, ?_, ?_, ?_, ?_, ?_, ?_⟩
  · rw [also_ne (by decide), also_ne (by decide), also_ne (by decide)]
    have := h.bx.kept hk (fun hm => (hs.hu1 o (by simpa using hm)).2 rfl)
    rw [hD2] at this ⊢
    exact this
  · rw [also_self]
    exact ⟨fun hd => (by cases hd), fun _ => ⟨ho, q, cap, rfl, hq.imp id (fun e => by rw [e]; exact h.kp.size)⟩, fun _ hd => (by cases hd)⟩
  · rw [also_ne (by decide), also_ne (by decide)]; exact h.l2.far hk (fun q hq hm => hs.d12.symm q hq (by simpa using hm)) hlt
  · rw [also_ne (by decide), also_ne (by decide)]; exact h.l3.far hk (fun q hq hm => hs.d13.symm q hq (by simpa using hm)) hlt
  · rw [also_ne (j := 11) (by decide)]
    exact fun _ hd => dj_ap (by have := h.l2; rwa [hd] at this) hs.d12 (fun q hq => (hs.hu1 q hq).1) hq
  · rw [also_ne (j := 17) (by decide)]
    exact fun _ hd => dj_ap (by have := h.l3; rwa [hd] at this) hs.d13 (fun q hq => (hs.hu1 q hq).1) hq
  · rw [also_ne (j := 11) (by decide), also_ne (j := 17) (by decide)]; exact h.d23
theorem CI.st1 (hs : CS w0 o u1 u2 u3) (h : CI w0 B o n ok va x1 x2 x3 u1 u2 u3 j l x D b1 v1 b2 v2 b3 v3 W) : CI w0 B o n ok va x1 x2 x3 u1 u2 u3 j l x (also D 19) b1 v1 b2 v2 b3 v3 (W.setCell ⟨o, 2, none⟩ v1) := by
  have hk : Kept [o] W (W.setCell ⟨o, 2, none⟩ v1) := (Kept.refl _ W).setCell (p := ⟨o, 2, none⟩) (.inl (by simp)) _
  have hlt : ∀ q ∈ [o], q < w0.heap.size := fun q hq => by simp at hq; subst hq; exact hs.ho
  refine ⟨h.kp.trans hk (fun i hi => .inl (by simp at hi; simp [hi])), ?_, ?_, ?_, ?_, ?_, ?_, ?_⟩
  · rw [also_self, also_ne (j := 21) (by decide), also_ne (j := 23) (by decide)]
    exact h.bx.set 2 v1
  · rw [also_ne (by decide), also_ne (by decide)]; exact h.l1.far hk (fun q hq hm => (hs.hu1 q hq).2 (by simpa using hm)) hlt
  · rw [also_ne (by decide), also_ne (by decide)]; exact h.l2.far hk (fun q hq hm => (hs.hu2 q hq).2 (by simpa using hm)) hlt
  · rw [also_ne (by decide), also_ne (by decide)]; exact h.l3.far hk (fun q hq hm => (hs.hu3 q hq).2 (by simpa using hm)) hlt
  · rw [also_ne (j := 5) (by decide), also_ne (j := 11) (by decide)]; exact h.d12
  · rw [also_ne (j := 5) (by decide), also_ne (j := 17) (by decide)]; exact h.d13
  · rw [also_ne (j := 11) (by decide), also_ne (j := 17) (by decide)]; exact h.d23
theorem CI.mk2 (_hs : CS w0 o u1 u2 u3) (h : CI w0 B o n ok va x1 x2 x3 u1 u2 u3 j l x D b1 v1 b2 v2 b3 v3 W) : CI w0 B o n ok va x1 x2 x3 u1 u2 u3 j l x (also D 10) b1 v1 W.heap.size v2 b3 v3 (W.alloc (.cells #[.int .i64 l] 2)) := by
  have hb : Bel W (W.alloc (.cells #[.int .i64 l] 2)) := (Bel.refl W).alloc _
  have hk : Kept [] W (W.alloc (.cells #[.int .i64 l] 2)) := Kept.of_bel hb
  refine ⟨h.kp.then hb, ?_, ?_, ?_, ?_, ?_, ?_, ?_⟩
  · rw [also_ne (by decide), also_ne (by decide), also_ne (by decide)]; exact h.bx.bel hb
  · rw [also_ne (by decide), also_ne (by decide)]; exact h.l1.far hk (by simp) (by simp)
  · rw [also_self, also_ne (by decide)]
    exact ⟨fun hd => own_bel (h.l2.old hd) hb, (h.l2.far hk (by simp) (by simp)).new, fun _ _ => ⟨Blk.new W _ [_], h.kp.size⟩⟩
  · rw [also_ne (by decide), also_ne (by decide)]; exact h.l3.far hk (by simp) (by simp)
  · rw [also_ne (j := 5) (by decide), also_ne (j := 11) (by decide)]; exact h.d12
  · rw [also_ne (j := 5) (by decide), also_ne (j := 17) (by decide)]; exact h.d13
  · rw [also_ne (j := 11) (by decide), also_ne (j := 17) (by decide)]; exact h.d23
theorem CI.ap2 (hs : CS w0 o u1 u2 u3) (h : CI w0 B o n ok va x1 x2 x3 u1 u2 u3 j l x D b1 v1 b2 v2 b3 v3 W) (_hD : D 11 = false) (hD2 : D 21 = false) {q cap : Nat} (ho : W'.ownsRow B 2 1 (.slice (some ⟨q, 0, none⟩) (n + 1) cap) (n + 1) (x2 ++ [.int .i64 l])) (hg : W.grownBy W' u2.ownBlock) (hq : u2.ownBlock = some q ∨ q = W.heap.size) : CI w0 B o n ok va x1 x2 x3 u1 u2 u3 j l x (also D 11) b1 v1 b2 (.slice (some ⟨q, 0, none⟩) (n + 1) cap) b3 v3 W' := by
  have hk := kept_own hg
  have hlt : ∀ q ∈ u2.ownBlock.toList, q < w0.heap.size := fun q hq => (hs.hu2 q (by simpa using hq)).1
  refine ⟨h.kp.trans hk (fun i hi => .inl (by simp [Option.mem_toList] at hi ⊢; simp [hi])), ?_, ?_, ?_, ?_, ?_, ?_, ?_⟩
  · rw [also_ne (by decide), also_ne (by decide), also_ne (by decide)]
    have := h.bx.kept hk (fun hm => (hs.hu2 o (by simpa using hm)).2 rfl)
    rw [hD2] at this ⊢
    exact this
  · rw [also_ne (by decide), also_ne (by decide)]; exact h.l1.far hk (fun q hq hm => hs.d12 q hq (by simpa using hm)) hlt
  · rw [also_self]
    exact ⟨fun hd => (by cases hd), fun _ => ⟨ho, q, cap, rfl, hq.imp id (fun e => by rw [e]; exact h.kp.size)⟩, fun _ hd => (by cases hd)⟩
  · rw [also_ne (by decide), also_ne (by decide)]; exact h.l3.far hk (fun q hq hm => hs.d23.symm q hq (by simpa using hm)) hlt
  · rw [also_ne (j := 5) (by decide)]
    exact fun hd _ => (dj_ap (by have := h.l1; rwa [hd] at this) hs.d12.symm (fun q hq => (hs.hu2 q hq).1) hq).symm
  · rw [also_ne (j := 5) (by decide), also_ne (j := 17) (by decide)]; exact h.d13
  · rw [also_ne (j := 17) (by decide)]
    exact fun _ hd => dj_ap (by have := h.l3; rwa [hd] at this) hs.d23 (fun q hq => (hs.hu2 q hq).1) hq
theorem CI.st2 (hs : CS w0 o u1 u2 u3) (h : CI w0 B o n ok va x1 x2 x3 u1 u2 u3 j l x D b1 v1 b2 v2 b3 v3 W) : CI w0 B o n ok va x1 x2 x3 u1 u2 u3 j l x (also D 21) b1 v1 b2 v2 b3 v3 (W.setCell ⟨o, 3, none⟩ v2) := by
  have hk : Kept [o] W (W.setCell ⟨o, 3, none⟩ v2) := (Kept.refl _ W).setCell (p := ⟨o, 3, none⟩) (.inl (by simp)) _
  have hlt : ∀ q ∈ [o], q < w0.heap.size := fun q hq => by simp at hq; subst hq; exact hs.ho
  refine ⟨h.kp.trans hk (fun i hi => .inl (by simp at hi; simp [hi])), ?_, ?_, ?_, ?_, ?_, ?_, ?_⟩
  · rw [also_self, also_ne (j := 19) (by decide), also_ne (j := 23) (by decide)]
    exact h.bx.set 3 v2
  · rw [also_ne (by decide), also_ne (by decide)]; exact h.l1.far hk (fun q hq hm => (hs.hu1 q hq).2 (by simpa using hm)) hlt
  · rw [also_ne (by decide), also_ne (by decide)]; exact h.l2.far hk (fun q hq hm => (hs.hu2 q hq).2 (by simpa using hm)) hlt
  · rw [also_ne (by decide), also_ne (by decide)]; exact h.l3.far hk (fun q hq hm => (hs.hu3 q hq).2 (by simpa using hm)) hlt
  · rw [also_ne (j := 5) (by decide), also_ne (j := 11) (by decide)]; exact h.d12
  · rw [also_ne (j := 5) (by decide), also_ne (j := 17) (by decide)]; exact h.d13
  · rw [also_ne (j := 11) (by decide), also_ne (j := 17) (by decide)]; exact h.d23
theorem CI.mk3 (_hs : CS w0 o u1 u2 u3) (h : CI w0 B o n ok va x1 x2 x3 u1 u2 u3 j l x D b1 v1 b2 v2 b3 v3 W) : CI w0 B o n ok va x1 x2 x3 u1 u2 u3 j l x (also D 16) b1 v1 b2 v2 W.heap.size v3 (W.alloc (.cells #[.int .i64 x] 2)) := by
  have hb : Bel W (W.alloc (.cells #[.int .i64 x] 2)) := (Bel.refl W).alloc _
  have hk : Kept [] W (W.alloc (.cells #[.int .i64 x] 2)) := Kept.of_bel hb
  refine ⟨h.kp.then hb, ?_, ?_, ?_, ?_, ?_, ?_, ?_⟩
  · rw [also_ne (by decide), also_ne (by decide), also_ne (by decide)]; exact h.bx.bel hb
  · rw [also_ne (by decide), also_ne (by decide)]; exact h.l1.far hk (by simp) (by simp)
  · rw [also_ne (by decide), also_ne (by decide)]; exact h.l2.far hk (by simp) (by simp)
  · rw [also_self, also_ne (by decide)]
    exact ⟨fun hd => own_bel (h.l3.old hd) hb, (h.l3.far hk (by simp) (by simp)).new, fun _ _ => ⟨Blk.new W _ [_], h.kp.size⟩⟩
  · rw [also_ne (j := 5) (by decide), also_ne (j := 11) (by decide)]; exact h.d12
  · rw [also_ne (j := 5) (by decide), also_ne (j := 17) (by decide)]; exact h.d13
  · rw [also_ne (j := 11) (by decide), also_ne (j := 17) (by decide)]; exact h.d23
theorem CI.ap3 (hs : CS w0 o u1 u2 u3) (h : CI w0 B o n ok va x1 x2 x3 u1 u2 u3 j l x D b1 v1 b2 v2 b3 v3 W) (_hD : D 17 = false) (hD2 : D 23 = false) {q cap : Nat} (ho : W'.ownsRow B 2 1 (.slice (some ⟨q, 0, none⟩) (n + 1) cap) (n + 1) (x3 ++ [.int .i64 x])) (hg : W.grownBy W' u3.ownBlock) (hq : u3.ownBlock = some q ∨ q = W.heap.size) : CI w0 B o n ok va x1 x2 x3 u1 u2 u3 j l x (also D 17) b1 v1 b2 v2 b3 (.slice (some ⟨q, 0, none⟩) (n + 1) cap) W' := by
  have hk := kept_own hg
  have hlt : ∀ q ∈ u3.ownBlock.toList, q < w0.heap.size := fun q hq => (hs.hu3 q (by simpa using hq)).1
  refine ⟨h.kp.trans hk (fun i hi => .inl (by simp [Option.mem_toList] at hi ⊢; simp [hi])), ?_, ?_, ?_, ?_, ?_, ?_, ?_⟩
  · rw [also_ne (by decide), also_ne (by decide), also_ne (by decide)]
    have := h.bx.kept hk (fun hm => (hs.hu3 o (by simpa using hm)).2 rfl)
    rw [hD2] at this ⊢
    exact this
  · rw [also_ne (by decide), also_ne (by decide)]; exact h.l1.far hk (fun q hq hm => hs.d13 q hq (by simpa using hm)) hlt
  · rw [also_ne (by decide), also_ne (by decide)]; exact h.l2.far hk (fun q hq hm => hs.d23 q hq (by simpa using hm)) hlt
  · rw [also_self]
    exact ⟨fun hd => (by cases hd), fun _ => ⟨ho, q, cap, rfl, hq.imp id (fun e => by rw [e]; exact h.kp.size)⟩, fun _ hd => (by cases hd)⟩
  · rw [also_ne (j := 5) (by decide), also_ne (j := 11) (by decide)]; exact h.d12
  · rw [also_ne (j := 5) (by decide)]
    exact fun hd _ => (dj_ap (by have := h.l1; rwa [hd] at this) hs.d13.symm (fun q hq => (hs.hu3 q hq).1) hq).symm
  · rw [also_ne (j := 11) (by decide)]
    exact fun hd _ => (dj_ap (by have := h.l2; rwa [hd] at this) hs.d23.symm (fun q hq => (hs.hu3 q hq).1) hq).symm
theorem CI.st3 (hs : CS w0 o u1 u2 u3) (h : CI w0 B o n ok va x1 x2 x3 u1 u2 u3 j l x D b1 v1 b2 v2 b3 v3 W) : CI w0 B o n ok va x1 x2 x3 u1 u2 u3 j l x (also D 23) b1 v1 b2 v2 b3 v3 (W.setCell ⟨o, 4, none⟩ v3) := by
  have hk : Kept [o] W (W.setCell ⟨o, 4, none⟩ v3) := (Kept.refl _ W).setCell (p := ⟨o, 4, none⟩) (.inl (by simp)) _
  have hlt : ∀ q ∈ [o], q < w0.heap.size := fun q hq => by simp at hq; subst hq; exact hs.ho
  refine ⟨h.kp.trans hk (fun i hi => .inl (by simp at hi; simp [hi])), ?_, ?_, ?_, ?_, ?_, ?_, ?_⟩
  · rw [also_self, also_ne (j := 19) (by decide), also_ne (j := 21) (by decide)]
    exact h.bx.set 4 v3
  · rw [also_ne (by decide), also_ne (by decide)]; exact h.l1.far hk (fun q hq hm => (hs.hu1 q hq).2 (by simpa using hm)) hlt
  · rw [also_ne (by decide), also_ne (by decide)]; exact h.l2.far hk (fun q hq hm => (hs.hu2 q hq).2 (by simpa using hm)) hlt
  · rw [also_ne (by decide), also_ne (by decide)]; exact h.l3.far hk (fun q hq hm => (hs.hu3 q hq).2 (by simpa using hm)) hlt
  · rw [also_ne (j := 5) (by decide), also_ne (j := 11) (by decide)]; exact h.d12
  · rw [also_ne (j := 5) (by decide), also_ne (j := 17) (by decide)]; exact h.d13
  · rw [also_ne (j := 11) (by decide), also_ne (j := 17) (by decide)]; exact h.d23
end

/-- An answer that gathers lines: its block, its three rows. -/
def OutW (w : World) (B o : Nat) (ok va : Value) (fs ls vs : List Int) : Prop :=
  ∃ n u1 u2 u3, Blk w o 33 [ok, va, u1, u2, u3] ∧ w.ownsRow B 2 1 u1 n (fs.map (Value.int .i64)) ∧ w.ownsRow B 2 1 u2 n (ls.map (Value.int .i64)) ∧ w.ownsRow B 2 1 u3 n (vs.map (Value.int .i64)) ∧ Dj u1 u2 ∧ Dj u1 u3 ∧ Dj u2 u3 ∧ B ≤ o
def outT : List TypeId := [33, 2]
/-- The values of the operations. -/
def VC7 (o : Nat) (u1 u2 u3 : Value) (j l x : Int) (b1 : Nat) (v1 : Value) (b2 : Nat) (v2 : Value) (b3 : Nat) (v3 : Value) : List (Nat × Nat × Value) := [(0, 7, .pointer (some ⟨o, 2, none⟩)), (1, 8, u1), (2, 9, .int .i32 j), (3, 10, .int .i64 j), (4, 11, .slice (some ⟨b1, 0, none⟩) 1 1), (5, 12, v1), (6, 13, .pointer (some ⟨o, 3, none⟩)), (7, 14, u2), (8, 15, .int .u64 l), (9, 16, .int .i64 l), (10, 17, .slice (some ⟨b2, 0, none⟩) 1 1), (11, 18, v2), (12, 19, .pointer (some ⟨o, 4, none⟩)), (13, 20, u3), (14, 21, .int .i32 x), (15, 22, .int .i64 x), (16, 23, .slice (some ⟨b3, 0, none⟩) 1 1), (17, 24, v3), (18, 25, .pointer (some ⟨o, 2, none⟩)), (20, 26, .pointer (some ⟨o, 3, none⟩)), (22, 27, .pointer (some ⟨o, 4, none⟩))]
theorem VC7_slots (o : Nat) (u1 u2 u3 : Value) (j l x : Int) (b1 : Nat) (v1 : Value) (b2 : Nat) (v2 : Value) (b3 : Nat) (v3 : Value) : (VC7 o u1 u2 u3 j l x b1 v1 b2 v2 b3 v3).map (·.2.1) = [7, 8, 9, 10, 11, 12, 13, 14, 15, 16, 17, 18, 19, 20, 21, 22, 23, 24, 25, 26, 27] := rfl
theorem VC7_idx (o : Nat) (u1 u2 u3 : Value) (j l x : Int) (b1 : Nat) (v1 : Value) (b2 : Nat) (v2 : Value) (b3 : Nat) (v3 : Value) : (VC7 o u1 u2 u3 j l x b1 v1 b2 v2 b3 v3).map (·.1) = [0, 1, 2, 3, 4, 5, 6, 7, 8, 9, 10, 11, 12, 13, 14, 15, 16, 17, 18, 20, 22] := rfl
theorem VC7_nd (o : Nat) (u1 u2 u3 : Value) (j l x : Int) (b1 : Nat) (v1 : Value) (b2 : Nat) (v2 : Value) (b3 : Nat) (v3 : Value) : ((VC7 o u1 u2 u3 j l x b1 v1 b2 v2 b3 v3).map (·.2.1)).Nodup := by rw [VC7_slots]; decide
theorem VC7_nd' (o : Nat) (u1 u2 u3 : Value) (j l x : Int) (b1 : Nat) (v1 : Value) (b2 : Nat) (v2 : Value) (b3 : Nat) (v3 : Value) : ((VC7 o u1 u2 u3 j l x b1 v1 b2 v2 b3 v3).map (·.1)).Nodup := by rw [VC7_idx]; decide
theorem VC7_not0 (o : Nat) (u1 u2 u3 : Value) (j l x : Int) (b1 : Nat) (v1 : Value) (b2 : Nat) (v2 : Value) (b3 : Nat) (v3 : Value) : 0 ∉ (VC7 o u1 u2 u3 j l x b1 v1 b2 v2 b3 v3).map (·.2.1) := by rw [VC7_slots]; decide
theorem VC7_not1 (o : Nat) (u1 u2 u3 : Value) (j l x : Int) (b1 : Nat) (v1 : Value) (b2 : Nat) (v2 : Value) (b3 : Nat) (v3 : Value) : 1 ∉ (VC7 o u1 u2 u3 j l x b1 v1 b2 v2 b3 v3).map (·.2.1) := by rw [VC7_slots]; decide
theorem VC7_not2 (o : Nat) (u1 u2 u3 : Value) (j l x : Int) (b1 : Nat) (v1 : Value) (b2 : Nat) (v2 : Value) (b3 : Nat) (v3 : Value) : 2 ∉ (VC7 o u1 u2 u3 j l x b1 v1 b2 v2 b3 v3).map (·.2.1) := by rw [VC7_slots]; decide
theorem VC7_not3 (o : Nat) (u1 u2 u3 : Value) (j l x : Int) (b1 : Nat) (v1 : Value) (b2 : Nat) (v2 : Value) (b3 : Nat) (v3 : Value) : 3 ∉ (VC7 o u1 u2 u3 j l x b1 v1 b2 v2 b3 v3).map (·.2.1) := by rw [VC7_slots]; decide

theorem OutW.bel {w w' : World} {B o : Nat} {ok va : Value} {fs ls vs : List Int} (h : OutW w B o ok va fs ls vs) (hb : Bel w w') : OutW w' B o ok va fs ls vs := by
  obtain ⟨n, u1, u2, u3, h1, h2, h3, h4, h5⟩ := h
  exact ⟨n, u1, u2, u3, h1.bel hb, own_bel h2 hb, own_bel h3 hb, own_bel h4 hb, h5⟩
theorem CS.of {w : World} {B o n : Nat} {ok va u1 u2 u3 : Value} {x1 x2 x3 : List Value} (hb : Blk w o 33 [ok, va, u1, u2, u3]) (h1 : w.ownsRow B 2 1 u1 n x1) (h2 : w.ownsRow B 2 1 u2 n x2) (h3 : w.ownsRow B 2 1 u3 n x3) (d12 : Dj u1 u2) (d13 : Dj u1 u3) (d23 : Dj u2 u3) : CS w o u1 u2 u3 :=
  ⟨hb.lt, fun q hq => ⟨(h1.lt q hq).2, fun e => own_ne h1 hb (by decide) (e ▸ hq)⟩, fun q hq => ⟨(h2.lt q hq).2, fun e => own_ne h2 hb (by decide) (e ▸ hq)⟩, fun q hq => ⟨(h3.lt q hq).2, fun e => own_ne h3 hb (by decide) (e ▸ hq)⟩, d12, d13, d23⟩
theorem own_kt_mem {w : World} {B n : Nat} {u : Value} {x : List Value} (h : w.ownsRow B 2 1 u n x) {q : Nat} (hq : u.ownBlock = some q) : B ≤ q ∧ ∃ cs t m, w.heap[q]? = some (.cells cs t m) ∧ t ∈ outT := by
  refine ⟨(h.lt q hq).1, ?_⟩
  rcases h.2 with ⟨rfl, _⟩ | ⟨g', cap, cur, rfl, _, hh, _⟩
  · simp [Value.ownBlock] at hq
  · have : g' = q := by simpa [Value.ownBlock] using hq
    subst this
    exact ⟨_, _, _, hh, by simp [outT]⟩

set_option maxRecDepth 100000 in
set_option maxHeartbeats 4000000 in
theorem gather_any {w : World} {B o : Nat} {ok va : Value} {fs ls vs : List Int} (h : OutW w B o ok va fs ls vs) {j l x : Int} (hj0 : Val32 j) (hl0 : 0 ≤ l) (hl1 : l < 9223372036854775808) (hx0 : Val32 x) (hlen : fs.length ≤ 10000000000000) :
    Calls Try.prog 32 #[.int .i32 j, .int .u64 l, .int .i32 x, mptr o] w fun e w' => (∃ u, e = .returned u) ∧ OutW w' B o ok va (fs ++ [j]) (ls ++ [l]) (vs ++ [x]) ∧ KT outT B w w' := by
  obtain ⟨n, u1, u2, u3, hb, h1, h2, h3, d12, d13, d23, hBo⟩ := h
  have HS := CS.of hb h1 h2 h3 d12 d13 d23
  have hBw : B ≤ w.heap.size := Nat.le_trans hBo (Nat.le_of_lt hb.lt)
  have hn : n ≤ 10000000000000 := by have := h1.1; simp at this; omega
  have hj : IntKind.i64.wrap j = j := IntWalk.i64_in _ (by unfold Val32 at hj0; omega)
  have hl : IntKind.i64.wrap l = l := IntWalk.i64_in _ (by omega)
  have hx : IntKind.i64.wrap x = x := IntWalk.i64_in _ (by unfold Val32 at hx0; omega)
  obtain ⟨x1, hx1⟩ : ∃ y, y = fs.map (Value.int .i64) := ⟨_, rfl⟩
  obtain ⟨x2, hx2⟩ : ∃ y, y = ls.map (Value.int .i64) := ⟨_, rfl⟩
  obtain ⟨x3, hx3⟩ : ∃ y, y = vs.map (Value.int .i64) := ⟨_, rfl⟩
  rw [← hx1] at h1
  rw [← hx2] at h2
  rw [← hx3] at h3
  have HX := Lib.hid (And.intro hx1 (And.intro hx2 hx3))
  clear hx1 hx2 hx3
  have HEI : Hid (CI w B o n ok va x1 x2 x3 u1 u2 u3 j l x (fun _ => false) 0 (.bool false) 0 (.bool false) 0 (.bool false) w.drew) := Lib.hid
    ⟨(Kept.refl _ w).drew, hb.drew, ⟨fun _ => own_bel h1 (Bel.refl w).drew, fun h => (by cases h), fun h => (by cases h)⟩, ⟨fun _ => own_bel h2 (Bel.refl w).drew, fun h => (by cases h), fun h => (by cases h)⟩, ⟨fun _ => own_bel h3 (Bel.refl w).drew, fun h => (by cases h), fun h => (by cases h)⟩, fun h => (by cases h), fun h => (by cases h), fun h => (by cases h)⟩
  have HKM : Hid (∀ i ∈ o :: (u1.ownBlock.toList ++ (u2.ownBlock.toList ++ u3.ownBlock.toList)), B ≤ i ∧ ∃ cs t m, w.heap[i]? = some (.cells cs t m) ∧ t ∈ outT) := Lib.hid (fun i hi => by
    simp only [List.mem_cons, List.mem_append, Option.mem_toList] at hi
    rcases hi with rfl | hi | hi | hi
    · exact ⟨hBo, _, _, _, hb, by simp [outT]⟩
    · exact own_kt_mem h1 hi
    · exact own_kt_mem h2 hi
    · exact own_kt_mem h3 hi)
  clear hb h1 h2 h3 d12 d13 d23 hlen
  go_enter Try.func32, Try.ntmps32
  go_upto_region 0 with (fail)
  refine act_name (fun a0 ha0 => ?_)
  have so0 : a0.eval (.tmp 0) = .int .i32 j := by rw [ha0]; rfl
  have so1 : a0.eval (.tmp 1) = .int .u64 l := by rw [ha0]; rfl
  have so2 : a0.eval (.tmp 2) = .int .i32 x := by rw [ha0]; rfl
  have so3 : a0.eval (.tmp 3) = mptr o := by rw [ha0]; rfl
  have hsz : a0.tmps.size = 28 := by rw [ha0]; rfl
  have HA0 := Lib.hid ha0; clear ha0
  refine region_obs3 (fun D a' W => ∃ (b1 : Nat) (v1 : Value) (b2 : Nat) (v2 : Value) (b3 : Nat) (v3 : Value), a' = frC a0 D (VC7 o u1 u2 u3 j l x b1 v1 b2 v2 b3 v3) ∧ CI w B o n ok va x1 x2 x3 u1 u2 u3 j l x D b1 v1 b2 v2 b3 v3 W) (by kernel_rfl) (by kernel_rfl) ⟨0, .bool false, 0, .bool false, 0, .bool false, (frC_none _ _).symm, HEI.out⟩ ?_ ?_
  · refine ⟨?_, ?_, ?_, ?_, ?_, ?_, ?_, ?_, ?_, ?_, ?_, ?_, ?_, ?_, ?_, ?_, ?_, ?_, ?_, ?_, ?_, ?_, ?_, ?_, trivial⟩
    · rintro D _ W hD hcl hdeps ⟨b1, v1, b2, v2, b3, v3, rfl, hW⟩
      have e3 := ev_get ((frC_out (a0 := a0) (D := D) (VC7_not3 o u1 u2 u3 j l x b1 v1 b2 v2 b3 v3)).trans so3)
      refine ob_val rfl (v := .pointer (some ⟨o, 2, none⟩)) (by simp [execOp, go_sem, e3]) ⟨b1, v1, b2, v2, b3, v3, frC_put hD (by simp [VC7]) (VC7_nd _ _ _ _ _ _ _ _ _ _ _ _ _) (VC7_nd' _ _ _ _ _ _ _ _ _ _ _ _ _), hW.quiet (by decide)⟩
    · rintro D _ W hD hcl hdeps ⟨b1, v1, b2, v2, b3, v3, rfl, hW⟩
      have hd0 : D 0 = true := hdeps ⟨0, .data⟩ (by simp) rfl
      have e7 := ev_get (frC_in (v := .pointer (some ⟨o, 2, none⟩)) hd0 (show 7 < a0.tmps.size by rw [hsz]; decide) (vs := VC7 o u1 u2 u3 j l x b1 v1 b2 v2 b3 v3) (by simp [VC7]) (VC7_nd _ _ _ _ _ _ _ _ _ _ _ _ _))
      have hn5 : D 5 = false := by cases h : D 5; rfl; have := hcl 5 _ rfl h ⟨1, .data⟩ (by simp) rfl; rw [hD] at this; cases this
      have hn19 : D 19 = false := by cases h : D 19; rfl; have := hcl 19 _ rfl h ⟨5, .data⟩ (by simp) rfl; rw [hn5] at this; cases this
      have z0 : W.cell? ⟨o, 2, none⟩ = some u1 := by have := hW.bx.cell 2; rw [hn19] at this; exact this
      refine ob_val rfl (v := u1) (by simp [execOp, go_sem, e7, z0]) ⟨b1, v1, b2, v2, b3, v3, frC_put hD (by simp [VC7]) (VC7_nd _ _ _ _ _ _ _ _ _ _ _ _ _) (VC7_nd' _ _ _ _ _ _ _ _ _ _ _ _ _), hW.quiet (by decide)⟩
    · rintro D _ W hD hcl hdeps ⟨b1, v1, b2, v2, b3, v3, rfl, hW⟩
      have e0 := ev_get ((frC_out (a0 := a0) (D := D) (VC7_not0 o u1 u2 u3 j l x b1 v1 b2 v2 b3 v3)).trans so0)
      refine ob_val rfl (v := .int .i32 j) (by simp [execOp, go_sem, e0]) ⟨b1, v1, b2, v2, b3, v3, frC_put hD (by simp [VC7]) (VC7_nd _ _ _ _ _ _ _ _ _ _ _ _ _) (VC7_nd' _ _ _ _ _ _ _ _ _ _ _ _ _), hW.quiet (by decide)⟩
    · rintro D _ W hD hcl hdeps ⟨b1, v1, b2, v2, b3, v3, rfl, hW⟩
      have hd2 : D 2 = true := hdeps ⟨2, .data⟩ (by simp) rfl
      have e9 := ev_get (frC_in (v := .int .i32 j) hd2 (show 9 < a0.tmps.size by rw [hsz]; decide) (vs := VC7 o u1 u2 u3 j l x b1 v1 b2 v2 b3 v3) (by simp [VC7]) (VC7_nd _ _ _ _ _ _ _ _ _ _ _ _ _))
      refine ob_val rfl (v := .int .i64 j) (by simp [execOp, go_sem, e9, hj]) ⟨b1, v1, b2, v2, b3, v3, frC_put hD (by simp [VC7]) (VC7_nd _ _ _ _ _ _ _ _ _ _ _ _ _) (VC7_nd' _ _ _ _ _ _ _ _ _ _ _ _ _), hW.quiet (by decide)⟩
    · rintro D _ W hD hcl hdeps ⟨b1, v1, b2, v2, b3, v3, rfl, hW⟩
      have hd3 : D 3 = true := hdeps ⟨3, .data⟩ (by simp) rfl
      have e10 := ev_get (frC_in (v := .int .i64 j) hd3 (show 10 < a0.tmps.size by rw [hsz]; decide) (vs := VC7 o u1 u2 u3 j l x b1 v1 b2 v2 b3 v3) (by simp [VC7]) (VC7_nd _ _ _ _ _ _ _ _ _ _ _ _ _))
      refine ob_val rfl (v := .slice (some ⟨W.heap.size, 0, none⟩) 1 1) (w' := W.alloc (.cells #[.int .i64 j] 2)) (by simp [execOp, go_sem, e10]) ⟨W.heap.size, v1, b2, v2, b3, v3, by rw [show frC a0 D (VC7 o u1 u2 u3 j l x b1 v1 b2 v2 b3 v3) = frC a0 D (VC7 o u1 u2 u3 j l x (W.heap.size) v1 b2 v2 b3 v3) from by simp only [VC7, frC, hD, Bool.false_eq_true, if_false]]; exact frC_put hD (by simp [VC7]) (VC7_nd _ _ _ _ _ _ _ _ _ _ _ _ _) (VC7_nd' _ _ _ _ _ _ _ _ _ _ _ _ _), hW.mk1 HS⟩
    · rintro D _ W hD hcl hdeps ⟨b1, v1, b2, v2, b3, v3, rfl, hW⟩
      have hd1 : D 1 = true := hdeps ⟨1, .data⟩ (by simp) rfl
      have E8 := frC_in (v := u1) hd1 (show 8 < a0.tmps.size by rw [hsz]; decide) (vs := VC7 o u1 u2 u3 j l x b1 v1 b2 v2 b3 v3) (by simp [VC7]) (VC7_nd _ _ _ _ _ _ _ _ _ _ _ _ _)
      have hd4 : D 4 = true := hdeps ⟨4, .data⟩ (by simp) rfl
      have E11 := frC_in (v := .slice (some ⟨b1, 0, none⟩) 1 1) hd4 (show 11 < a0.tmps.size by rw [hsz]; decide) (vs := VC7 o u1 u2 u3 j l x b1 v1 b2 v2 b3 v3) (by simp [VC7]) (VC7_nd _ _ _ _ _ _ _ _ _ _ _ _ _)
      have hL := hW.l1
      refine step_app elI64 rfl (.tmp 8) (.tmp 11) rfl B u1 n x1 E8 (hL.old hD) b1 [.int .i64 j] E11 (hL.blk hd4 hD).1 rfl (by simp [Value.oneCell']) (by omega) (by omega) (Nat.le_trans hBw hW.kp.size) ?_
      intro g7 cap7 w7 ho7 hg7 hq7 _
      have hs19 : D 19 = false := by cases h : D 19; rfl; have := hcl 19 _ rfl h ⟨5, .data⟩ (by simp) rfl; rw [hD] at this; cases this
      exact ⟨b1, .slice (some ⟨g7, 0, none⟩) (n + 1) cap7, b2, v2, b3, v3, by rw [show frC a0 D (VC7 o u1 u2 u3 j l x b1 v1 b2 v2 b3 v3) = frC a0 D (VC7 o u1 u2 u3 j l x b1 (.slice (some ⟨g7, 0, none⟩) (n + 1) cap7) b2 v2 b3 v3) from by simp only [VC7, frC, hD, Bool.false_eq_true, if_false]]; exact frC_put hD (by simp [VC7]) (VC7_nd _ _ _ _ _ _ _ _ _ _ _ _ _) (VC7_nd' _ _ _ _ _ _ _ _ _ _ _ _ _), hW.ap1 HS hD hs19 ho7 hg7 hq7⟩
    · rintro D _ W hD hcl hdeps ⟨b1, v1, b2, v2, b3, v3, rfl, hW⟩
      have e3 := ev_get ((frC_out (a0 := a0) (D := D) (VC7_not3 o u1 u2 u3 j l x b1 v1 b2 v2 b3 v3)).trans so3)
      refine ob_val rfl (v := .pointer (some ⟨o, 3, none⟩)) (by simp [execOp, go_sem, e3]) ⟨b1, v1, b2, v2, b3, v3, frC_put hD (by simp [VC7]) (VC7_nd _ _ _ _ _ _ _ _ _ _ _ _ _) (VC7_nd' _ _ _ _ _ _ _ _ _ _ _ _ _), hW.quiet (by decide)⟩
    · rintro D _ W hD hcl hdeps ⟨b1, v1, b2, v2, b3, v3, rfl, hW⟩
      have hd6 : D 6 = true := hdeps ⟨6, .data⟩ (by simp) rfl
      have e13 := ev_get (frC_in (v := .pointer (some ⟨o, 3, none⟩)) hd6 (show 13 < a0.tmps.size by rw [hsz]; decide) (vs := VC7 o u1 u2 u3 j l x b1 v1 b2 v2 b3 v3) (by simp [VC7]) (VC7_nd _ _ _ _ _ _ _ _ _ _ _ _ _))
      have hn11 : D 11 = false := by cases h : D 11; rfl; have := hcl 11 _ rfl h ⟨7, .data⟩ (by simp) rfl; rw [hD] at this; cases this
      have hn21 : D 21 = false := by cases h : D 21; rfl; have := hcl 21 _ rfl h ⟨11, .data⟩ (by simp) rfl; rw [hn11] at this; cases this
      have z0 : W.cell? ⟨o, 3, none⟩ = some u2 := by have := hW.bx.cell 3; rw [hn21] at this; exact this
      refine ob_val rfl (v := u2) (by simp [execOp, go_sem, e13, z0]) ⟨b1, v1, b2, v2, b3, v3, frC_put hD (by simp [VC7]) (VC7_nd _ _ _ _ _ _ _ _ _ _ _ _ _) (VC7_nd' _ _ _ _ _ _ _ _ _ _ _ _ _), hW.quiet (by decide)⟩
    · rintro D _ W hD hcl hdeps ⟨b1, v1, b2, v2, b3, v3, rfl, hW⟩
      have e1 := ev_get ((frC_out (a0 := a0) (D := D) (VC7_not1 o u1 u2 u3 j l x b1 v1 b2 v2 b3 v3)).trans so1)
      refine ob_val rfl (v := .int .u64 l) (by simp [execOp, go_sem, e1]) ⟨b1, v1, b2, v2, b3, v3, frC_put hD (by simp [VC7]) (VC7_nd _ _ _ _ _ _ _ _ _ _ _ _ _) (VC7_nd' _ _ _ _ _ _ _ _ _ _ _ _ _), hW.quiet (by decide)⟩
    · rintro D _ W hD hcl hdeps ⟨b1, v1, b2, v2, b3, v3, rfl, hW⟩
      have hd8 : D 8 = true := hdeps ⟨8, .data⟩ (by simp) rfl
      have e15 := ev_get (frC_in (v := .int .u64 l) hd8 (show 15 < a0.tmps.size by rw [hsz]; decide) (vs := VC7 o u1 u2 u3 j l x b1 v1 b2 v2 b3 v3) (by simp [VC7]) (VC7_nd _ _ _ _ _ _ _ _ _ _ _ _ _))
      refine ob_val rfl (v := .int .i64 l) (by simp [execOp, go_sem, e15, hl]) ⟨b1, v1, b2, v2, b3, v3, frC_put hD (by simp [VC7]) (VC7_nd _ _ _ _ _ _ _ _ _ _ _ _ _) (VC7_nd' _ _ _ _ _ _ _ _ _ _ _ _ _), hW.quiet (by decide)⟩
    · rintro D _ W hD hcl hdeps ⟨b1, v1, b2, v2, b3, v3, rfl, hW⟩
      have hd9 : D 9 = true := hdeps ⟨9, .data⟩ (by simp) rfl
      have e16 := ev_get (frC_in (v := .int .i64 l) hd9 (show 16 < a0.tmps.size by rw [hsz]; decide) (vs := VC7 o u1 u2 u3 j l x b1 v1 b2 v2 b3 v3) (by simp [VC7]) (VC7_nd _ _ _ _ _ _ _ _ _ _ _ _ _))
      refine ob_val rfl (v := .slice (some ⟨W.heap.size, 0, none⟩) 1 1) (w' := W.alloc (.cells #[.int .i64 l] 2)) (by simp [execOp, go_sem, e16]) ⟨b1, v1, W.heap.size, v2, b3, v3, by rw [show frC a0 D (VC7 o u1 u2 u3 j l x b1 v1 b2 v2 b3 v3) = frC a0 D (VC7 o u1 u2 u3 j l x b1 v1 (W.heap.size) v2 b3 v3) from by simp only [VC7, frC, hD, Bool.false_eq_true, if_false]]; exact frC_put hD (by simp [VC7]) (VC7_nd _ _ _ _ _ _ _ _ _ _ _ _ _) (VC7_nd' _ _ _ _ _ _ _ _ _ _ _ _ _), hW.mk2 HS⟩
    · rintro D _ W hD hcl hdeps ⟨b1, v1, b2, v2, b3, v3, rfl, hW⟩
      have hd7 : D 7 = true := hdeps ⟨7, .data⟩ (by simp) rfl
      have E14 := frC_in (v := u2) hd7 (show 14 < a0.tmps.size by rw [hsz]; decide) (vs := VC7 o u1 u2 u3 j l x b1 v1 b2 v2 b3 v3) (by simp [VC7]) (VC7_nd _ _ _ _ _ _ _ _ _ _ _ _ _)
      have hd10 : D 10 = true := hdeps ⟨10, .data⟩ (by simp) rfl
      have E17 := frC_in (v := .slice (some ⟨b2, 0, none⟩) 1 1) hd10 (show 17 < a0.tmps.size by rw [hsz]; decide) (vs := VC7 o u1 u2 u3 j l x b1 v1 b2 v2 b3 v3) (by simp [VC7]) (VC7_nd _ _ _ _ _ _ _ _ _ _ _ _ _)
      have hL := hW.l2
      refine step_app elI64 rfl (.tmp 14) (.tmp 17) rfl B u2 n x2 E14 (hL.old hD) b2 [.int .i64 l] E17 (hL.blk hd10 hD).1 rfl (by simp [Value.oneCell']) (by omega) (by omega) (Nat.le_trans hBw hW.kp.size) ?_
      intro g7 cap7 w7 ho7 hg7 hq7 _
      have hs21 : D 21 = false := by cases h : D 21; rfl; have := hcl 21 _ rfl h ⟨11, .data⟩ (by simp) rfl; rw [hD] at this; cases this
      exact ⟨b1, v1, b2, .slice (some ⟨g7, 0, none⟩) (n + 1) cap7, b3, v3, by rw [show frC a0 D (VC7 o u1 u2 u3 j l x b1 v1 b2 v2 b3 v3) = frC a0 D (VC7 o u1 u2 u3 j l x b1 v1 b2 (.slice (some ⟨g7, 0, none⟩) (n + 1) cap7) b3 v3) from by simp only [VC7, frC, hD, Bool.false_eq_true, if_false]]; exact frC_put hD (by simp [VC7]) (VC7_nd _ _ _ _ _ _ _ _ _ _ _ _ _) (VC7_nd' _ _ _ _ _ _ _ _ _ _ _ _ _), hW.ap2 HS hD hs21 ho7 hg7 hq7⟩
    · rintro D _ W hD hcl hdeps ⟨b1, v1, b2, v2, b3, v3, rfl, hW⟩
      have e3 := ev_get ((frC_out (a0 := a0) (D := D) (VC7_not3 o u1 u2 u3 j l x b1 v1 b2 v2 b3 v3)).trans so3)
      refine ob_val rfl (v := .pointer (some ⟨o, 4, none⟩)) (by simp [execOp, go_sem, e3]) ⟨b1, v1, b2, v2, b3, v3, frC_put hD (by simp [VC7]) (VC7_nd _ _ _ _ _ _ _ _ _ _ _ _ _) (VC7_nd' _ _ _ _ _ _ _ _ _ _ _ _ _), hW.quiet (by decide)⟩
    · rintro D _ W hD hcl hdeps ⟨b1, v1, b2, v2, b3, v3, rfl, hW⟩
      have hd12 : D 12 = true := hdeps ⟨12, .data⟩ (by simp) rfl
      have e19 := ev_get (frC_in (v := .pointer (some ⟨o, 4, none⟩)) hd12 (show 19 < a0.tmps.size by rw [hsz]; decide) (vs := VC7 o u1 u2 u3 j l x b1 v1 b2 v2 b3 v3) (by simp [VC7]) (VC7_nd _ _ _ _ _ _ _ _ _ _ _ _ _))
      have hn17 : D 17 = false := by cases h : D 17; rfl; have := hcl 17 _ rfl h ⟨13, .data⟩ (by simp) rfl; rw [hD] at this; cases this
      have hn23 : D 23 = false := by cases h : D 23; rfl; have := hcl 23 _ rfl h ⟨17, .data⟩ (by simp) rfl; rw [hn17] at this; cases this
      have z0 : W.cell? ⟨o, 4, none⟩ = some u3 := by have := hW.bx.cell 4; rw [hn23] at this; exact this
      refine ob_val rfl (v := u3) (by simp [execOp, go_sem, e19, z0]) ⟨b1, v1, b2, v2, b3, v3, frC_put hD (by simp [VC7]) (VC7_nd _ _ _ _ _ _ _ _ _ _ _ _ _) (VC7_nd' _ _ _ _ _ _ _ _ _ _ _ _ _), hW.quiet (by decide)⟩
    · rintro D _ W hD hcl hdeps ⟨b1, v1, b2, v2, b3, v3, rfl, hW⟩
      have e2 := ev_get ((frC_out (a0 := a0) (D := D) (VC7_not2 o u1 u2 u3 j l x b1 v1 b2 v2 b3 v3)).trans so2)
      refine ob_val rfl (v := .int .i32 x) (by simp [execOp, go_sem, e2]) ⟨b1, v1, b2, v2, b3, v3, frC_put hD (by simp [VC7]) (VC7_nd _ _ _ _ _ _ _ _ _ _ _ _ _) (VC7_nd' _ _ _ _ _ _ _ _ _ _ _ _ _), hW.quiet (by decide)⟩
    · rintro D _ W hD hcl hdeps ⟨b1, v1, b2, v2, b3, v3, rfl, hW⟩
      have hd14 : D 14 = true := hdeps ⟨14, .data⟩ (by simp) rfl
      have e21 := ev_get (frC_in (v := .int .i32 x) hd14 (show 21 < a0.tmps.size by rw [hsz]; decide) (vs := VC7 o u1 u2 u3 j l x b1 v1 b2 v2 b3 v3) (by simp [VC7]) (VC7_nd _ _ _ _ _ _ _ _ _ _ _ _ _))
      refine ob_val rfl (v := .int .i64 x) (by simp [execOp, go_sem, e21, hx]) ⟨b1, v1, b2, v2, b3, v3, frC_put hD (by simp [VC7]) (VC7_nd _ _ _ _ _ _ _ _ _ _ _ _ _) (VC7_nd' _ _ _ _ _ _ _ _ _ _ _ _ _), hW.quiet (by decide)⟩
    · rintro D _ W hD hcl hdeps ⟨b1, v1, b2, v2, b3, v3, rfl, hW⟩
      have hd15 : D 15 = true := hdeps ⟨15, .data⟩ (by simp) rfl
      have e22 := ev_get (frC_in (v := .int .i64 x) hd15 (show 22 < a0.tmps.size by rw [hsz]; decide) (vs := VC7 o u1 u2 u3 j l x b1 v1 b2 v2 b3 v3) (by simp [VC7]) (VC7_nd _ _ _ _ _ _ _ _ _ _ _ _ _))
      refine ob_val rfl (v := .slice (some ⟨W.heap.size, 0, none⟩) 1 1) (w' := W.alloc (.cells #[.int .i64 x] 2)) (by simp [execOp, go_sem, e22]) ⟨b1, v1, b2, v2, W.heap.size, v3, by rw [show frC a0 D (VC7 o u1 u2 u3 j l x b1 v1 b2 v2 b3 v3) = frC a0 D (VC7 o u1 u2 u3 j l x b1 v1 b2 v2 (W.heap.size) v3) from by simp only [VC7, frC, hD, Bool.false_eq_true, if_false]]; exact frC_put hD (by simp [VC7]) (VC7_nd _ _ _ _ _ _ _ _ _ _ _ _ _) (VC7_nd' _ _ _ _ _ _ _ _ _ _ _ _ _), hW.mk3 HS⟩
    · rintro D _ W hD hcl hdeps ⟨b1, v1, b2, v2, b3, v3, rfl, hW⟩
      have hd13 : D 13 = true := hdeps ⟨13, .data⟩ (by simp) rfl
      have E20 := frC_in (v := u3) hd13 (show 20 < a0.tmps.size by rw [hsz]; decide) (vs := VC7 o u1 u2 u3 j l x b1 v1 b2 v2 b3 v3) (by simp [VC7]) (VC7_nd _ _ _ _ _ _ _ _ _ _ _ _ _)
      have hd16 : D 16 = true := hdeps ⟨16, .data⟩ (by simp) rfl
      have E23 := frC_in (v := .slice (some ⟨b3, 0, none⟩) 1 1) hd16 (show 23 < a0.tmps.size by rw [hsz]; decide) (vs := VC7 o u1 u2 u3 j l x b1 v1 b2 v2 b3 v3) (by simp [VC7]) (VC7_nd _ _ _ _ _ _ _ _ _ _ _ _ _)
      have hL := hW.l3
      refine step_app elI64 rfl (.tmp 20) (.tmp 23) rfl B u3 n x3 E20 (hL.old hD) b3 [.int .i64 x] E23 (hL.blk hd16 hD).1 rfl (by simp [Value.oneCell']) (by omega) (by omega) (Nat.le_trans hBw hW.kp.size) ?_
      intro g7 cap7 w7 ho7 hg7 hq7 _
      have hs23 : D 23 = false := by cases h : D 23; rfl; have := hcl 23 _ rfl h ⟨17, .data⟩ (by simp) rfl; rw [hD] at this; cases this
      exact ⟨b1, v1, b2, v2, b3, .slice (some ⟨g7, 0, none⟩) (n + 1) cap7, by rw [show frC a0 D (VC7 o u1 u2 u3 j l x b1 v1 b2 v2 b3 v3) = frC a0 D (VC7 o u1 u2 u3 j l x b1 v1 b2 v2 b3 (.slice (some ⟨g7, 0, none⟩) (n + 1) cap7)) from by simp only [VC7, frC, hD, Bool.false_eq_true, if_false]]; exact frC_put hD (by simp [VC7]) (VC7_nd _ _ _ _ _ _ _ _ _ _ _ _ _) (VC7_nd' _ _ _ _ _ _ _ _ _ _ _ _ _), hW.ap3 HS hD hs23 ho7 hg7 hq7⟩
    · rintro D _ W hD hcl hdeps ⟨b1, v1, b2, v2, b3, v3, rfl, hW⟩
      have e3 := ev_get ((frC_out (a0 := a0) (D := D) (VC7_not3 o u1 u2 u3 j l x b1 v1 b2 v2 b3 v3)).trans so3)
      refine ob_val rfl (v := .pointer (some ⟨o, 2, none⟩)) (by simp [execOp, go_sem, e3]) ⟨b1, v1, b2, v2, b3, v3, frC_put hD (by simp [VC7]) (VC7_nd _ _ _ _ _ _ _ _ _ _ _ _ _) (VC7_nd' _ _ _ _ _ _ _ _ _ _ _ _ _), hW.quiet (by decide)⟩
    · rintro D _ W hD hcl hdeps ⟨b1, v1, b2, v2, b3, v3, rfl, hW⟩
      have hd18 : D 18 = true := hdeps ⟨18, .data⟩ (by simp) rfl
      have e25 := ev_get (frC_in (v := .pointer (some ⟨o, 2, none⟩)) hd18 (show 25 < a0.tmps.size by rw [hsz]; decide) (vs := VC7 o u1 u2 u3 j l x b1 v1 b2 v2 b3 v3) (by simp [VC7]) (VC7_nd _ _ _ _ _ _ _ _ _ _ _ _ _))
      have hd5 : D 5 = true := hdeps ⟨5, .data⟩ (by simp) rfl
      have e12 := ev_get (frC_in (v := v1) hd5 (show 12 < a0.tmps.size by rw [hsz]; decide) (vs := VC7 o u1 u2 u3 j l x b1 v1 b2 v2 b3 v3) (by simp [VC7]) (VC7_nd _ _ _ _ _ _ _ _ _ _ _ _ _))
      obtain ⟨_, q, cap, rfl, _⟩ := hW.l1.new hd5
      have z0 := hW.bx.cell 2
      have z1 := hW.bx.frozen 2
      simp only [List.getElem?_cons_succ, List.getElem?_cons_zero] at z0
      refine ob_skip rfl (w' := W.setCell ⟨o, 2, none⟩ (.slice (some ⟨q, 0, none⟩) (n + 1) cap)) (by simp [execOp, go_sem, e25, e12, z0, z1]) ⟨b1, _, b2, v2, b3, v3, ?_, hW.st1 HS⟩
      rw [frC_also_out (by rw [VC7_idx]; decide)]
      rfl
    · rintro D _ W hD hcl hdeps ⟨b1, v1, b2, v2, b3, v3, rfl, hW⟩
      have e3 := ev_get ((frC_out (a0 := a0) (D := D) (VC7_not3 o u1 u2 u3 j l x b1 v1 b2 v2 b3 v3)).trans so3)
      refine ob_val rfl (v := .pointer (some ⟨o, 3, none⟩)) (by simp [execOp, go_sem, e3]) ⟨b1, v1, b2, v2, b3, v3, frC_put hD (by simp [VC7]) (VC7_nd _ _ _ _ _ _ _ _ _ _ _ _ _) (VC7_nd' _ _ _ _ _ _ _ _ _ _ _ _ _), hW.quiet (by decide)⟩
    · rintro D _ W hD hcl hdeps ⟨b1, v1, b2, v2, b3, v3, rfl, hW⟩
      have hd20 : D 20 = true := hdeps ⟨20, .data⟩ (by simp) rfl
      have e26 := ev_get (frC_in (v := .pointer (some ⟨o, 3, none⟩)) hd20 (show 26 < a0.tmps.size by rw [hsz]; decide) (vs := VC7 o u1 u2 u3 j l x b1 v1 b2 v2 b3 v3) (by simp [VC7]) (VC7_nd _ _ _ _ _ _ _ _ _ _ _ _ _))
      have hd11 : D 11 = true := hdeps ⟨11, .data⟩ (by simp) rfl
      have e18 := ev_get (frC_in (v := v2) hd11 (show 18 < a0.tmps.size by rw [hsz]; decide) (vs := VC7 o u1 u2 u3 j l x b1 v1 b2 v2 b3 v3) (by simp [VC7]) (VC7_nd _ _ _ _ _ _ _ _ _ _ _ _ _))
      obtain ⟨_, q, cap, rfl, _⟩ := hW.l2.new hd11
      have z0 := hW.bx.cell 3
      have z1 := hW.bx.frozen 3
      simp only [List.getElem?_cons_succ, List.getElem?_cons_zero] at z0
      refine ob_skip rfl (w' := W.setCell ⟨o, 3, none⟩ (.slice (some ⟨q, 0, none⟩) (n + 1) cap)) (by simp [execOp, go_sem, e26, e18, z0, z1]) ⟨b1, v1, b2, _, b3, v3, ?_, hW.st2 HS⟩
      rw [frC_also_out (by rw [VC7_idx]; decide)]
      rfl
    · rintro D _ W hD hcl hdeps ⟨b1, v1, b2, v2, b3, v3, rfl, hW⟩
      have e3 := ev_get ((frC_out (a0 := a0) (D := D) (VC7_not3 o u1 u2 u3 j l x b1 v1 b2 v2 b3 v3)).trans so3)
      refine ob_val rfl (v := .pointer (some ⟨o, 4, none⟩)) (by simp [execOp, go_sem, e3]) ⟨b1, v1, b2, v2, b3, v3, frC_put hD (by simp [VC7]) (VC7_nd _ _ _ _ _ _ _ _ _ _ _ _ _) (VC7_nd' _ _ _ _ _ _ _ _ _ _ _ _ _), hW.quiet (by decide)⟩
    · rintro D _ W hD hcl hdeps ⟨b1, v1, b2, v2, b3, v3, rfl, hW⟩
      have hd22 : D 22 = true := hdeps ⟨22, .data⟩ (by simp) rfl
      have e27 := ev_get (frC_in (v := .pointer (some ⟨o, 4, none⟩)) hd22 (show 27 < a0.tmps.size by rw [hsz]; decide) (vs := VC7 o u1 u2 u3 j l x b1 v1 b2 v2 b3 v3) (by simp [VC7]) (VC7_nd _ _ _ _ _ _ _ _ _ _ _ _ _))
      have hd17 : D 17 = true := hdeps ⟨17, .data⟩ (by simp) rfl
      have e24 := ev_get (frC_in (v := v3) hd17 (show 24 < a0.tmps.size by rw [hsz]; decide) (vs := VC7 o u1 u2 u3 j l x b1 v1 b2 v2 b3 v3) (by simp [VC7]) (VC7_nd _ _ _ _ _ _ _ _ _ _ _ _ _))
      obtain ⟨_, q, cap, rfl, _⟩ := hW.l3.new hd17
      have z0 := hW.bx.cell 4
      have z1 := hW.bx.frozen 4
      simp only [List.getElem?_cons_succ, List.getElem?_cons_zero] at z0
      refine ob_skip rfl (w' := W.setCell ⟨o, 4, none⟩ (.slice (some ⟨q, 0, none⟩) (n + 1) cap)) (by simp [execOp, go_sem, e27, e24, z0, z1]) ⟨b1, v1, b2, v2, b3, _, ?_, hW.st3 HS⟩
      rw [frC_also_out (by rw [VC7_idx]; decide)]
      rfl
  · rintro D _ W hall ⟨b1, v1, b2, v2, b3, v3, rfl, hW⟩
    rw [frC_all (fun e he => hall e.1 (by have h1 : e.1 ∈ (VC7 o u1 u2 u3 j l x b1 v1 b2 v2 b3 v3).map (·.1) := List.mem_map.2 ⟨e, he, rfl⟩; rw [VC7_idx] at h1; simp at h1; show e.1 < 24; omega))]
    have HEN : Hid (OutW W B o ok va (fs ++ [j]) (ls ++ [l]) (vs ++ [x]) ∧ KT outT B w W) := Lib.hid (by
      have hbx := hW.bx
      rw [hall 19 (by decide), hall 21 (by decide), hall 23 (by decide)] at hbx
      have r1 := (hW.l1.new (hall 5 (by decide))).1
      have r2 := (hW.l2.new (hall 11 (by decide))).1
      have r3 := (hW.l3.new (hall 17 (by decide))).1
      rw [HX.out.1] at r1
      rw [HX.out.2.1] at r2
      rw [HX.out.2.2] at r3
      refine ⟨⟨n + 1, v1, v2, v3, hbx, by simpa using r1, by simpa using r2, by simpa using r3, hW.d12 (hall 5 (by decide)) (hall 11 (by decide)), hW.d13 (hall 5 (by decide)) (hall 17 (by decide)), hW.d23 (hall 11 (by decide)) (hall 17 (by decide)), hBo⟩, KT.of_kept hW.kp (fun i hi => .inr (HKM.out i hi))⟩)
    rw [HA0.out]
    simp only [VC7, List.foldr_cons, List.foldr_nil, Act.put, List.setIfInBounds_toArray, List.set_cons_succ, List.set_cons_zero]
    clear hW hall HA0 so0 so1 so2 so3 hsz HEI HKM HX HS
    go_wp2
    go_end0
    exact ⟨⟨_, rfl⟩, HEN.out⟩
end Go.Proofs.Ytangceejmjklcaa
