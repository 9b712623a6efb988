/-
  Words for memory: what a call leaves of the memory that was there; a slice that reads as a list; an append of one element.
-/
import Derived.Test.YtmlimedmeolegaaDoorProg
import Derived.Test.YtmlimedmeolegaaDoorPlainEnt
import Derived.WalkKit
import Derived.WalkLawsBesides
import Derived.Lib.Hide
import Derived.Deep.QuietTactic
import Derived.BigQuiet
import Derived.Maps.AppendAt
import Derived.Deep.AppendLies
import Derived.Handy
namespace Go.Proofs.YtmlimedmeolegaaDoor
open Go.RowKit

/-- Nothing that was there has changed. -/
abbrev Bel (w w' : World) : Prop := Below w.heap.size w w'

theorem Bel.refl (w : World) : Bel w w := Below.refl _ _
theorem Bel.trans {a b c : World} (h : Bel a b) (k : Bel b c) : Bel a c := Below.trans h (Below.mono k h.size)
theorem Bel.drewN {a b : World} (h : Bel a b) (n : Nat) : Bel a (b.drewN n) := ⟨h.os, h.tape, h.output, h.size, h.block⟩
theorem Bel.drew {a b : World} (h : Bel a b) : Bel a b.drew := ⟨h.os, h.tape, h.output, h.size, h.block⟩
theorem Bel.alloc {a b : World} (h : Bel a b) (o : Obj) : Bel a (b.alloc o) := Below.alloc h h.size o

theorem Bel.cell {a b : World} (h : Bel a b) {p : Addr} {v : Value} (hp : a.cell? p = some v) : b.cell? p = some v :=
  (Below.cell h (World.block_lt_of_cell? a p hp)).trans hp

/-- Of what was there only the blocks of S may have changed. -/
structure Kept (S : List Nat) (w w' : World) : Prop where
  os : w'.os = w.os
  tape : w'.tape = w.tape
  output : w'.output = w.output
  size : w.heap.size ≤ w'.heap.size
  block : ∀ k, k < w.heap.size → k ∉ S → w'.heap[k]? = w.heap[k]?

theorem Kept.refl (S : List Nat) (w : World) : Kept S w w := ⟨rfl, rfl, rfl, Nat.le_refl _, fun _ _ _ => rfl⟩
theorem Kept.of_bel {S : List Nat} {w w' : World} (h : Bel w w') : Kept S w w' := ⟨h.os, h.tape, h.output, h.size, fun k hk _ => h.block k hk⟩
theorem Kept.bel {w w' : World} (h : Kept [] w w') : Bel w w' := ⟨h.os, h.tape, h.output, h.size, fun k hk => h.block k hk (by simp)⟩
/-- The second step may also change blocks that are new to the first world. -/
theorem Kept.trans {S T : List Nat} {a b c : World} (h : Kept S a b) (k : Kept T b c) (hT : ∀ i ∈ T, i ∈ S ∨ a.heap.size ≤ i) : Kept S a c :=
  ⟨k.os.trans h.os, k.tape.trans h.tape, k.output.trans h.output, Nat.le_trans h.size k.size, fun i hi hS =>
    (k.block i (Nat.lt_of_lt_of_le hi h.size) (fun hiT => by rcases hT i hiT with h' | h' <;> first | exact hS h' | omega)).trans (h.block i hi hS)⟩
theorem Kept.then {S : List Nat} {a b c : World} (h : Kept S a b) (k : Bel b c) : Kept S a c := h.trans (Kept.of_bel (S := []) k) (by simp)
theorem Kept.more {S T : List Nat} {a b : World} (h : Kept S a b) (hST : ∀ i ∈ S, i ∈ T) : Kept T a b :=
  ⟨h.os, h.tape, h.output, h.size, fun i hi hT => h.block i hi (fun hS => hT (hST i hS))⟩
theorem Kept.drew {S : List Nat} {a b : World} (h : Kept S a b) : Kept S a b.drew := ⟨h.os, h.tape, h.output, h.size, h.block⟩
theorem Kept.drewN {S : List Nat} {a b : World} (h : Kept S a b) (n : Nat) : Kept S a (b.drewN n) := ⟨h.os, h.tape, h.output, h.size, h.block⟩
theorem Kept.alloc {S : List Nat} {a b : World} (h : Kept S a b) (o : Obj) : Kept S a (b.alloc o) := h.then ((Bel.refl b).alloc o)
theorem Kept.setCell {S : List Nat} {a b : World} (h : Kept S a b) {p : Addr} (hp : p.block ∈ S ∨ a.heap.size ≤ p.block) (u : Value) : Kept S a (b.setCell p u) :=
  ⟨h.os, h.tape, h.output, by simpa [World.setCell] using h.size, fun i hi hS =>
    (Below.heap_setCell b p u i (fun e => by rcases hp with hp | hp <;> first | exact hS (e ▸ hp) | omega)).trans (h.block i hi hS)⟩
theorem Kept.grown {S : List Nat} {a b c : World} {row : Option Nat} (h : Kept S a b) (hg : b.grownBy c row) (hr : ∀ k, row = some k → k ∈ S ∨ a.heap.size ≤ k) : Kept S a c :=
  ⟨hg.os.trans h.os, hg.tape.trans h.tape, hg.output.trans h.output, Nat.le_trans h.size hg.size, fun i hi hS =>
    (hg.block i (Nat.lt_of_lt_of_le hi h.size) (fun e => by rcases hr i e.symm with h' | h' <;> first | exact hS h' | omega)).trans (h.block i hi hS)⟩
theorem Bel.grown {a b c : World} {row : Option Nat} (h : Bel a b) (hg : b.grownBy c row) (hr : ∀ k, row = some k → a.heap.size ≤ k) : Bel a c :=
  Below.grown h hg h.size hr
theorem Bel.kept {S : List Nat} {a b c : World} (h : Bel a b) (k : Kept S b c) (hS : ∀ i ∈ S, a.heap.size ≤ i) : Bel a c :=
  ((Kept.of_bel (S := []) h).trans k (fun i hi => .inr (hS i hi))).bel
theorem Bel.below {B : Nat} {a b : World} (h : Bel a b) (hB : B ≤ a.heap.size) : Below B a b := Below.mono h hB

theorem Kept.cell {S : List Nat} {w w' : World} (h : Kept S w w') {p : Addr} {v : Value} (hp : w.cell? p = some v) (hS : p.block ∉ S) : w'.cell? p = some v :=
  (World.cell?_of_block (h.block p.block (World.block_lt_of_cell? w p hp) hS)).trans hp

/-- All old cells and marks read as before, as rules for the walk. -/
theorem bcell {W w1 : World} (hb : Bel W w1) : (∀ b o, b < W.heap.size → w1.cell? ⟨b, o, none⟩ = W.cell? ⟨b, o, none⟩) ∧ ∀ b o, b < W.heap.size → w1.frozen? ⟨b, o, none⟩ = W.frozen? ⟨b, o, none⟩ :=
  ⟨fun b o h => Below.cell hb (p := ⟨b, o, none⟩) h, fun b o h => Below.frozen hb (p := ⟨b, o, none⟩) h⟩

/-- A cell that is there and may be written. -/
theorem bel_cf {w w' : World} (h : Bel w w') {p : Addr} {v : Value} (hp : w.cell? p = some v ∧ w.frozen? p = false) : w'.cell? p = some v ∧ w'.frozen? p = false :=
  ⟨h.cell hp.1, (Below.frozen h (World.block_lt_of_cell? w p hp.1)).trans hp.2⟩
theorem grown_cf {w w' : World} {row : Option Nat} (h : w.grownBy w' row) {p : Addr} {v : Value} (hne : row ≠ some p.block) (hp : w.cell? p = some v ∧ w.frozen? p = false) : w'.cell? p = some v ∧ w'.frozen? p = false :=
  ⟨h.cell hp.1 (Ne.symm hne), (h.frozen_far p (World.block_lt_of_cell? w p hp.1) (Ne.symm hne)).trans hp.2⟩

/-- Block g is the cells cs, none of them frozen. -/
def Blk (w : World) (g : Nat) (t : TypeId) (cs : List Value) : Prop := w.heap[g]? = some (.cells cs.toArray t (0, 0))

theorem Blk.lt {w : World} {g : Nat} {t : TypeId} {cs : List Value} (h : Blk w g t cs) : g < w.heap.size := lt_of_block h
theorem Blk.kept {S : List Nat} {w w' : World} {g : Nat} {t : TypeId} {cs : List Value} (h : Blk w g t cs) (hk : Kept S w w') (hg : g ∉ S) : Blk w' g t cs :=
  (hk.block g h.lt hg).trans h
theorem Blk.bel {w w' : World} {g : Nat} {t : TypeId} {cs : List Value} (h : Blk w g t cs) (hk : Bel w w') : Blk w' g t cs := (hk.block g h.lt).trans h
theorem Blk.grown {w w' : World} {row : Option Nat} {g : Nat} {t : TypeId} {cs : List Value} (h : Blk w g t cs) (hk : w.grownBy w' row) (hg : some g ≠ row) : Blk w' g t cs := (hk.block g h.lt hg).trans h
theorem Blk.alloc {w : World} {g : Nat} {t : TypeId} {cs : List Value} (h : Blk w g t cs) (o : Obj) : Blk (w.alloc o) g t cs := h.bel ((Bel.refl w).alloc o)
theorem Blk.new (w : World) (t : TypeId) (cs : List Value) : Blk (w.alloc (.cells cs.toArray t)) w.heap.size t cs := heap_alloc_new w _
theorem Blk.cell {w : World} {g : Nat} {t : TypeId} {cs : List Value} (h : Blk w g t cs) (i : Nat) : w.cell? ⟨g, i, none⟩ = cs[i]? := by
  rw [cell_of_row w g i _ t (0, 0) h]; simp
theorem Blk.frozen {w : World} {g : Nat} {t : TypeId} {cs : List Value} (h : Blk w g t cs) (i : Nat) : w.frozen? ⟨g, i, none⟩ = false := by
  unfold Blk at h
  simp [World.frozen?, h]
theorem Blk.set {w : World} {g : Nat} {t : TypeId} {cs : List Value} (h : Blk w g t cs) (i : Nat) (u : Value) : Blk (w.setCell ⟨g, i, none⟩ u) g t (cs.set i u) := by
  unfold Blk at h ⊢
  simp [World.setCell, Array.getElem?_modify, h]
theorem Blk.far {w : World} {g : Nat} {t : TypeId} {cs : List Value} (h : Blk w g t cs) {p : Addr} (hp : g ≠ p.block) (u : Value) : Blk (w.setCell p u) g t cs := (Below.heap_setCell w p u g hp).trans h
theorem Blk.drew {w : World} {g : Nat} {t : TypeId} {cs : List Value} (h : Blk w g t cs) : Blk w.drew g t cs := h
theorem Blk.drewN {w : World} {g : Nat} {t : TypeId} {cs : List Value} (h : Blk w g t cs) (n : Nat) : Blk (w.drewN n) g t cs := h

/-- Blocks of different element types differ. -/
theorem own_ne {w : World} {base : Nat} {e : TypeId} {size n : Nat} {v : Value} {xs : List Value} {g : Nat} {t : TypeId} {cs : List Value} (h : w.ownsRow base e size v n xs) (hg : Blk w g t cs) (hne : e ≠ t) : v.ownBlock ≠ some g := by
  intro he
  rcases h.2 with ⟨rfl, _⟩ | ⟨g', cap, cur, rfl, _, hh, _⟩
  · simp [Value.ownBlock] at he
  · have : g' = g := by simpa [Value.ownBlock] using he
    subst this
    unfold Blk at hg
    rw [hg] at hh
    injection hh with hh
    injection hh with _ ht _
    exact hne ht.symm
theorem Blk.ne {w : World} {g h : Nat} {t u : TypeId} {cs ds : List Value} (hg : Blk w g t cs) (hh : Blk w h u ds) (hne : t ≠ u) : g ≠ h := by
  rintro rfl
  unfold Blk at hg hh
  rw [hg] at hh
  injection hh with hh
  injection hh with _ ht _
  exact hne ht

/-! ### A region that draws its order, whose operations only read and whose callees change nothing old: one walk, in the order of the text -/
/-- A world that has grown out of w. -/
def Later (w : World) : Type := { W : World // Bel w W }
instance laterNonempty (w : World) : Nonempty (Later w) := ⟨⟨w, Bel.refl w⟩⟩
def Later.at {w : World} (x : Later w) : World := x.1
theorem Later.bel {w : World} (x : Later w) : Bel w x.at := x.2
theorem Later.cell {w : World} {p : Addr} {v : Value} (h : w.cell? p = some v) (x : Later w) : x.at.cell? p = some v := x.bel.cell h

theorem region_later {id : Nat} {Q : Exit → Act → World → Prop} {a : Act} {w : World} {l : List Oper} (hm : Tryd.prog.follows .mixedOrders = true) (hB : Region.lexB .any l.toArray = true)
    (h : wpQuiet Tryd.prog l.toArray (fun w' => ∃ x : Later w, w' = x.at) (fun a' => ∀ w', (∃ x : Later w, w' = x.at) → Q .normal a' w') l a) : (Code.region id l.toArray true).wp Tryd.prog Q a w :=
  wp_region_quiet (C := fun w' => ∃ x : Later w, w' = x.at) hm hB ⟨⟨_, (Bel.refl w).drew⟩, rfl⟩ (by simpa using h)

/-- A callee's contract in such a region. -/
theorem call_later {f : FuncId} {args : Array Value} {w : World} {v : Value} (x : Later w) (h : Calls Tryd.prog f args x.at fun e w' => e = .returned v ∧ Bel x.at w') : Calls Tryd.prog f args x.at fun e w'' => e = .returned v ∧ ∃ y : Later w, w'' = y.at :=
  h.mono fun _ w' ⟨he, hb⟩ => ⟨he, ⟨w', x.bel.trans hb⟩, rfl⟩
theorem call_same {f : FuncId} {args : Array Value} {w : World} {v : Value} (x : Later w) (h : Calls Tryd.prog f args x.at fun e w' => e = .returned v ∧ x.at = w') : Calls Tryd.prog f args x.at fun e w'' => e = .returned v ∧ ∃ y : Later w, w'' = y.at :=
  h.mono fun _ _ ⟨he, hb⟩ => ⟨he, x, hb.symm⟩

/-- What the walk must know of a slice type t with elements of type e. -/
structure ElTy (t e : TypeId) (size bytes : Nat) : Prop where
  sl : Tryd.prog.underlying t = some (.slice e)
  ex : ∃ i z, Tryd.prog.info? e = some i ∧ i.zero = some z ∧ i.size = size ∧ i.bytes = bytes ∧ z.cells.size = size
  pos : 0 < size

theorem ElTy.mk' {t e : TypeId} {z : Value} {size bytes : Nat} (h1 : Tryd.prog.underlying t = some (.slice e)) (h2 : (Tryd.prog.info? e).map (fun i => (i.zero, i.size, i.bytes)) = some (some z, size, bytes)) (h3 : z.cells.size = size) (h4 : 0 < size) : ElTy t e size bytes := by
  obtain ⟨i, a, b, c, d⟩ := info_parts h2
  exact ⟨h1, ⟨i, z, a, b, c, d, h3⟩, h4⟩

/-- append of m elements that lie at an address onto a row of the call's own. -/
theorem wpList_app {t e : TypeId} {size bytes : Nat} (A : ElTy t e size bytes) (w : World) {ops : Array Oper} {rest : List Oper} {o : Oper} {a : Act} {Q : Exit → Act → World → Prop} (hgd : o.guard = none) (s x : Operand)
    (ho : o.op = .call { callee := .builtin .append, args := #[s, x], argTypes := #[t, t] })
    (base : Nat) (v : Value) (n : Nat) (xs : List Value) (hs : a.eval s = v) (hown : w.ownsRow base e size v n xs)
    (B m c : Nat) (cs : List Value) (hx : a.eval x = .slice (some ⟨B, 0, none⟩) m c) (hB : Blk w B e cs) (hl : cs.length = m * size) (h1 : ∀ u ∈ cs, u.oneCell' = true)
    (hbytes : (n + m) * bytes ≤ 140737488355328) (h63 : n + m ≤ 9223372036854775807) (hbase : base ≤ w.heap.size)
    (h : ∀ v' w', w'.ownsRow base e size v' (n + m) (xs ++ cs) → w.grownBy w' v.ownBlock → (v'.ownBlock = v.ownBlock ∨ v'.ownBlock = some w.heap.size) → wpList Tryd.prog ops Q rest (a.put o.dst v') w') :
    wpList Tryd.prog ops Q (o :: rest) a w := by
  obtain ⟨i, z, hi, hz, hsz, hby, hzc⟩ := A.ex
  exact wpList_append_own_at w hgd s x t ho base e i z size bytes A.sl hi hz hsz hby hzc A.pos v n xs hs hown ⟨B, 0, none⟩ m c cs hx hl
    (by intro j u hj; have := World.news_of_block hB j u (by simpa using hj); exact this) h1 (by simp only [maxLen]; omega) hbytes hbase
    (fun v' w' h2 h3 _ h5 => h v' w' h2 h3 h5)

/-- append of one element, which the translation lays into a block of its own just ahead. -/
theorem wpList_push {t e : TypeId} {size bytes : Nat} (A : ElTy t e size bytes) {w : World} {ops : Array Oper} {rest : List Oper} {o : Oper} {a : Act} {Q : Exit → Act → World → Prop} (hgd : o.guard = none) (s x : Operand)
    (ho : o.op = .call { callee := .builtin .append, args := #[s, x], argTypes := #[t, t] })
    (base : Nat) (v : Value) (n : Nat) (xs : List Value) (hs : a.eval s = v) (hown : w.ownsRow base e size v n xs)
    (cs : List Value) (H : Nat) (hH : w.heap.size = H) (hx : a.eval x = .slice (some ⟨H, 0, none⟩) 1 1) (hl : cs.length = size) (h1 : ∀ u ∈ cs, u.oneCell' = true)
    (hbytes : (n + 1) * bytes ≤ 140737488355328) (h63 : n + 1 ≤ 9223372036854775807) (hbase : base ≤ H)
    (h : ∀ v' w', w'.ownsRow base e size v' (n + 1) (xs ++ cs) → w.grownBy w' v.ownBlock → (v'.ownBlock = v.ownBlock ∨ v'.ownBlock = some (H + 1)) → wpList Tryd.prog ops Q rest (a.put o.dst v') w') :
    wpList Tryd.prog ops Q (o :: rest) a (w.alloc (.cells cs.toArray e)) := by
  subst hH
  exact wpList_app A _ hgd s x ho base v n xs hs (hown.alloc _) w.heap.size 1 1 cs hx (Blk.new _ _ _) (by rw [hl, Nat.one_mul]) h1 hbytes h63 (by simp; omega)
    (fun v' w' h2 h3 h4 => h v' w' h2 ⟨h3.os, h3.tape, h3.output, Nat.le_trans (by simp) h3.size, fun k hk hne => (h3.block k (by simp; omega) hne).trans (Below.heap_alloc w _ k hk)⟩ (by simpa using h4))

/-- The same at a step of a region that draws its order; the new slice written out. -/
theorem step_app {t e : TypeId} {size bytes : Nat} (A : ElTy t e size bytes) {w : World} {ops : Array Oper} {o : Oper} {a : Act} {K : Act → World → Prop} {Q : Exit → Act → World → Prop} {E : Prop} (hgd : o.guard = none) (s x : Operand)
    (ho : o.op = .call { callee := .builtin .append, args := #[s, x], argTypes := #[t, t] })
    (base : Nat) (v : Value) (n : Nat) (xs : List Value) (hs : a.eval s = v) (hown : w.ownsRow base e size v n xs)
    (B : Nat) (cs : List Value) (hx : a.eval x = .slice (some ⟨B, 0, none⟩) 1 1) (hB : Blk w B e cs) (hl : cs.length = size) (h1 : ∀ u ∈ cs, u.oneCell' = true)
    (hbytes : (n + 1) * bytes ≤ 140737488355328) (h63 : n + 1 ≤ 9223372036854775807) (hbase : base ≤ w.heap.size)
    (h : ∀ g cap w', w'.ownsRow base e size (.slice (some ⟨g, 0, none⟩) (n + 1) cap) (n + 1) (xs ++ cs) → w.grownBy w' v.ownBlock → (v.ownBlock = some g ∨ g = w.heap.size) → g < w'.heap.size → K (a.put o.dst (.slice (some ⟨g, 0, none⟩) (n + 1) cap)) w') :
    if Region.wanted o (yielded ops a.tmps) = true then Oper.wp Tryd.prog o a w K Q else E := by
  obtain ⟨i, z, hi, hz, hsz, hby, hzc⟩ := A.ex
  exact step_append_lies w hgd s x t ho base e i z size bytes A.sl hi hz hsz hby hzc A.pos v n xs hs hown ⟨B, 0, none⟩ 1 1 cs hx (by rw [hl, Nat.one_mul])
    (by intro j u hj; have := World.news_of_block hB j u (by simpa using hj); exact this) h1 (by omega) (by simp only [maxLen]; omega) hbytes hbase _ rfl h

/-- An empty slice that is not nil: the call's own, with nothing in it. -/
theorem owns_empty (w : World) (base : Nat) (e : TypeId) (size H : Nat) (hH : w.heap.size = H) (hb : base ≤ H) : (w.alloc (.cells #[] e)).ownsRow base e size (.slice (some ⟨H, 0, none⟩) 0 0) 0 [] := by
  subst hH
  exact World.ownsRow_made w #[] 0 hb (Nat.zero_le _) (by simp)

theorem own_bel {w w' : World} {base : Nat} {e : TypeId} {size : Nat} {v : Value} {n : Nat} {xs : List Value} (h : w.ownsRow base e size v n xs) (hb : Bel w w') : w'.ownsRow base e size v n xs :=
  h.kept (row := none) ⟨hb.os, hb.tape, hb.output, hb.size, fun k hk _ => hb.block k hk⟩ (by cases hv : v.ownBlock <;> simp)
theorem own_kept {S : List Nat} {w w' : World} {base : Nat} {e : TypeId} {size : Nat} {v : Value} {n : Nat} {xs : List Value} (h : w.ownsRow base e size v n xs) (hb : Kept S w w') (hS : ∀ k, v.ownBlock = some k → k ∉ S) : w'.ownsRow base e size v n xs := by
  refine ⟨h.1, ?_⟩
  rcases h.2 with hn | ⟨g, cap, cur, rfl, hbg, hgg, rest⟩
  · exact .inl hn
  · exact .inr ⟨g, cap, cur, rfl, hbg, (hb.block g (lt_of_block hgg) (hS g rfl)).trans hgg, rest⟩
theorem own_base {w : World} {base base' : Nat} {e : TypeId} {size : Nat} {v : Value} {n : Nat} {xs : List Value} (h : w.ownsRow base e size v n xs) (hb : ∀ k, v.ownBlock = some k → base' ≤ k) : w.ownsRow base' e size v n xs := by
  refine ⟨h.1, ?_⟩
  rcases h.2 with hn | ⟨g, cap, cur, rfl, hbg, hgg, rest⟩
  · exact .inl hn
  · exact .inr ⟨g, cap, cur, rfl, hb g rfl, hgg, rest⟩
theorem own_eq {w : World} {base : Nat} {e : TypeId} {size : Nat} {v : Value} {n m : Nat} {xs ys : List Value} (h : w.ownsRow base e size v n xs) (hn : n = m) (hx : xs = ys) : w.ownsRow base e size v m ys := by
  subst hn hx; exact h
/-- The slice value written out. -/
theorem own_form {w : World} {base : Nat} {e : TypeId} {size : Nat} {v : Value} {n : Nat} {xs : List Value} (h : w.ownsRow base e size v n xs) : ∃ a c, v = .slice a n c ∧ n ≤ c ∧ c ≤ maxLen ∧ (0 < n → ∃ g, a = some ⟨g, 0, none⟩ ∧ ∀ j u, xs[j]? = some u → w.cell? ⟨g, j, none⟩ = some u) := by
  rcases h.2 with ⟨rfl, rfl⟩ | ⟨g, cap, cur, rfl, hbg, hgg, hnc, hcm, _⟩
  · exact ⟨none, 0, rfl, Nat.le_refl _, Nat.zero_le _, fun h => absurd h (by omega)⟩
  · exact ⟨_, cap, rfl, hnc, hcm, fun _ => ⟨g, rfl, fun j u hu => by have := h.cells (g := g) rfl j u hu; simpa [Addr.add_lit] using this⟩⟩

/-- The slice with address a and n elements reads as the entries l. -/
def Ents (w : World) (a : Option Addr) (n : Nat) (l : List Pl.Ent) : Prop :=
  l.length = n ∧ (0 < n → ∃ b o, a = some ⟨b, o, none⟩ ∧ ∀ i e, l[i]? = some e → w.cell? ⟨b, o + i * 2, none⟩ = some (.int .i64 e.1) ∧ w.cell? ⟨b, o + i * 2 + 1, none⟩ = some (.int .i64 e.2))

theorem Ents.bel {w w' : World} {a : Option Addr} {n : Nat} {l : List Pl.Ent} (h : Ents w a n l) (hb : Bel w w') : Ents w' a n l :=
  ⟨h.1, fun hn => by
    obtain ⟨b, o, ha, hc⟩ := h.2 hn
    exact ⟨b, o, ha, fun i e he => ⟨hb.cell (hc i e he).1, hb.cell (hc i e he).2⟩⟩⟩

theorem Ents.cut {w : World} {a : Option Addr} {n : Nat} {l : List Pl.Ent} (h : Ents w a n l) {p c : Nat} (hp : p ≤ n) (hc : n ≤ c) :
    Ents w (if c = p then a else Option.map (fun x => x.add (p * 2)) a) (n - p) (l.drop p) := by
  refine ⟨by rw [List.length_drop, h.1], fun hn => ?_⟩
  obtain ⟨b, o, rfl, hcell⟩ := h.2 (by omega)
  rw [if_neg (by omega)]
  refine ⟨b, o + p * 2, by simp [Addr.add_lit], fun i e he => ?_⟩
  have := hcell (p + i) e (by simpa using he)
  rw [show o + p * 2 + i * 2 = o + (p + i) * 2 by omega]
  exact this

/-- The cells of entries. -/
def entCells (l : List Pl.Ent) : List Value := l.flatMap fun e => [.int .i64 e.1, .int .i64 e.2]
theorem entCells_length (l : List Pl.Ent) : (entCells l).length = l.length * 2 := by
  induction l with
  | nil => rfl
  | cons a r ih => simp only [entCells, List.flatMap_cons, List.length_append, List.length_cons, List.length_nil] at ih ⊢; omega
theorem entCells_append (l m : List Pl.Ent) : entCells (l ++ m) = entCells l ++ entCells m := by simp [entCells]
theorem entCells_at : ∀ (l : List Pl.Ent) (i : Nat) (e : Pl.Ent), l[i]? = some e → (entCells l)[i * 2]? = some (.int .i64 e.1) ∧ (entCells l)[i * 2 + 1]? = some (.int .i64 e.2)
  | [], i, e, h => by simp at h
  | a :: r, 0, e, h => by simp at h; subst h; simp [entCells]
  | a :: r, i + 1, e, h => by
    have := entCells_at r i e (by simpa using h)
    have e1 : entCells (a :: r) = .int .i64 a.1 :: .int .i64 a.2 :: entCells r := rfl
    rw [e1, show (i + 1) * 2 = i * 2 + 1 + 1 by omega, show i * 2 + 1 + 1 + 1 = (i * 2 + 1) + 1 + 1 by omega]
    simpa using this
theorem ents_of_own {w : World} {base : Nat} {e : TypeId} {a : Option Addr} {n c : Nat} {l : List Pl.Ent} (h : w.ownsRow base e 2 (.slice a n c) n (entCells l)) : Ents w a n l := by
  have hl := h.1
  rw [entCells_length] at hl
  refine ⟨by omega, fun hn => ?_⟩
  obtain ⟨a', c', hv, _, _, hc⟩ := own_form h
  injection hv with ha _ _
  subst ha
  obtain ⟨g, rfl, hg⟩ := hc hn
  exact ⟨g, 0, rfl, fun i e he => by
    obtain ⟨h1, h2⟩ := entCells_at l i e he
    exact ⟨by simpa using hg _ _ h1, by simpa using hg _ _ h2⟩⟩

end Go.Proofs.YtmlimedmeolegaaDoor
