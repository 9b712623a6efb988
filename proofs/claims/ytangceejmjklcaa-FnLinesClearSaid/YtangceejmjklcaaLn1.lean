/- Maps whose entries are known one by one, whatever their keys: the range over them; keys that are numbers; frames by the blocks' types. -/
import Derived.Test.YtangceejmjklcaaMaps
import Derived.Maps.RangeWalk
namespace Go.Proofs.Ytangceejmjklcaa
open Go.RowKit Go.BigFrame
open Go.ChangeMaps (setBlock)

def kvEs : List (Value × Value) → Nat → List MapEntry
  | [], _ => []
  | r :: R, k => ⟨r.1, r.2, k⟩ :: kvEs R (k + 1)
theorem kvEs_snoc (r : Value × Value) : ∀ (R : List (Value × Value)) (k : Nat), kvEs (R ++ [r]) k = kvEs R k ++ [⟨r.1, r.2, k + R.length⟩]
  | [], k => by simp [kvEs]
  | x :: R, k => by simp [kvEs, kvEs_snoc r R (k + 1), Nat.add_assoc, Nat.add_comm 1]
theorem kvEs_length : ∀ (R : List (Value × Value)) (k : Nat), (kvEs R k).length = R.length
  | [], _ => rfl
  | x :: R, k => by simp [kvEs, kvEs_length R (k + 1)]
theorem mem_kvEs {x : MapEntry} : ∀ {R : List (Value × Value)} {s : Nat}, x ∈ kvEs R s ↔ ∃ k e, R[k]? = some e ∧ x = ⟨e.1, e.2, s + k⟩
  | [], s => by simp [kvEs]
  | r :: R, s => by
    have ih := mem_kvEs (x := x) (R := R) (s := s + 1)
    simp only [kvEs, List.mem_cons, ih]
    constructor
    · rintro (rfl | ⟨k, nm, h1, rfl⟩)
      · exact ⟨0, r, rfl, by simp⟩
      · exact ⟨k + 1, nm, by simpa using h1, by simp [Nat.add_assoc, Nat.add_comm 1]⟩
    · rintro ⟨k, nm, h1, rfl⟩
      cases k with
      | zero => simp at h1; subst h1; left; simp
      | succ k => right; exact ⟨k, nm, by simpa using h1, by simp [Nat.add_assoc, Nat.add_comm 1]⟩
theorem kvEs_born (R : List (Value × Value)) : ∀ (s : Nat), (kvEs R s).map (·.born) = List.range' s R.length := by
  induction R with
  | nil => intro s; rfl
  | cons r R ih => intro s; simp [kvEs, ih, List.range'_succ]

/-- The range over such a map is under way: seen are the places that have been told. -/
structure KRange (w : World) (b r : Nat) (L : List (Value × Value)) (seen : Array Nat) : Prop where
  map : MapB w b (kvEs L 0) L.length
  it : w.heap[r]? = some (.mapIter (some b) L.length seen L.length)
theorem KRange.ne {w : World} {b r : Nat} {L : List (Value × Value)} {seen : Array Nat} (h : KRange w b r L seen) : b ≠ r := fun e => by
  have h1 := h.map
  unfold MapB at h1
  rw [e, h.it] at h1
  cases h1

theorem wpList_nextKV {w : World} {ops : Array Oper} {rest : List Oper} {o : Oper} {a : Act} {Q : Exit → Act → World → Prop} (hg : o.guard = none) (it : Operand) (hop : o.op = Op.next it false) {b r : Nat} {L : List (Value × Value)} {seen : Array Nat}
    (hit : a.eval it = .pointer (some ⟨r, 0, none⟩)) (h : KRange w b r L seen)
    (hDone : (∀ k, k < L.length → seen.contains k = true) → wpList Try.prog ops Q rest (a.put o.dst (.tuple #[.bool false])) w)
    (hMore : ∀ (k : Nat) (e : Value × Value) (w' : World), L[k]? = some e → seen.contains k = false → KRange w' b r L (seen.push k) → w.grownBy w' (some r) → w'.heap.size = w.heap.size → w'.rangeLeft b r < w.rangeLeft b r →
      (Instr.entry (.pointer (some ⟨r, 0, none⟩))).run Try.prog w' = .ok (.tuple #[e.1, e.2]) w' → wpList Try.prog ops Q rest (a.put o.dst (.tuple #[.bool true, e.1, e.2])) w') :
    wpList Try.prog ops Q (o :: rest) a w := by
  refine wpList_plain hg fun K' hK' => ?_
  unfold Oper.wp
  have hb := h.map
  unfold MapB at hb
  have hold : ∀ x ∈ (kvEs L 0).toArray.toList, x.born < L.length := fun x hx => by
    obtain ⟨k, nm, h1, rfl⟩ := mem_kvEs.1 hx
    have := (List.getElem?_eq_some_iff.1 h1).1
    simpa using this
  rcases run_next_at (P := Try.prog) w o.type r b L.length L.length seen (kvEs L 0).toArray L.length h.it hb hold (Nat.le_refl _) with ⟨h0, hrun⟩ | ⟨e, he, w1, hal, hrun⟩
  · simp [execOp, hop, hit, hrun, Result.andThen]
    refine hK' _ _ (hDone (fun k hk => ?_))
    have := all_seen _ _ h0 ⟨L[k].1, L[k].2, 0 + k⟩ (mem_kvEs.2 ⟨k, L[k], List.getElem?_eq_getElem hk, rfl⟩)
    simpa using this
  · obtain ⟨hem, hes⟩ := mem_left he
    obtain ⟨k, nm, h1, rfl⟩ := mem_kvEs.1 hem
    simp only [Nat.zero_add] at hrun hes he
    have hr1 : w1.heap[r]? = some (.mapIter (some b) L.length seen L.length) := by rcases hal with rfl | rfl <;> exact h.it
    have hb1 : w1.heap[b]? = some (.map (kvEs L 0).toArray L.length) := by rcases hal with rfl | rfl <;> exact hb
    have hset := MapKept.heap_set (o' := .mapIter (some b) L.length (seen.push k) L.length) hr1
    have hb' : (setBlock w1 r (.mapIter (some b) L.length (seen.push k) L.length)).heap[b]? = some (.map (kvEs L 0).toArray L.length) := (hset.2 b (fun e1 => h.ne e1)).trans hb1
    simp [execOp, hop, hit, hrun, Result.andThen]
    refine hK' _ _ (hMore k nm _ h1 hes ⟨hb', hset.1⟩ ?_ ?_ ?_ ?_)
    · rcases hal with rfl | rfl <;> exact ⟨rfl, rfl, rfl, by simp [setBlock], fun i _ hi => hset.2 i (fun e1 => hi (by rw [e1]))⟩
    · rcases hal with rfl | rfl <;> simp [setBlock]
    · have hs := left_shrinks (kvEs L 0).toArray seen _ he
      simp only [World.rangeLeft, hb, h.it]
      rw [hb', show (setBlock w1 r (.mapIter (some b) L.length (seen.push k) L.length)).heap[r]? = some (.mapIter (some b) L.length (seen.push k) L.length) from hset.1]
      exact hs
    · have hnd : ((kvEs L 0).toArray.toList.map (·.born)).Nodup := by
        show ((kvEs L 0).map (·.born)).Nodup
        rw [kvEs_born]
        exact List.nodup_range'
      have := run_entry_at (P := Try.prog) (setBlock w1 r (.mapIter (some b) L.length (seen.push k) L.length)) r b L.length seen (kvEs L 0).toArray L.length ⟨nm.1, nm.2, 0 + k⟩ (by simp only [Nat.zero_add]; exact hset.1) hb' hem hnd
      simpa using this

/-! ### Keys that are numbers -/
/-- Entries with numbers of kind q as keys. -/
def intKV (q : IntKind) (L : List (Int × Value)) : List (Value × Value) := L.map fun e => (.int q e.1, e.2)
theorem intKV_length (q : IntKind) (L : List (Int × Value)) : (intKV q L).length = L.length := by simp [intKV]
theorem intKV_at {q : IntKind} {L : List (Int × Value)} {k : Nat} {e : Value × Value} (h : (intKV q L)[k]? = some e) : ∃ e', L[k]? = some e' ∧ e = (.int q e'.1, e'.2) := by
  unfold intKV at h
  rw [List.getElem?_map] at h
  obtain ⟨e', h1, h2⟩ := Option.map_eq_some_iff.1 h
  exact ⟨e', h1, h2.symm⟩
theorem findNow_int_not (q : IntKind) {x : Int} : ∀ (L : List (Int × Value)) (k i : Nat), x ∉ L.map (·.1) → Instr.findNow (.int q) (.int q x) (kvEs (intKV q L) k) i = some none
  | [], k, i, _ => by simp [intKV, kvEs, Instr.findNow]
  | r :: R, k, i, h => by
    simp only [List.map_cons, List.mem_cons, not_or] at h
    have ih := findNow_int_not q R (k + 1) (i + 1) h.2
    simp only [intKV] at ih
    have hb : (x == r.1) = false := by simpa using h.1
    simp [intKV, kvEs, Instr.findNow, Instr.sameNow, hb, ih]
theorem findNow_int_at (q : IntKind) {x : Int} {v : Value} : ∀ (L : List (Int × Value)) (k i j : Nat), (L.map (·.1)).Nodup → L[j]? = some (x, v) → Instr.findNow (.int q) (.int q x) (kvEs (intKV q L) k) i = some (some (i + j, v))
  | [], k, i, j, _, h => by simp at h
  | r :: R, k, i, 0, _, h => by
    simp at h
    subst h
    simp [intKV, kvEs, Instr.findNow, Instr.sameNow]
  | r :: R, k, i, j + 1, hn, h => by
    simp only [List.map_cons, List.nodup_cons] at hn
    have h' : R[j]? = some (x, v) := by simpa using h
    have ih := findNow_int_at q R (k + 1) (i + 1) j hn.2 h'
    simp only [intKV] at ih
    have hne : x ≠ r.1 := fun e => hn.1 (by rw [← e]; exact List.mem_map.2 ⟨_, List.mem_of_getElem? h', rfl⟩)
    have hb : (x == r.1) = false := by simpa using hne
    simp [intKV, kvEs, Instr.findNow, Instr.sameNow, hb, ih]
    omega
theorem run_findInt_not {w : World} {t : TypeId} {q : IntKind} (ht : Try.prog.underlying t = some (.int q)) {x : Int} {L : List (Int × Value)} (h : x ∉ L.map (·.1)) : (Instr.findKey t (.int q x) (kvEs (intKV q L) 0)).run Try.prog w = .ok none w := by
  simp [Instr.findKey, run_underlying ht, findNow_int_not q L 0 0 h, Result.andThen]
theorem run_findInt_at {w : World} {t : TypeId} {q : IntKind} (ht : Try.prog.underlying t = some (.int q)) {x : Int} {v : Value} {L : List (Int × Value)} {j : Nat} (hn : (L.map (·.1)).Nodup) (h : L[j]? = some (x, v)) : (Instr.findKey t (.int q x) (kvEs (intKV q L) 0)).run Try.prog w = .ok (some (j, v)) w := by
  have := findNow_int_at q L 0 0 j hn h
  simp only [Nat.zero_add] at this
  simp [Instr.findKey, run_underlying ht, this, Result.andThen]
theorem run_checkInt {w : World} {t : TypeId} {q : IntKind} (ht : Try.prog.underlying t = some (.int q)) (v : Value) : ∀ em, (Instr.checkKey em 10000 t v).run Try.prog w = .ok () w := by
  intro em
  unfold Instr.checkKey
  simp [run_underlying ht, Result.andThen]

/-! ### Frames by the types of the blocks -/
/-- Of what was there only blocks from B on, with elements of the types T, may have changed. -/
structure KT (T : List TypeId) (B : Nat) (w w' : World) : Prop where
  os : w'.os = w.os
  tape : w'.tape = w.tape
  output : w'.output = w.output
  size : w.heap.size ≤ w'.heap.size
  block : ∀ b o, w.heap[b]? = some o → (b < B ∨ ∀ cs t m, o = .cells cs t m → t ∉ T) → w'.heap[b]? = some o
theorem KT.of_bel {T : List TypeId} {B : Nat} {w w' : World} (h : Bel w w') : KT T B w w' := ⟨h.os, h.tape, h.output, h.size, fun b _ hb _ => (h.block b (lt_of_block hb)).trans hb⟩
theorem KT.refl (T : List TypeId) (B : Nat) (w : World) : KT T B w w := KT.of_bel (Bel.refl w)
theorem KT.trans {T : List TypeId} {B : Nat} {a b c : World} (h : KT T B a b) (k : KT T B b c) : KT T B a c :=
  ⟨k.os.trans h.os, k.tape.trans h.tape, k.output.trans h.output, Nat.le_trans h.size k.size, fun i o hi hs => k.block i o (h.block i o hi hs) hs⟩
theorem KT.less {T : List TypeId} {B B' : Nat} {a b : World} (h : KT T B' a b) (hB : B ≤ B') : KT T B a b :=
  ⟨h.os, h.tape, h.output, h.size, fun i o hi hs => h.block i o hi (hs.imp (fun x => Nat.lt_of_lt_of_le x hB) id)⟩
/-- What starts at the end of memory changes nothing old. -/
theorem KT.top {T : List TypeId} {B : Nat} {a b : World} (h : KT T B a b) (hB : a.heap.size ≤ B) : Bel a b :=
  ⟨h.os, h.tape, h.output, h.size, fun i hi => by
    obtain ⟨o, ho⟩ : ∃ o, a.heap[i]? = some o := ⟨_, Array.getElem?_eq_getElem hi⟩
    rw [ho]; exact h.block i o ho (.inl (Nat.lt_of_lt_of_le hi hB))⟩
theorem KT.then {T : List TypeId} {B : Nat} {a b c : World} (h : KT T B a b) (k : Bel b c) : KT T B a c := h.trans (KT.of_bel k)
theorem KT.drew {T : List TypeId} {B : Nat} {a b : World} (h : KT T B a b) : KT T B a b.drew := h.then (Bel.refl b).drew
theorem KT.of_kept {T : List TypeId} {B : Nat} {S : List Nat} {w w' : World} (h : Kept S w w') (hS : ∀ i ∈ S, w.heap.size ≤ i ∨ (B ≤ i ∧ ∃ cs t m, w.heap[i]? = some (.cells cs t m) ∧ t ∈ T)) : KT T B w w' :=
  ⟨h.os, h.tape, h.output, h.size, fun b _ hb hs => (h.block b (lt_of_block hb) (fun hm => by
    rcases hS b hm with h1 | ⟨h1, cs, t, m, h2, h3⟩
    · have := lt_of_block hb; omega
    · rw [hb] at h2
      cases h2
      rcases hs with h4 | h4
      · omega
      · exact h4 _ _ _ rfl h3)).trans hb⟩
theorem KT.grown {T : List TypeId} {B base : Nat} {w w1 w' : World} (h : KT T B w w1) {e : TypeId} {size n : Nat} {v : Value} {xs : List Value} (ho : w1.ownsRow base e size v n xs) (hB : B ≤ base) (he : e ∈ T) (hg : w1.grownBy w' v.ownBlock) : KT T B w w' :=
  h.trans ⟨hg.os, hg.tape, hg.output, hg.size, fun b _ hb hs => (hg.block b (lt_of_block hb) (fun hv => by
    rcases ho.2 with ⟨rfl, _⟩ | ⟨g, cap, cur, rfl, hbg, hgg, _⟩
    · simp [Value.ownBlock] at hv
    · have hv' : g = b := by simpa [Value.ownBlock] using hv.symm
      subst hv'
      rw [hb] at hgg
      cases hgg
      rcases hs with h4 | h4
      · omega
      · exact h4 _ _ _ rfl he)).trans hb⟩
theorem Blk.kt {T : List TypeId} {B : Nat} {w w' : World} {g : Nat} {t : TypeId} {cs : List Value} (h : Blk w g t cs) (hk : KT T B w w') (ht : t ∉ T ∨ g < B) : Blk w' g t cs :=
  hk.block g _ h (ht.elim (fun h1 => .inr (fun cs t m e => by cases e; exact h1)) .inl)
theorem MapB.kt {T : List TypeId} {B : Nat} {w w' : World} {b : Nat} {es : List MapEntry} {clock : Nat} (h : MapB w b es clock) (hk : KT T B w w') : MapB w' b es clock :=
  hk.block b _ h (.inr (fun cs t m e => by cases e))
theorem KRange.kt {T : List TypeId} {B : Nat} {w w' : World} {b r : Nat} {L : List (Value × Value)} {seen : Array Nat} (h : KRange w b r L seen) (hk : KT T B w w') : KRange w' b r L seen :=
  ⟨h.map.kt hk, hk.block r _ h.it (.inr (fun cs t m e => by cases e))⟩
theorem KRange.bel {w w' : World} {b r : Nat} {L : List (Value × Value)} {seen : Array Nat} (h : KRange w b r L seen) (hk : Bel w w') : KRange w' b r L seen := h.kt (KT.of_bel (T := []) (B := 0) hk)
theorem KRange.left_kt {T : List TypeId} {B : Nat} {w w' : World} {b r : Nat} {L : List (Value × Value)} {seen : Array Nat} (h : KRange w b r L seen) (hk : KT T B w w') : w'.rangeLeft b r = w.rangeLeft b r := by
  have h' := h.kt hk
  have h1 := h.map
  have h2 := h'.map
  unfold MapB at h1 h2
  unfold World.rangeLeft
  rw [h1, h2, h.it, h'.it]
theorem own_kt {T : List TypeId} {B : Nat} {w w' : World} {base : Nat} {e : TypeId} {size : Nat} {v : Value} {n : Nat} {xs : List Value} (h : w.ownsRow base e size v n xs) (hk : KT T B w w') (ht : e ∉ T ∨ ∀ k, v.ownBlock = some k → k < B) : w'.ownsRow base e size v n xs := by
  refine ⟨h.1, ?_⟩
  rcases h.2 with hn | ⟨g, cap, cur, rfl, hbg, hgg, rest⟩
  · exact .inl hn
  · exact .inr ⟨g, cap, cur, rfl, hbg, hk.block g _ hgg (ht.elim (fun h1 => .inr (fun cs t m e => by cases e; exact h1)) (fun h1 => .inl (h1 g rfl))), rest⟩
theorem cell_kt {T : List TypeId} {B : Nat} {w w' : World} {g : Nat} {t : TypeId} {cs : List Value} (h : Blk w g t cs) (hk : KT T B w w') (ht : t ∉ T ∨ g < B) (i : Nat) : w'.cell? ⟨g, i, none⟩ = cs[i]? := (h.kt hk ht).cell i
end Go.Proofs.Ytangceejmjklcaa
