/- Maps whose entries are known one by one: look-up, a new entry, length. -/
import Derived.Test.YtbekmpmfkblgnaaDoorMem
import Derived.LaidEqlPtr
import Derived.Maps.OwnSet
namespace Go.Proofs.YtbekmpmfkblgnaaDoor
open Go.RowKit

/-- Block b is a map with these entries. -/
def MapB (w : World) (b : Nat) (es : List MapEntry) (clock : Nat) : Prop := w.heap[b]? = some (.map es.toArray clock)

theorem MapB.lt {w : World} {b : Nat} {es : List MapEntry} {clock : Nat} (h : MapB w b es clock) : b < w.heap.size := lt_of_block h
theorem MapB.bel {w w' : World} {b : Nat} {es : List MapEntry} {clock : Nat} (h : MapB w b es clock) (hb : Bel w w') : MapB w' b es clock := (hb.block b h.lt).trans h
theorem MapB.kept {S : List Nat} {w w' : World} {b : Nat} {es : List MapEntry} {clock : Nat} (h : MapB w b es clock) (hb : Kept S w w') (hS : b ∉ S) : MapB w' b es clock := (hb.block b h.lt hS).trans h
theorem MapB.grown {w w' : World} {row : Option Nat} {b : Nat} {es : List MapEntry} {clock : Nat} (h : MapB w b es clock) (hb : w.grownBy w' row) (hne : some b ≠ row) : MapB w' b es clock := (hb.block b h.lt hne).trans h
theorem MapB.far {w : World} {b : Nat} {es : List MapEntry} {clock : Nat} (h : MapB w b es clock) {p : Addr} (hp : b ≠ p.block) (u : Value) : MapB (w.setCell p u) b es clock := (Below.heap_setCell w p u b hp).trans h
theorem MapB.drew {w : World} {b : Nat} {es : List MapEntry} {clock : Nat} (h : MapB w b es clock) : MapB w.drew b es clock := h
theorem MapB.drewN {w : World} {b : Nat} {es : List MapEntry} {clock : Nat} (h : MapB w b es clock) (n : Nat) : MapB (w.drewN n) b es clock := h
theorem MapB.alloc {w : World} {b : Nat} {es : List MapEntry} {clock : Nat} (h : MapB w b es clock) (o : Obj) : MapB (w.alloc o) b es clock := h.bel ((Bel.refl w).alloc o)
theorem MapB.new (w : World) : MapB (w.alloc (.map #[] 0)) w.heap.size [] 0 := (MapKept.heap_alloc w _).1
/-- A map's block is no row. -/
theorem MapB.ne {w : World} {b g : Nat} {es : List MapEntry} {clock : Nat} {t : TypeId} {cs : List Value} (h : MapB w b es clock) (hg : Blk w g t cs) : b ≠ g := by
  rintro rfl
  unfold MapB at h
  unfold Blk at hg
  rw [h] at hg
  cases hg
theorem MapB.own {w : World} {b base : Nat} {es : List MapEntry} {clock : Nat} {e : TypeId} {size n : Nat} {v : Value} {xs : List Value} (h : MapB w b es clock) (ho : w.ownsRow base e size v n xs) : v.ownBlock ≠ some b := by
  intro he
  rcases ho.2 with ⟨rfl, _⟩ | ⟨g', cap, cur, rfl, _, hh, _⟩
  · simp [Value.ownBlock] at he
  · have : g' = b := by simpa [Value.ownBlock] using he
    subst this
    unfold MapB at h
    rw [h] at hh
    cases hh

section
variable {w : World} {t k e : TypeId}

theorem run_look (ht : Tryd.prog.underlying t = some (.map k e)) {b : Nat} {es : List MapEntry} {clock : Nat} (hb : MapB w b es clock) {key z : Value} {r : Option (Nat × Value)}
    (hck : ∀ em, (Instr.checkKey em 10000 k key).run Tryd.prog w = .ok () w) (hf : (Instr.findKey k key es).run Tryd.prog w = .ok r w) (hz : (zeroValue e).run Tryd.prog w = .ok z w) :
    (Instr.lookup t (.map (some b)) key true).run Tryd.prog w = .ok (.tuple #[(r.map Prod.snd).getD z, .bool r.isSome]) w := by
  cases r with
  | none => simp [Instr.lookup, run_underlying ht, MapKept.run_getObj_map hb, hck, hf, hz, Result.andThen]
  | some p => simp [Instr.lookup, run_underlying ht, MapKept.run_getObj_map hb, hck, hf, Result.andThen]

theorem run_look1 (ht : Tryd.prog.underlying t = some (.map k e)) {b : Nat} {es : List MapEntry} {clock : Nat} (hb : MapB w b es clock) {key z : Value} {r : Option (Nat × Value)}
    (hck : ∀ em, (Instr.checkKey em 10000 k key).run Tryd.prog w = .ok () w) (hf : (Instr.findKey k key es).run Tryd.prog w = .ok r w) (hz : (zeroValue e).run Tryd.prog w = .ok z w) :
    (Instr.lookup t (.map (some b)) key false).run Tryd.prog w = .ok ((r.map Prod.snd).getD z) w := by
  cases r with
  | none => simp [Instr.lookup, run_underlying ht, MapKept.run_getObj_map hb, hck, hf, hz, Result.andThen]
  | some p => simp [Instr.lookup, run_underlying ht, MapKept.run_getObj_map hb, hck, hf, Result.andThen]

theorem run_look_nil (ht : Tryd.prog.underlying t = some (.map k e)) {key z : Value} (hck : ∀ em, (Instr.checkKey em 10000 k key).run Tryd.prog w = .ok () w)
    (hf : (Instr.findKey k key []).run Tryd.prog w = .ok none w) (hz : (zeroValue e).run Tryd.prog w = .ok z w) :
    (Instr.lookup t (.map none) key true).run Tryd.prog w = .ok (.tuple #[z, .bool false]) w := by
  simp [Instr.lookup, run_underlying ht, hck, hf, hz, Result.andThen]

theorem run_putNew (ht : Tryd.prog.underlying t = some (.map k e)) {b : Nat} {es : List MapEntry} {clock : Nat} (hb : MapB w b es clock) {key val : Value}
    (hck : ∀ em, (Instr.checkKey em 10000 k key).run Tryd.prog w = .ok () w) (hf : (Instr.findKey k key es).run Tryd.prog w = .ok none w) :
    ∃ w', (Instr.mapUpdate t (.map (some b)) key val).run Tryd.prog w = .ok () w' ∧ MapB w' b (es ++ [⟨key, val, clock⟩]) (clock + 1) ∧ w.grownBy w' (some b) := by
  refine ⟨{ w with heap := w.heap.setIfInBounds b (.map (es.toArray.push ⟨key, val, clock⟩) (clock + 1)) }, ?_, ?_, ?_⟩
  · simp [Instr.mapUpdate, run_underlying ht, MapKept.run_getObj_map hb, hck, hf, MapKept.run_setObj_map _ hb, Result.andThen]
  · have := (MapKept.heap_set (o' := .map (es.toArray.push ⟨key, val, clock⟩) (clock + 1)) hb).1
    unfold MapB
    simpa using this
  · exact ⟨rfl, rfl, rfl, by simp, fun i _ hi => (MapKept.heap_set (o' := .map (es.toArray.push ⟨key, val, clock⟩) (clock + 1)) hb).2 i (fun h => hi (by rw [h]))⟩

theorem wpList_putNew {ops : Array Oper} {rest : List Oper} {o : Oper} {a : Act} {Q : Exit → Act → World → Prop}
    (hg : o.guard = none) (m x v : Operand) (hop : o.op = Op.mapUpdate t m x v) (ht : Tryd.prog.underlying t = some (.map k e)) {b : Nat} {es : List MapEntry} {clock : Nat} (hb : MapB w b es clock) {key val : Value}
    (hm : a.eval m = .map (some b)) (hx : a.eval x = key) (hv : a.eval v = val)
    (hck : ∀ em, (Instr.checkKey em 10000 k key).run Tryd.prog w = .ok () w) (hf : (Instr.findKey k key es).run Tryd.prog w = .ok none w)
    (hK : ∀ w', MapB w' b (es ++ [⟨key, val, clock⟩]) (clock + 1) → w.grownBy w' (some b) → wpList Tryd.prog ops Q rest (a.put o.dst undef) w') :
    wpList Tryd.prog ops Q (o :: rest) a w := by
  refine wpList_plain hg fun K' hK' => ?_
  obtain ⟨w', hrun, r1, r2⟩ := run_putNew ht hb hck hf (val := val)
  unfold Oper.wp
  simp [execOp, hop, hm, hx, hv, hrun, Result.andThen]
  exact hK' _ _ (hK w' r1 r2)

theorem wpList_look {ops : Array Oper} {rest : List Oper} {o : Oper} {a : Act} {Q : Exit → Act → World → Prop}
    (hg : o.guard = none) (m x : Operand) (hop : o.op = Op.lookup t m x true) {mv key r : Value} (hm : a.eval m = mv) (hx : a.eval x = key)
    (hrun : (Instr.lookup t mv key true).run Tryd.prog w = .ok r w)
    (hK : wpList Tryd.prog ops Q rest (a.put o.dst r) w) : wpList Tryd.prog ops Q (o :: rest) a w := by
  refine wpList_plain hg fun K' hK' => ?_
  unfold Oper.wp
  simp [execOp, hop, hm, hx, hrun, Result.andThen]
  exact hK' _ _ hK

theorem run_lenMap (ht : Tryd.prog.underlying t = some (.map k e)) {b : Nat} {es : List MapEntry} {clock : Nat} (hb : MapB w b es clock) (ty : TypeId) : (Builtin.len_ #[t] ty #[.map (some b)]).run Tryd.prog w = .ok (.int .i64 es.length) w := by
  simp [Builtin.len_, run_underlying ht, MapKept.run_getObj_map hb, Result.andThen, goInt]

theorem wpList_lenMap {ops : Array Oper} {rest : List Oper} {o : Oper} {a : Act} {Q : Exit → Act → World → Prop}
    (hg : o.guard = none) (m : Operand) (hop : o.op = Op.call { callee := Callee.builtin Builtin.len, args := #[m], argTypes := #[t] })
    (ht : Tryd.prog.underlying t = some (.map k e)) {b : Nat} {es : List MapEntry} {clock : Nat} (hb : MapB w b es clock) (hm : a.eval m = .map (some b))
    (hK : wpList Tryd.prog ops Q rest (a.put o.dst (.int .i64 es.length)) w) : wpList Tryd.prog ops Q (o :: rest) a w := by
  refine wpList_plain hg fun K' hK' => ?_
  unfold Oper.wp
  simp [execOp, hop, resolve, invoke, builtin, hm, run_lenMap ht hb o.type, Result.andThen]
  exact hK' _ _ hK

/-! ### Keys that are pointers to whole blocks -/
/-- The key of entry r is at place j. -/
theorem run_equal_ptr {tp te : TypeId} {j : TypeInfo} (hp : Tryd.prog.underlying tp = some (.pointer te)) (hte : Tryd.prog.info? te = some j) (hsz : j.size ≠ 0) {a b : Nat} {ta tb : TypeId} {ca cb : List Value} (ha : Blk w a ta ca) (hb : Blk w b tb cb) :
    (Op.equal tp (.pointer (some ⟨a, 0, none⟩)) (.pointer (some ⟨b, 0, none⟩))).run Tryd.prog w = .ok (decide (a = b)) w := by
  by_cases h : a = b
  · subst h
    have h : ∀ d : Nat, (Op.equalIn (d + 1) tp (.pointer (some ⟨a, 0, none⟩)) (.pointer (some ⟨a, 0, none⟩))).run Tryd.prog w = .ok true w := fun d => by
      simp [Op.equalIn, run_underlying hp, sizeOf, typeInfo, hte, run_sameAddr_same]
    simp [Op.equal, Op.maxDepth, h 9999]
  · have hne : (⟨a, 0, none⟩ : Addr) ≠ ⟨b, 0, none⟩ := fun e => h (by injection e)
    have h' : ∀ d : Nat, (Op.equalIn (d + 1) tp (.pointer (some ⟨a, 0, none⟩)) (.pointer (some ⟨b, 0, none⟩))).run Tryd.prog w = .ok false w := fun d => by
      simp [Op.equalIn, run_underlying hp, sizeOf, typeInfo, hte, hsz, run_sameAddr_other w hne (ca := ca.toArray) (cb := cb.toArray) ha hb]
    simp [Op.equal, Op.maxDepth, h' 9999, h]

end

/-- The place of a number in a list. -/
def placeOf (g : Nat) : List Nat → Option Nat
  | [] => none
  | r :: R => if g = r then some 0 else (placeOf g R).map (· + 1)
theorem placeOf_some {g : Nat} : ∀ {R : List Nat} {k : Nat}, placeOf g R = some k → R[k]? = some g
  | [], k, h => by simp [placeOf] at h
  | r :: R, k, h => by
    unfold placeOf at h
    split at h
    · rename_i e; simp at h; subst h; simp [e]
    · obtain ⟨j, hj, rfl⟩ := Option.map_eq_some_iff.1 h
      simpa using placeOf_some hj
theorem placeOf_none {g : Nat} : ∀ {R : List Nat}, placeOf g R = none ↔ g ∉ R
  | [] => by simp [placeOf]
  | r :: R => by
    unfold placeOf
    split
    · rename_i e; simp [e]
    · rename_i e; rw [Option.map_eq_none_iff, placeOf_none]; simp [e]
theorem placeOf_nodup {g : Nat} : ∀ {R : List Nat} {k : Nat}, R.Nodup → R[k]? = some g → placeOf g R = some k
  | [], k, _, h => by simp at h
  | r :: R, 0, hn, h => by simp at h; simp [placeOf, h]
  | r :: R, k + 1, hn, h => by
    have h' : R[k]? = some g := by simpa using h
    have hne : g ≠ r := fun e => (List.nodup_cons.1 hn).1 (e ▸ List.mem_of_getElem? h')
    simp [placeOf, hne, placeOf_nodup (List.nodup_cons.1 hn).2 h']

/-- Entries whose keys are pointers to the blocks R, with numbers from s on as values. -/
def ptrEs (s : Int) : List Nat → Nat → List MapEntry
  | [], _ => []
  | r :: R, k => ⟨.pointer (some ⟨r, 0, none⟩), .int .i64 ((k : Int) + s), k⟩ :: ptrEs s R (k + 1)
theorem ptrEs_snoc (s : Int) (r : Nat) : ∀ (R : List Nat) (k : Nat), ptrEs s (R ++ [r]) k = ptrEs s R k ++ [⟨.pointer (some ⟨r, 0, none⟩), .int .i64 (((k + R.length : Nat) : Int) + s), k + R.length⟩]
  | [], k => by simp [ptrEs]
  | x :: R, k => by simp [ptrEs, ptrEs_snoc s r R (k + 1), Nat.add_assoc, Nat.add_comm 1]
theorem ptrEs_length (s : Int) : ∀ (R : List Nat) (k : Nat), (ptrEs s R k).length = R.length
  | [], _ => rfl
  | x :: R, k => by simp [ptrEs, ptrEs_length s R (k + 1)]

theorem run_findAsking {w : World} {tp te : TypeId} {j : TypeInfo} (hp : Tryd.prog.underlying tp = some (.pointer te)) (hte : Tryd.prog.info? te = some j) (hsz : j.size ≠ 0) (s : Int) {g : Nat} {tg : TypeId} {cg : List Value} (hg : Blk w g tg cg) :
    ∀ (R : List Nat) (k i : Nat), (∀ r ∈ R, ∃ t cs, Blk w r t cs) → (Instr.findAsking tp (.pointer (some ⟨g, 0, none⟩)) (ptrEs s R k) i).run Tryd.prog w = .ok ((placeOf g R).map fun p => (i + p, .int .i64 (((k + p : Nat) : Int) + s))) w
  | [], k, i, _ => by simp [ptrEs, Instr.findAsking, placeOf]
  | r :: R, k, i, hR => by
    obtain ⟨t, cs, hr⟩ := hR r (by simp)
    have ih := run_findAsking hp hte hsz s hg R (k + 1) (i + 1) (fun x hx => hR x (by simp [hx]))
    have he := run_equal_ptr hp hte hsz hg hr
    unfold placeOf
    by_cases hgr : g = r
    · subst hgr
      simp [ptrEs, Instr.findAsking, he, Result.andThen]
    · simp [ptrEs, Instr.findAsking, he, hgr, Result.andThen, ih]
      cases placeOf g R with
      | none => rfl
      | some p => simp; omega

theorem run_findPtr {w : World} {tp te : TypeId} {j : TypeInfo} (hp : Tryd.prog.underlying tp = some (.pointer te)) (hte : Tryd.prog.info? te = some j) (hsz : j.size ≠ 0) (s : Int) {g : Nat} {tg : TypeId} {cg : List Value} (hg : Blk w g tg cg)
    (R : List Nat) (hR : ∀ r ∈ R, ∃ t cs, Blk w r t cs) : (Instr.findKey tp (.pointer (some ⟨g, 0, none⟩)) (ptrEs s R 0)).run Tryd.prog w = .ok ((placeOf g R).map fun p => (p, .int .i64 ((p : Int) + s))) w := by
  have h := run_findAsking hp hte hsz s hg R 0 0 hR
  simp only [Nat.zero_add] at h
  cases R with
  | nil => simp [Instr.findKey, run_underlying hp, Instr.findNow, ptrEs, placeOf, Result.andThen]
  | cons r R => simp [Instr.findKey, run_underlying hp, Instr.findNow, ptrEs, Instr.sameNow, Result.andThen]; simpa [ptrEs] using h

theorem run_checkPtr {w : World} {tp te : TypeId} (hp : Tryd.prog.underlying tp = some (.pointer te)) (v : Value) : ∀ em, (Instr.checkKey em 10000 tp v).run Tryd.prog w = .ok () w := by
  intro em
  unfold Instr.checkKey
  simp [run_underlying hp, Result.andThen]

/-! ### Keys that are texts -/
/-- The place of a text in a list. -/
def textAt (s : ByteArray) : List ByteArray → Option Nat
  | [] => none
  | r :: R => if s = r then some 0 else (textAt s R).map (· + 1)
theorem textAt_none {s : ByteArray} : ∀ {R : List ByteArray}, s ∉ R → textAt s R = none
  | [], _ => rfl
  | r :: R, h => by
    simp only [List.mem_cons, not_or] at h
    simp [textAt, h.1, textAt_none h.2]
/-- Entries whose keys are texts, with their places as values. -/
def textEs : List ByteArray → Nat → List MapEntry
  | [], _ => []
  | r :: R, k => ⟨.string r, .int .i64 k, k⟩ :: textEs R (k + 1)
theorem textEs_snoc (r : ByteArray) : ∀ (R : List ByteArray) (k : Nat), textEs (R ++ [r]) k = textEs R k ++ [⟨.string r, .int .i64 (k + R.length : Nat), k + R.length⟩]
  | [], k => by simp [textEs]
  | x :: R, k => by simp [textEs, textEs_snoc r R (k + 1), Nat.add_assoc, Nat.add_comm 1]
theorem textEs_length : ∀ (R : List ByteArray) (k : Nat), (textEs R k).length = R.length
  | [], _ => rfl
  | x :: R, k => by simp [textEs, textEs_length R (k + 1)]
theorem findNow_text (s : ByteArray) : ∀ (R : List ByteArray) (k i : Nat), Instr.findNow .string (.string s) (textEs R k) i = some ((textAt s R).map fun p => (i + p, .int .i64 (k + p : Nat)))
  | [], k, i => by simp [textEs, Instr.findNow, textAt]
  | r :: R, k, i => by
    have ih := findNow_text s R (k + 1) (i + 1)
    unfold textAt
    by_cases h : s = r
    · subst h
      have hb : (s == s) = true := (MapKept.bytes_beq s s).2 rfl
      simp [textEs, Instr.findNow, Instr.sameNow, hb]
    · have hb : (s == r) = false := by
        cases hh : (s == r)
        · rfl
        · exact absurd ((MapKept.bytes_beq s r).1 hh) h
      simp [textEs, Instr.findNow, Instr.sameNow, hb, h, ih]
      cases textAt s R with
      | none => rfl
      | some p => simp; omega
theorem run_findText {w : World} {ts : TypeId} (hs : Tryd.prog.underlying ts = some .string) (s : ByteArray) (R : List ByteArray) : (Instr.findKey ts (.string s) (textEs R 0)).run Tryd.prog w = .ok ((textAt s R).map fun p => (p, .int .i64 p)) w := by
  have := findNow_text s R 0 0
  simp only [Nat.zero_add] at this
  simp [Instr.findKey, run_underlying hs, this, Result.andThen]
theorem run_checkText {w : World} {ts : TypeId} (hs : Tryd.prog.underlying ts = some .string) (v : Value) : ∀ em, (Instr.checkKey em 10000 ts v).run Tryd.prog w = .ok () w := by
  intro em
  unfold Instr.checkKey
  simp [run_underlying hs, Result.andThen]

end Go.Proofs.YtbekmpmfkblgnaaDoor
