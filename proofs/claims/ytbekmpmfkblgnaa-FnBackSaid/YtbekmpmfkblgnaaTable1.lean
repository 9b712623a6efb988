/- The names of a table: FileTable, which ranges over a map from texts to their places. -/
import Derived.Test.YtbekmpmfkblgnaaPosP
import Derived.Test.YtbekmpmfkblgnaaNames
import Derived.Maps.RangeWalk
namespace Go.Proofs.Ytbekmpmfkblgnaa
open Go.RowKit Go.BigFrame
open Go.ChangeMaps (setBlock)

theorem mem_textEs {x : MapEntry} : ∀ {R : List ByteArray} {s : Nat}, x ∈ textEs R s ↔ ∃ k nm, R[k]? = some nm ∧ x = ⟨.string nm, .int .i64 ((s + k : Nat) : Int), s + k⟩
  | [], s => by simp [textEs]
  | r :: R, s => by
    have ih := mem_textEs (x := x) (R := R) (s := s + 1)
    simp only [textEs, List.mem_cons, ih]
    constructor
    · rintro (rfl | ⟨k, nm, h1, rfl⟩)
      · exact ⟨0, r, rfl, by simp⟩
      · exact ⟨k + 1, nm, by simpa using h1, by simp [Nat.add_assoc, Nat.add_comm 1]⟩
    · rintro ⟨k, nm, h1, rfl⟩
      cases k with
      | zero => simp at h1; subst h1; left; simp
      | succ k => right; exact ⟨k, nm, by simpa using h1, by simp [Nat.add_assoc, Nat.add_comm 1]⟩
theorem textEs_born (R : List ByteArray) : ∀ (s : Nat), (textEs R s).map (·.born) = List.range' s R.length := by
  induction R with
  | nil => intro s; rfl
  | cons r R ih => intro s; simp [textEs, ih, List.range'_succ]

/-- The range over such a map is under way: seen are the places that have been told. -/
structure TRange (w : World) (b r : Nat) (NM : List ByteArray) (seen : Array Nat) : Prop where
  map : MapB w b (textEs NM 0) NM.length
  it : w.heap[r]? = some (.mapIter (some b) NM.length seen NM.length)
theorem TRange.grown {w w' : World} {row : Option Nat} {b r : Nat} {NM : List ByteArray} {seen : Array Nat} (h : TRange w b r NM seen) (hg : w.grownBy w' row) (h1 : some b ≠ row) (h2 : some r ≠ row) : TRange w' b r NM seen :=
  ⟨h.map.grown hg h1, (hg.block r (lt_of_block h.it) h2).trans h.it⟩
theorem TRange.far {w : World} {b r : Nat} {NM : List ByteArray} {seen : Array Nat} (h : TRange w b r NM seen) {p : Addr} (h1 : b ≠ p.block) (h2 : r ≠ p.block) (u : Value) : TRange (w.setCell p u) b r NM seen :=
  ⟨h.map.far h1 u, (Below.heap_setCell w p u r h2).trans h.it⟩
theorem TRange.ne {w : World} {b r : Nat} {NM : List ByteArray} {seen : Array Nat} (h : TRange w b r NM seen) : b ≠ r := fun e => by
  have h1 := h.map
  unfold MapB at h1
  rw [e, h.it] at h1
  cases h1

theorem wpList_nextText {w : World} {ops : Array Oper} {rest : List Oper} {o : Oper} {a : Act} {Q : Exit → Act → World → Prop} (hg : o.guard = none) (it : Operand) (hop : o.op = Op.next it false) {b r : Nat} {NM : List ByteArray} {seen : Array Nat}
    (hit : a.eval it = .pointer (some ⟨r, 0, none⟩)) (h : TRange w b r NM seen)
    (hDone : (∀ k, k < NM.length → seen.contains k = true) → wpList Try.prog ops Q rest (a.put o.dst (.tuple #[.bool false])) w)
    (hMore : ∀ (k : Nat) (s : ByteArray) (w' : World), NM[k]? = some s → seen.contains k = false → TRange w' b r NM (seen.push k) → w.grownBy w' (some r) → w'.heap.size = w.heap.size → w'.rangeLeft b r < w.rangeLeft b r →
      (Instr.entry (.pointer (some ⟨r, 0, none⟩))).run Try.prog w' = .ok (.tuple #[.string s, .int .i64 k]) w' → wpList Try.prog ops Q rest (a.put o.dst (.tuple #[.bool true, .string s, .int .i64 k])) w') :
    wpList Try.prog ops Q (o :: rest) a w := by
  refine wpList_plain hg fun K' hK' => ?_
  unfold Oper.wp
  have hb := h.map
  unfold MapB at hb
  have hold : ∀ x ∈ (textEs NM 0).toArray.toList, x.born < NM.length := fun x hx => by
    obtain ⟨k, nm, h1, rfl⟩ := mem_textEs.1 hx
    have := (List.getElem?_eq_some_iff.1 h1).1
    simpa using this
  rcases run_next_at (P := Try.prog) w o.type r b NM.length NM.length seen (textEs NM 0).toArray NM.length h.it hb hold (Nat.le_refl _) with ⟨h0, hrun⟩ | ⟨e, he, w1, hal, hrun⟩
  · simp [execOp, hop, hit, hrun, Result.andThen]
    refine hK' _ _ (hDone (fun k hk => ?_))
    have := all_seen _ _ h0 ⟨.string NM[k], .int .i64 ((0 + k : Nat) : Int), 0 + k⟩ (mem_textEs.2 ⟨k, NM[k], List.getElem?_eq_getElem hk, rfl⟩)
    simpa using this
  · obtain ⟨hem, hes⟩ := mem_left he
    obtain ⟨k, nm, h1, rfl⟩ := mem_textEs.1 hem
    simp only [Nat.zero_add] at hrun hes he
    have hr1 : w1.heap[r]? = some (.mapIter (some b) NM.length seen NM.length) := by rcases hal with rfl | rfl <;> exact h.it
    have hb1 : w1.heap[b]? = some (.map (textEs NM 0).toArray NM.length) := by rcases hal with rfl | rfl <;> exact hb
    have hset := MapKept.heap_set (o' := .mapIter (some b) NM.length (seen.push k) NM.length) hr1
    have hb' : (setBlock w1 r (.mapIter (some b) NM.length (seen.push k) NM.length)).heap[b]? = some (.map (textEs NM 0).toArray NM.length) := (hset.2 b (fun e1 => h.ne e1)).trans hb1
    simp [execOp, hop, hit, hrun, Result.andThen]
    refine hK' _ _ (hMore k nm _ h1 hes ⟨hb', hset.1⟩ ?_ ?_ ?_ ?_)
    · rcases hal with rfl | rfl <;> exact ⟨rfl, rfl, rfl, by simp [setBlock], fun i _ hi => hset.2 i (fun e1 => hi (by rw [e1]))⟩
    · rcases hal with rfl | rfl <;> simp [setBlock]
    · have hs := left_shrinks (textEs NM 0).toArray seen _ he
      simp only [World.rangeLeft, hb, h.it]
      rw [hb', show (setBlock w1 r (.mapIter (some b) NM.length (seen.push k) NM.length)).heap[r]? = some (.mapIter (some b) NM.length (seen.push k) NM.length) from hset.1]
      exact hs
    · have hnd : ((textEs NM 0).toArray.toList.map (·.born)).Nodup := by
        show ((textEs NM 0).map (·.born)).Nodup
        rw [textEs_born]
        exact List.nodup_range'
      have := run_entry_at (P := Try.prog) (setBlock w1 r (.mapIter (some b) NM.length (seen.push k) NM.length)) r b NM.length seen (textEs NM 0).toArray NM.length ⟨.string nm, .int .i64 ((0 + k : Nat) : Int), 0 + k⟩ (by simp only [Nat.zero_add]; exact hset.1) hb' hem hnd
      simpa using this

theorem elStr : ∃ i, Try.prog.info? 9 = some i ∧ i.zero = some (.string ⟨#[]⟩) ∧ i.size = 1 ∧ i.bytes = 16 := info_parts (by kernel_rfl)
theorem made_str (n : Nat) : (madeCells (Value.string ⟨#[]⟩).cells (n * 1)).toList = (List.replicate n (⟨#[]⟩ : ByteArray)).map Value.string := by
  show (madeCells #[Value.string ⟨#[]⟩] (n * 1)).toList = _
  rw [Nat.mul_one]
  apply List.ext_getElem?
  intro i
  by_cases h : i < n <;> simp [madeCells, h, Nat.mod_one]

theorem Tab.c2 {w : World} {t : Nat} {ty : TypeId} {rest : List Value} {R : List Nat} {NM : List ByteArray} {S : List Nat} (h : Tab w t ty rest R NM S) : (NM = [] ∧ w.cell? ⟨t, 2, none⟩ = some (.map none)) ∨ ∃ bn, w.cell? ⟨t, 2, none⟩ = some (.map (some bn)) ∧ MapB w bn (textEs NM 0) NM.length ∧ 0 < NM.length := by
  obtain ⟨hl, ⟨_, h2, _, hb⟩ | ⟨gv, bi, bn, hp, _, cap, hb, _, _, hn, _⟩⟩ := h
  · exact .inl ⟨h2, hb.cell 2⟩
  · exact .inr ⟨bn, hb.cell 2, hn, by omega⟩

theorem own_store {w : World} {base : Nat} {e : TypeId} {g n : Nat} {xs : List ByteArray} (h : w.ownsRow base e 1 (.slice (some ⟨g, 0, none⟩) n n) n (xs.map Value.string)) (k : Nat) (s : ByteArray) :
    (w.setCell ⟨g, k, none⟩ (.string s)).ownsRow base e 1 (.slice (some ⟨g, 0, none⟩) n n) n ((xs.set k s).map Value.string) := by
  rw [List.map_set]
  exact (h.stored k (.string s)).1

theorem own_nil {w : World} {base : Nat} {e : TypeId} {g : Nat} {xs : List Value} (h : w.ownsRow base e 1 (.slice (some ⟨g, 0, none⟩) 0 0) 0 xs) : w.ownsRow base e 1 (.slice (some ⟨g, 0, none⟩) 0 0) 0 [] := by
  have : xs = [] := by have := h.1; simpa using this
  rw [this] at h; exact h
/-- What FileTable's loop keeps. -/
structure FTab (w W : World) (b r gv : Nat) (NM : List ByteArray) (seen : Array Nat) (xs : List ByteArray) : Prop where
  rg : TRange W b r NM seen
  row : W.ownsRow w.heap.size 9 1 (.slice (some ⟨gv, 0, none⟩) NM.length NM.length) NM.length (xs.map Value.string)
  len : xs.length = NM.length
  ok : ∀ k, seen.contains k = true → xs[k]? = NM[k]?
  bel : Bel w W
  ge : w.heap.size ≤ r
theorem FTab.rowNe {w W : World} {b r gv : Nat} {NM : List ByteArray} {seen : Array Nat} {xs : List ByteArray} (h : FTab w W b r gv NM seen xs) : gv ≠ b ∧ gv ≠ r := by
  have hh : ∀ k o, W.heap[k]? = some o → (∀ c t m, o ≠ .cells c t m) → gv ≠ k := fun k o hk ho e => by
    rcases h.row.2 with ⟨e1, _⟩ | ⟨g', cap, cur, e1, _, hg, _⟩
    · cases e1
    · injection e1 with e1
      injection e1 with e1
      injection e1 with e1
      subst e1
      rw [e, hk] at hg
      injection hg with hg
      exact ho _ _ _ hg
  exact ⟨hh b _ h.rg.map (fun _ _ _ e => by cases e), hh r _ h.rg.it (fun _ _ _ e => by cases e)⟩
theorem FTab.next {w W W' : World} {b r gv : Nat} {NM : List ByteArray} {seen seen' : Array Nat} {xs : List ByteArray} (h : FTab w W b r gv NM seen xs) (hr : TRange W' b r NM seen') (hg : W.grownBy W' (some r)) :
    W'.ownsRow w.heap.size 9 1 (.slice (some ⟨gv, 0, none⟩) NM.length NM.length) NM.length (xs.map Value.string) ∧ Bel w W' :=
  ⟨h.row.kept hg (.inr (fun e => h.rowNe.2 (by cases e; rfl))), h.bel.grown hg (fun k hk => by injection hk with hk; rw [← hk]; exact h.ge)⟩

set_option maxRecDepth 100000 in
set_option maxHeartbeats 4000000 in
theorem fileTable_any (f : Nat) (gs : List Nat) (nms : List ByteArray) (reg S : List Nat) (w : World) (h : Files w f gs nms reg S) :
    Calls Try.prog 46 #[ptr f] w fun e w' => ∃ v, e = .returned v ∧ w'.ownsRow w.heap.size 9 1 v reg.length ((reg.map fun i => nms.getD i ByteArray.empty).map Value.string) ∧ Bel w w' := by
  obtain ⟨v, ⟨hT, _, hnd, hlt, _, hle, _⟩, _⟩ := h
  have hrl : reg.length ≤ 500 := Nat.le_trans (nodup_le _ _ hnd hlt) hle
  have hc2 := hT.c2
  clear hT hnd hlt hle
  have hNL : (reg.map fun i => nms.getD i ByteArray.empty).length = reg.length := by simp
  generalize (reg.map fun i => nms.getD i ByteArray.empty) = NM at hc2 hNL ⊢
  rw [← hNL] at hrl ⊢
  clear hNL
  obtain ⟨i0, hi, hz0, hz1, hz2⟩ := elStr
  have HI := Lib.hid hi; clear hi
  have HZ0 := Lib.hid hz0; clear hz0
  have HZ1 := Lib.hid hz1; clear hz1
  have HZ2 := Lib.hid hz2; clear hz2
  rcases hc2 with ⟨rfl, c2⟩ | ⟨bn, c2, hm, hpos⟩
  · have hN := fun W : World => run_range_nilMap (P := Try.prog) W 69 9 3 ty69
    go_enter Try.func46, Try.ntmps46
    go_wp2_with (first
      | (refine wpList_make_full _ rfl (.tmp 10) (.tmp 10) 24 rfl w.heap.size 9 i0 (.string ⟨#[]⟩) 1 Try.underlying24 HI.out HZ0.out HZ1.out .i64 .i64 0 0 0 rfl rfl rfl rfl (by omega) (by unfold maxLen; omega) (Nat.le_refl _) ?_; intro w1 ho1 hg1; refine Hid.out ?_))
    refine Lib.hid ?_
    have HO := Lib.hid (own_nil ho1)
    have hb1 : Bel w w1 := (Bel.refl _).grown hg1 (by simp)
    have hr1 := run_range_nilMap (P := Try.prog) w1 69 9 3 ty69
    have d2 := hb1.cell c2
    clear ho1 hg1 hN
    go_wp2_with fail
    go_loopw [17] (fun _ wr => wr = w1.alloc (.mapIter none 0 #[] 0)) (fun _ _ => 0)
    case atStart => rfl
    case round =>
      subst hrel
      have hx := fun ty => run_next_nilMap (P := Try.prog) w1 ty 0 0 #[]
      go_wp2
      go_ret
      exact ⟨_, rfl, HO.out.alloc _, hb1.alloc _⟩
  · go_enter Try.func46, Try.ntmps46
    go_wp2_with (first
      | (at_len; refine wpList_lenMap rfl _ rfl ty69 (by simpa [MapB] using hm) rfl ?_)
      | (refine wpList_make_full _ rfl (.tmp 10) (.tmp 10) 24 rfl w.heap.size 9 i0 (.string ⟨#[]⟩) 1 Try.underlying24 HI.out HZ0.out HZ1.out .i64 .i64 (textEs NM 0).length (textEs NM 0).length NM.length rfl rfl (by rw [textEs_length]) (by rw [textEs_length]) (by rw [HZ2.out]; omega) (by unfold maxLen; omega) (Nat.le_refl _) ?_; intro w1 ho1 hg1; refine Hid.out ?_))
    refine Lib.hid ?_
    rw [made_str] at ho1
    have hb1 : Bel w w1 := (Bel.refl _).grown hg1 (by simp)
    have hm1 := hm.bel hb1
    have d2 := hb1.cell c2
    have hF : FTab w (w1.alloc (.mapIter (some bn) NM.length #[] NM.length)) bn w1.heap.size w.heap.size NM #[] (List.replicate NM.length ⟨#[]⟩) :=
      ⟨⟨hm1.alloc _, heap_alloc_new w1 _⟩, ho1.alloc _, by simp, by simp, hb1.alloc _, hb1.size⟩
    have HF := Lib.hid hF; clear hF ho1 hg1 hm
    have hr1 := run_range_map (P := Try.prog) w1 69 9 3 bn (textEs NM 0).toArray NM.length ty69 hm1
    clear hm1 hb1 c2
    go_wp2_with fail
    generalize hr : w1.heap.size = r at HF ⊢
    generalize w1.alloc (.mapIter (some bn) NM.length #[] NM.length) = w2 at HF ⊢
    clear hr hr1 d2
    go_loopw [17] (fun _ wr => ∃ seen xs, FTab w wr bn r w.heap.size NM seen xs) (fun _ wr => wr.rangeLeft bn r)
    case atStart => exact ⟨_, _, HF.out⟩
    case round =>
      obtain ⟨seen, xs, hT⟩ := hrel
      have HT := Lib.hid hT; clear hT HF
      go_wp2_with (at_next; refine wpList_nextText rfl _ rfl rfl HT.out.rg ?_ ?_)
      · intro hall
        have hxs : xs = NM := by
          apply List.ext_getElem?
          intro k
          by_cases hk : k < NM.length
          · exact HT.out.ok k (by simpa using hall k hk)
          · rw [List.getElem?_eq_none (by rw [HT.out.len]; omega), List.getElem?_eq_none (by omega)]
        have HO := Lib.hid (And.intro HT.out.row HT.out.bel)
        rw [hxs] at HO
        clear hall hxs
        go_wp2
        go_ret
        exact ⟨_, rfl, HO.out.1, HO.out.2⟩
      · intro k s w3 hk hks hr3 hg3 hs3 hlt3 hen
        obtain ⟨hrow, hb3⟩ := HT.out.next hr3 hg3
        have hkl := (List.getElem?_eq_some_iff.1 hk).1
        have hxl := HT.out.len
        obtain ⟨x0, hx0⟩ : ∃ e, xs[k]? = some e := ⟨_, List.getElem?_eq_getElem (by omega)⟩
        have ck : w3.cell? ⟨w.heap.size, k, none⟩ = some (.string x0) := by
          have := hrow.cells (g := w.heap.size) rfl k (.string x0) (by rw [List.getElem?_map, hx0]; rfl)
          simpa [Addr.add_lit] using this
        have fk : w3.frozen? ⟨w.heap.size, k, none⟩ = false := hrow.frozenAt _
        have hlt4 : (w3.setCell ⟨w.heap.size, k, none⟩ (.string s)).rangeLeft bn r = w3.rangeLeft bn r := by
          unfold World.rangeLeft
          rw [Below.heap_setCell w3 ⟨w.heap.size, k, none⟩ (.string s) bn (fun e => HT.out.rowNe.1 e.symm), Below.heap_setCell w3 ⟨w.heap.size, k, none⟩ (.string s) r (fun e => HT.out.rowNe.2 e.symm)]
        have HN : Hid (FTab w (w3.setCell ⟨w.heap.size, k, none⟩ (.string s)) bn r w.heap.size NM (seen.push k) (xs.set k s)) := Lib.hid
          ⟨hr3.far (fun e => HT.out.rowNe.1 e.symm) (fun e => HT.out.rowNe.2 e.symm) _, own_store hrow k s, by simp [hxl], fun j hj => by
            rw [contains_push] at hj
            by_cases e : j = k
            · subst e; rw [List.getElem?_set_self (by omega), hk]
            · rw [List.getElem?_set_ne (Ne.symm e)]
              exact HT.out.ok j (by simpa [e] using hj), Below.setCell hb3 (p := ⟨w.heap.size, k, none⟩) (Nat.le_refl _) _, HT.out.ge⟩
        have HL : Hid ((w3.setCell ⟨w.heap.size, k, none⟩ (.string s)).rangeLeft bn r < wr.rangeLeft bn r) := Lib.hid (by rw [hlt4]; exact hlt3)
        have i0 : (0 : Int) ≤ (k : Int) := by omega
        have i1 : (k : Int) < (NM.length : Int) := by omega
        clear hlt4 hlt3 hrow hb3 hr3 hg3 hs3 hk hks hx0
        go_wp2
        go_roundw
        case rel => exact ⟨_, _, HN.out⟩
        case measure => exact HL.out
end Go.Proofs.Ytbekmpmfkblgnaa
