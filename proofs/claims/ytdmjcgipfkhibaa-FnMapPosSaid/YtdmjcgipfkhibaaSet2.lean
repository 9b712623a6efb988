/- The walks of newSparseSet, numbers, ids, addAll. -/
import Derived.Test.YtdmjcgipfkhibaaSet1
import Derived.Test.YtdmjcgipfkhibaaSpec4
namespace Go.Proofs.Ytdmjcgipfkhibaa
open Go.RowKit

theorem el22' : ElTy 33 2 1 8 := ElTy.mk' (z := .int .i64 0) Try.underlying33 (by kernel_rfl) rfl (by decide)

theorem eli32 : ∃ i, Try.prog.info? 21 = some i ∧ i.zero = some (.int .i32 0) ∧ i.size = 1 ∧ i.bytes = 4 := info_parts (by kernel_rfl)
theorem made_zero32 (n : Nat) : (madeCells #[Value.int .i32 0] n).toList = (List.replicate n (0 : Int)).map (Value.int .i32) := by
  apply List.ext_getElem?
  intro i
  by_cases h : i < n <;> simp [madeCells, h, Nat.mod_one]

/-- A row that is known whole, as a block. -/
theorem blk_of_full {w : World} {base : Nat} {e : TypeId} {g n : Nat} {xs : List Value} (h : w.ownsRow base e 1 (.slice (some ⟨g, 0, none⟩) n n) n xs) : Blk w g e xs := by
  obtain ⟨hl, h | ⟨g', cap', cur, hv, hb, hh, hn, hc, hs, ht⟩⟩ := h
  · cases h.1
  · injection hv with h1 h2 h3
    injection h1 with h1
    injection h1 with h1 _ _
    subst h1 h3
    unfold Blk
    rw [hh, ← ht, List.take_of_length_le (by simp; omega)]

set_option maxHeartbeats 400000 in
theorem new_small (n : Nat) (w : World) (hn : n ≤ 1000000) :
    Calls Try.prog 79 #[.int .i64 n] w fun e w' => ∃ g gs, e = .returned (ptrTo g) ∧ SetW w' w.heap.size n g gs (.slice none 0 0) [] (List.replicate n 0) ∧ Bel w w' := by
  obtain ⟨i0, hi, hz0, hz1, hz2⟩ := eli32
  have HI := Lib.hid hi; clear hi
  have HZ0 := Lib.hid hz0; clear hz0
  have HZ1 := Lib.hid hz1; clear hz1
  have HZ2 := Lib.hid hz2; clear hz2
  go_enter Try.func79, Try.ntmps79
  go_wp2_with (refine wpList_make_full _ rfl (.tmp 3) (.tmp 3) 94 rfl w.heap.size 21 i0 (.int .i32 0) 1 Try.underlying94 HI.out HZ0.out HZ1.out .i64 .i64 n n n rfl rfl rfl rfl (by rw [HZ2.out]; omega) (by unfold maxLen; omega) (Nat.le_refl _) ?_)
  intro w1 ho1 hg1
  rw [made_zero32] at ho1
  have hb1 : Bel w w1 := (Bel.refl _).grown hg1 (by simp)
  have hS := blk_of_full ho1
  have hlt := hS.lt
  clear ho1 hg1
  go_wp2
  go_ret
  refine ⟨w1.heap.size, w.heap.size, rfl, ⟨Blk.new w1 _ [_, _], hS.alloc _, World.ownsRow_nil _ _ _ _, Pl.SI.new n, by simp, ⟨by omega, Nat.le_refl _⟩⟩, hb1.alloc _⟩

theorem new_any (n : Nat) (w : World) (hn : n ≤ 1000000) :
    Calls Try.prog 43 #[.int .i64 n] w fun e w' => ∃ g gs, e = .returned (ptrTo g) ∧ SetW w' w.heap.size n g gs (.slice none 0 0) [] (List.replicate n 0) ∧ Bel w w' := by
  have H := Lib.hid (new_small n w hn)
  go_enter Try.func43, Try.ntmps43
  go_wp2_with (go_at_call 79; refine H.out.mono ?_; rintro e w' ⟨g, gs, rfl, hs, hb⟩)
  go_ret
  exact ⟨g, gs, rfl, hs, hb⟩

set_option maxHeartbeats 400000 in
theorem numbers_any {w : World} {base0 base : Nat} {vd : Value} {d : List Pl.Ent} (h : w.ownsRow base0 86 1 vd d.length (idCells d)) (hd : d.length ≤ 1000000) (hr : ∀ e ∈ d, 0 ≤ e.1 ∧ e.1 ≤ 1000000) (hbase : base ≤ w.heap.size) :
    Calls Try.prog 56 #[vd] w fun e w' => ∃ u, e = .returned u ∧ w'.ownsRow base 2 1 u d.length ((d.map (·.1)).map (Value.int .i64)) ∧ Bel w w' := by
  obtain ⟨a, c, rfl, hlc, hcm, hcell⟩ := own_form h
  clear h
  have HC := Lib.hid hcell; clear hcell
  have HR := Lib.hid hr; clear hr
  go_enter Try.func56, Try.ntmps56
  go_wp2
  go_loopw [3, 9] (fun u i wr => ∃ j : Nat, j ≤ d.length ∧ i = .int .i64 j ∧ wr.ownsRow w.heap.size 2 1 u j (((d.map (·.1)).take j).map (Value.int .i64)) ∧ Bel w wr) (fun _ i _ => d.length - (intOf i).toNat)
  case atStart => exact ⟨0, Nat.zero_le _, rfl, owns_empty _ _ _ _ _ rfl (Nat.le_refl _), (Bel.refl w).alloc _⟩
  case round =>
    obtain ⟨j, hj, rfl, hown, hbel⟩ := hrel
    have HO := Lib.hid hown; clear hown
    have hbs := hbel.size
    by_cases hlt : j < d.length
    · obtain ⟨gd, rfl, hgd⟩ := HC.out (by omega)
      obtain ⟨e, he⟩ : ∃ e, d[j]? = some e := ⟨_, List.getElem?_eq_getElem hlt⟩
      have hc0 := hbel.cell (hgd j _ (idCells_at he))
      have HE : Hid ((d.map (·.1)).take (j + 1) = (d.map (·.1)).take j ++ [e.1]) := Lib.hid (by rw [List.take_add_one, List.getElem?_map, he]; rfl)
      obtain ⟨hr0, hr1⟩ := HR.out e (List.mem_of_getElem? he)
      clear hgd he
      go_wp2_with (at_builtin; refine wpList_push el22' rfl (.tmp 13) (.tmp 16) rfl w.heap.size u3 j _ rfl HO.out [.int .i64 e.1] wr.heap.size rfl rfl rfl (by simp [Value.oneCell']) (by omega) (by omega) (by omega) ?_)
      intro u1 w1 ho1 hg1 _
      have hb2 : Bel w w1 := hbel.grown hg1 (fun k hk => (HO.out.lt k hk).1)
      have ho2 : w1.ownsRow w.heap.size 2 1 u1 (j + 1) (((d.map (·.1)).take (j + 1)).map (Value.int .i64)) := by rw [HE.out, List.map_append]; simpa using ho1
      clear ho1 hg1
      go_wp2
      go_roundw
      case rel => exact ⟨j + 1, by omega, by go_num, ho2, hb2⟩
      case measure => simp [intOf]; omega
    · go_wp2
      go_ret
      obtain rfl : j = d.length := by omega
      refine ⟨_, rfl, ?_, hbel⟩
      have := HO.out
      rw [List.take_of_length_le (by simp)] at this
      exact own_base this (fun k hk => Nat.le_trans hbase (World.ownsRow.lt this k hk).1)

/-- Numbers as a set takes them. -/
def idsOf (l : List Int) : List Value := l.map (Value.int .i32)
set_option maxHeartbeats 400000 in
theorem ids_small {w : World} {v : Value} {l : List Int} (h : IntS w v l) (hl : l.length ≤ 1000000) (hr : ∀ x ∈ l, 0 ≤ x ∧ x ≤ 1000000) :
    Calls Try.prog 88 #[v] w fun e w' => ∃ u, e = .returned u ∧ w'.ownsRow w.heap.size 86 1 u l.length (idsOf l) ∧ Bel w w' := by
  obtain ⟨a, c, rfl, hlc, hcm, hcell⟩ := h
  have HC := Lib.hid hcell; clear hcell
  have HR := Lib.hid hr; clear hr
  go_enter Try.func88, Try.ntmps88
  go_wp2
  go_loopw [3, 9] (fun u i wr => ∃ j : Nat, j ≤ l.length ∧ i = .int .i64 j ∧ wr.ownsRow w.heap.size 86 1 u j (idsOf (l.take j)) ∧ Bel w wr) (fun _ i _ => l.length - (intOf i).toNat)
  case atStart => exact ⟨0, Nat.zero_le _, rfl, owns_empty _ _ _ _ _ rfl (Nat.le_refl _), (Bel.refl w).alloc _⟩
  case round =>
    obtain ⟨j, hj, rfl, hown, hbel⟩ := hrel
    have HO := Lib.hid hown; clear hown
    have hbs := hbel.size
    by_cases hlt : j < l.length
    · obtain ⟨b, o, rfl, hgd⟩ := HC.out (by omega)
      obtain ⟨x, he⟩ : ∃ e, l[j]? = some e := ⟨_, List.getElem?_eq_getElem hlt⟩
      have hc0 := hbel.cell (hgd j _ he)
      have HE : Hid (l.take (j + 1) = l.take j ++ [x]) := Lib.hid (by rw [List.take_add_one, he]; rfl)
      obtain ⟨hr0, hr1⟩ := HR.out x (List.mem_of_getElem? he)
      clear hgd he
      go_wp2_with (at_builtin; refine wpList_push el74 rfl (.tmp 13) (.tmp 16) rfl w.heap.size u3 j _ rfl HO.out [.int .i32 x] wr.heap.size rfl rfl rfl (by simp [Value.oneCell']) (by omega) (by omega) (by omega) ?_)
      intro u1 w1 ho1 hg1 _
      have hb2 : Bel w w1 := hbel.grown hg1 (fun k hk => (HO.out.lt k hk).1)
      have ho2 : w1.ownsRow w.heap.size 86 1 u1 (j + 1) (idsOf (l.take (j + 1))) := by rw [HE.out]; unfold idsOf; rw [List.map_append]; exact ho1
      clear ho1 hg1
      go_wp2
      go_roundw
      case rel => exact ⟨j + 1, by omega, by go_num, ho2, hb2⟩
      case measure => simp [intOf]; omega
    · go_wp2
      go_ret
      obtain rfl : j = l.length := by omega
      refine ⟨_, rfl, ?_, hbel⟩
      have := HO.out
      rwa [List.take_of_length_le (Nat.le_refl _)] at this

def addAllE (d : List Pl.Ent) (l : List Int) : List Pl.Ent := l.foldl addE d
theorem addAllE_snoc (d : List Pl.Ent) (l : List Int) (x : Int) : addAllE d (l ++ [x]) = addE (addAllE d l) x := by simp [addAllE]

theorem SetTo.trans {w w1 w2 : World} {base n g gs : Nat} {vd vd1 : Value} {d1 d2 : List Pl.Ent} {sp1 : List Int} (h1 : SetW w1 base n g gs vd1 d1 sp1) (hk : Kept (foot g gs vd) w w1) (hv : ∀ b, vd1.ownBlock = some b → vd.ownBlock = some b ∨ w.heap.size ≤ b)
    (h2 : SetTo w1 w2 base n g gs vd1 d2) : SetTo w w2 base n g gs vd d2 := by
  obtain ⟨vd2, sp2, a, b, c⟩ := h2
  refine ⟨vd2, sp2, a, hk.trans b (fun i hi => ?_), fun x hx => ?_⟩
  · unfold foot at hi ⊢
    rcases List.mem_cons.1 hi with rfl | hi
    · exact .inl (by simp)
    · rcases List.mem_cons.1 hi with rfl | hi
      · exact .inl (by simp)
      · have : vd1.ownBlock = some i := by cases hv : vd1.ownBlock <;> rw [hv] at hi <;> simp at hi; rw [hi]
        rcases hv i this with h | h
        · exact .inl (by rw [h]; simp)
        · exact .inr h
  · rcases c x hx with h | h
    · exact hv x h
    · exact .inr (Nat.le_trans hk.size h)

set_option maxHeartbeats 1000000 in
theorem addAll_any {w : World} {base n g gs : Nat} {vd : Value} {d : List Pl.Ent} {sp : List Int} (h : SetW w base n g gs vd d sp) (hn : n ≤ 1000000) {base' : Nat} {u : Value} {l : List Int}
    (ho : w.ownsRow base' 86 1 u l.length (idsOf l)) (hu : ∀ k, u.ownBlock = some k → vd.ownBlock ≠ some k) (hl : l.length ≤ 1000000) (hr : ∀ x ∈ l, 0 ≤ x ∧ x < n) :
    Calls Try.prog 123 #[ptrTo g, u] w fun e w' => (∃ v, e = .returned v) ∧ SetTo w w' base n g gs vd (addAllE d l) := by
  obtain ⟨a, c, rfl, hlc, hcm, hcell⟩ := own_form ho
  have hg := own_ne ho h.hg (by decide)
  have hs := own_ne ho h.hs (by decide)
  have HC := Lib.hid (show 0 < l.length → ∃ gu, a = some ⟨gu, 0, none⟩ ∧ gu ∉ foot g gs vd ∧ gu < w.heap.size ∧ ∀ j x, l[j]? = some x → w.cell? ⟨gu, j, none⟩ = some (.int .i32 x) from fun h0 => by
    obtain ⟨gu, rfl, hc⟩ := hcell h0
    refine ⟨gu, rfl, ?_, (ho.lt gu rfl).2, fun j x hx => hc j _ (by unfold idsOf; rw [List.getElem?_map, hx]; rfl)⟩
    unfold foot
    intro hm
    rcases List.mem_cons.1 hm with rfl | hm
    · exact hg rfl
    · rcases List.mem_cons.1 hm with rfl | hm
      · exact hs rfl
      · have : vd.ownBlock = some gu := by cases hv : vd.ownBlock <;> rw [hv] at hm <;> simp at hm; rw [hm]
        exact hu gu rfl this)
  clear hcell hg hs ho hu
  have HR := Lib.hid hr; clear hr
  have H := Lib.hid h; clear h
  go_enter Try.func123, Try.ntmps123
  go_wp2
  go_loopw [8] (fun i wr => ∃ j : Nat, j ≤ l.length ∧ i = .int .i64 j ∧ SetTo w wr base n g gs vd (addAllE d (l.take j))) (fun i _ => l.length - (intOf i).toNat)
  case atStart => exact ⟨0, Nat.zero_le _, rfl, SetTo.refl H.out⟩
  case round =>
    obtain ⟨j, hj, rfl, hto⟩ := hrel
    by_cases hlt : j < l.length
    · obtain ⟨vd1, sp1, h1, hk, hv⟩ := hto
      obtain ⟨gu, rfl, hf, hgl, hgd⟩ := HC.out (by omega)
      obtain ⟨x, he⟩ : ∃ e, l[j]? = some e := ⟨_, List.getElem?_eq_getElem hlt⟩
      have hc0 := hk.cell (hgd j _ he) hf
      have HE : Hid (l.take (j + 1) = l.take j ++ [x]) := Lib.hid (by rw [List.take_add_one, he]; rfl)
      obtain ⟨hr0, hr1⟩ := HR.out x (List.mem_of_getElem? he)
      obtain ⟨k, rfl⟩ := Int.eq_ofNat_of_zero_le hr0
      have hks : k < n := by omega
      have HA := Lib.hid (add_any h1 hn (by have := h1.hb.1; have := h1.hg.lt; omega) k hks)
      have H1 := Lib.hid (And.intro h1 (And.intro hk hv))
      clear hgd he h1 hk hv
      go_wp2_with (go_at_call 116; refine HA.out.mono ?_; rintro e w2 ⟨⟨v, rfl⟩, hto2⟩)
      have hto3 := Lib.hid (SetTo.trans H1.out.1 H1.out.2.1 H1.out.2.2 hto2)
      clear hto2
      go_wp2
      go_roundw
      case rel => exact ⟨j + 1, by omega, by go_num, by rw [HE.out, addAllE_snoc]; exact hto3.out⟩
      case measure => simp [intOf]; omega
    · have HT := Lib.hid hto; clear hto
      go_wp2
      go_end0
      obtain rfl : j = l.length := by omega
      have := HT.out
      rw [List.take_of_length_le (Nat.le_refl _)] at this
      exact ⟨⟨_, rfl⟩, this⟩
theorem AddAll_any {w : World} {base n g gs : Nat} {vd : Value} {d : List Pl.Ent} {sp : List Int} (h : SetW w base n g gs vd d sp) (hn : n ≤ 1000000) {base' : Nat} {u : Value} {l : List Int}
    (ho : w.ownsRow base' 86 1 u l.length (idsOf l)) (hu : ∀ k, u.ownBlock = some k → vd.ownBlock ≠ some k) (hl : l.length ≤ 1000000) (hr : ∀ x ∈ l, 0 ≤ x ∧ x < n) :
    Calls Try.prog 87 #[ptrTo g, u] w fun e w' => (∃ v, e = .returned v) ∧ SetTo w w' base n g gs vd (addAllE d l) := by
  have H := Lib.hid (addAll_any h hn ho hu hl hr)
  clear h ho hu hr
  go_enter Try.func87, Try.ntmps87
  go_wp2_with (go_at_call 123; refine H.out.mono ?_; rintro e w' ⟨⟨v, rfl⟩, hs⟩)
  go_end0
  exact ⟨⟨_, rfl⟩, hs⟩
end Go.Proofs.Ytdmjcgipfkhibaa
