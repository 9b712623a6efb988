/- New maps of lines: newXposmap, NewXPosMap. -/
import Derived.Test.YtangceejmjklcaaLn4
import Derived.StillTailTactics
import Derived.Deep.RegionLaw
import Derived.Deep.DeepCutAuto
import Derived.Carry
namespace Go.Proofs.Ytangceejmjklcaa
open Go.RowKit Go.BigFrame

def rgE (f : Int) (n : Nat) : Value := .agg #[.int .u32 f, .int .u32 (f + n - 1)]
def rangeKV (fs : Nat → Int) (ns : Nat → Nat) (m : Nat) : List (Int × Value) := (List.range m).map fun i : Nat => ((i : Int) + 1, rgE (fs i) (ns i))
theorem rangeKV_at {fs : Nat → Int} {ns : Nat → Nat} {m k : Nat} {e : Value × Value} (h : (intKV .i64 (rangeKV fs ns m))[k]? = some e) : k < m ∧ e = (.int .i64 ((k : Int) + 1), rgE (fs k) (ns k)) := by
  obtain ⟨e', h1, rfl⟩ := intKV_at h
  unfold rangeKV at h1
  rw [List.getElem?_map] at h1
  obtain ⟨i, h2, rfl⟩ := Option.map_eq_some_iff.1 h1
  obtain ⟨h3, h4⟩ := List.getElem?_eq_some_iff.1 h2
  simp at h3 h4
  subst h4
  exact ⟨h3, rfl⟩
theorem rangeKV_length (fs : Nat → Int) (ns : Nat → Nat) (m : Nat) : (intKV .i64 (rangeKV fs ns m)).length = m := by simp [intKV, rangeKV]

theorem MapW.lower {w : World} {base base' n g gs : Nat} {vd : Value} {d : List Pl.Ent} {sp : List Int} (h : MapW w base n g gs vd d sp) (hb : base' ≤ base) : MapW w base' n g gs vd d sp :=
  ⟨h.hg, h.hs, own_base h.hd (fun k hk => Nat.le_trans hb (h.hd.lt k hk).1), h.hi, h.hz, ⟨Nat.le_trans hb h.hb.1, Nat.le_trans hb h.hb.2⟩⟩
theorem BiaW.lower {w : World} {base base' n g gs gb : Nat} {f : Int} {vd : Value} {d : List Pl.Ent} {sp : List Int} (h : BiaW w base n g gs gb f vd d sp) (hb : base' ≤ base) : BiaW w base' n g gs gb f vd d sp :=
  ⟨h.hb, h.hm.lower hb, Nat.le_trans hb h.hg⟩
theorem Kept.row {w w' : World} {r : Nat} (hg : w.grownBy w' (some r)) : Kept [r] w w' :=
  ⟨hg.os, hg.tape, hg.output, hg.size, fun k hk hr => hg.block k hk (fun e => hr (by injection e with e; simp [e]))⟩
/-- A biased map stands where a block that is no row changes. -/
theorem BiaW.other {w w' : World} {base n g gs gb : Nat} {f : Int} {vd : Value} {d : List Pl.Ent} {sp : List Int} (h : BiaW w base n g gs gb f vd d sp) {r : Nat} {o : Obj} (hr : w.heap[r]? = some o) (ho : ∀ cs t m, o ≠ .cells cs t m) (hg : w.grownBy w' (some r)) : BiaW w' base n g gs gb f vd d sp := by
  refine h.kept (Kept.row hg) ?_ (fun b hb => ?_)
  · simp
    intro e
    have := h.hb
    unfold Blk at this
    rw [e, hr] at this
    cases this
    exact ho _ _ _ rfl
  · obtain ⟨_, cs, t, mm, h2, _⟩ := foot_types h.hm b hb
    simp
    intro e
    rw [e, hr] at h2
    cases h2
    exact ho _ _ _ rfl

/-- What newXposmap's loop keeps. -/
structure NewI (w W : World) (b1 bm r m : Nat) (fs : Nat → Int) (ns : Nat → Nat) (F : Nat → FileS) (seen : Array Nat) : Prop where
  rg : KRange W b1 r (intKV .i64 (rangeKV fs ns m)) seen
  mp : MapB W bm (kvEs (intKV .i32 (mapL F seen.toList)) 0) seen.size
  nd : seen.toList.Nodup
  lt : ∀ i ∈ seen.toList, i < m
  fn : ∀ i ∈ seen.toList, (F i).n = ns i ∧ (F i).f = fs i
  hb : ∀ i ∈ seen.toList, BiaW W w.heap.size (F i).n (F i).g (F i).gs (F i).gb (F i).f (.slice none 0 0) [] (List.replicate (ns i) 0)
  hd : ∀ i ∈ seen.toList, ∀ j ∈ seen.toList, i ≠ j → ∀ b ∈ mfoot (F i).g (F i).gs (.slice none 0 0), b ∉ mfoot (F j).g (F j).gs (.slice none 0 0)
  bel : Bel w W
  h1 : b1 < w.heap.size
  h2 : w.heap.size ≤ bm
  h3 : w.heap.size ≤ r
theorem NewI.it {w W : World} {b1 bm r m : Nat} {fs : Nat → Int} {ns : Nat → Nat} {F : Nat → FileS} {seen : Array Nat} (h : NewI w W b1 bm r m fs ns F seen) : W.heap[r]? = some (.mapIter (some b1) m seen m) := by
  have := h.rg.it
  rwa [rangeKV_length] at this
theorem NewI.rbm {w W : World} {b1 bm r m : Nat} {fs : Nat → Int} {ns : Nat → Nat} {F : Nat → FileS} {seen : Array Nat} (h : NewI w W b1 bm r m fs ns F seen) : bm ≠ r := fun e => by
  have h1 := h.mp
  unfold MapB at h1
  rw [e, h.it] at h1
  cases h1

theorem not_seen {seen : Array Nat} {k : Nat} (h : seen.contains k = false) : k ∉ seen.toList := fun hin => by
  have : seen.contains k = true := by simpa using hin
  rw [h] at this
  cases this
/-- A file more: the iterator has told file k, its map has been made, and is put into the map. -/
theorem NewI.mid {w W W3 W5 : World} {b1 bm r m : Nat} {fs : Nat → Int} {ns : Nat → Nat} {F : Nat → FileS} {seen : Array Nat} (h : NewI w W b1 bm r m fs ns F seen) {k : Nat} (_hk : k < m) (hks : seen.contains k = false) (hg3 : W.grownBy W3 (some r)) (hb5 : Bel W3 W5) :
    MapB W5 bm (kvEs (intKV .i32 (mapL F seen.toList)) 0) seen.size ∧ (Instr.findKey 21 (.int .i32 ((k : Int) + 1)) (kvEs (intKV .i32 (mapL F seen.toList)) 0)).run Try.prog W5 = .ok none W5 := by
  refine ⟨((h.mp.grown hg3 (by simpa using h.rbm)).bel hb5), run_findInt_not tyI32 (fun hm => ?_)⟩
  unfold mapL at hm
  rw [List.map_map] at hm
  obtain ⟨i, hi, he⟩ := List.mem_map.1 hm
  simp only [Function.comp] at he
  have : i = k := by omega
  subst this
  exact not_seen hks hi
theorem NewI.step {w W W3 W4 W5 W6 : World} {b1 bm r m : Nat} {fs : Nat → Int} {ns : Nat → Nat} {F : Nat → FileS} {seen : Array Nat} (h : NewI w W b1 bm r m fs ns F seen) {k : Nat} (hk : k < m) (hks : seen.contains k = false)
    (hr3 : KRange W3 b1 r (intKV .i64 (rangeKV fs ns m)) (seen.push k)) (hg3 : W.grownBy W3 (some r)) (hb4 : Bel W3 W4) {g gs gb : Nat} (hB : BiaW W5 W4.heap.size (ns k) g gs gb (fs k) (.slice none 0 0) [] (List.replicate (ns k) 0)) (hb5 : Bel W4 W5)
    (hm6 : MapB W6 bm (kvEs (intKV .i32 (mapL F seen.toList)) 0 ++ [⟨.int .i32 ((k : Int) + 1), mptr gb, seen.size⟩]) (seen.size + 1)) (hg6 : W5.grownBy W6 (some bm)) :
    NewI w W6 b1 bm r m fs ns (fun i => if i = k then ⟨ns k, fs k, g, gs, gb⟩ else F i) (seen.push k) ∧ W6.rangeLeft b1 r = W3.rangeLeft b1 r := by
  have hkn : k ∉ seen.toList := not_seen hks
  have hb35 := hb4.trans hb5
  have hm5 := (h.mid hk hks hg3 hb35).1
  have hne : ∀ i ∈ seen.toList, i ≠ k := fun i hi e => hkn (e ▸ hi)
  have hold : ∀ i ∈ seen.toList, BiaW W3 w.heap.size (F i).n (F i).g (F i).gs (F i).gb (F i).f (.slice none 0 0) [] (List.replicate (ns i) 0) := fun i hi => (h.hb i hi).other h.it (fun _ _ _ e => by cases e) hg3
  have hsz : w.heap.size ≤ W3.heap.size := Nat.le_trans h.bel.size hg3.size
  have hr5 := hr3.bel hb35
  have hr6 : KRange W6 b1 r (intKV .i64 (rangeKV fs ns m)) (seen.push k) := ⟨hr5.map.grown hg6 (by have := h.h1; have := h.h2; simp; omega), (hg6.block r (lt_of_block hr5.it) (by simpa using (Ne.symm h.rbm))).trans hr5.it⟩
  have hmem : ∀ i, i ∈ (seen.push k).toList ↔ i ∈ seen.toList ∨ i = k := fun i => by simp
  refine ⟨⟨hr6, ?_, ?_, ?_, ?_, ?_, ?_, ?_, h.h1, h.h2, h.h3⟩, ?_⟩
  · rw [Array.size_push]
    have e1 : intKV .i32 (mapL (fun i => if i = k then ⟨ns k, fs k, g, gs, gb⟩ else F i) (seen.push k).toList) = intKV .i32 (mapL F seen.toList) ++ [(.int .i32 ((k : Int) + 1), mptr gb)] := by
      unfold intKV mapL
      rw [Array.toList_push, List.map_append, List.map_append]
      congr 1
      · congr 1
        refine List.map_congr_left (fun i hi => ?_)
        simp [hne i hi]
      · simp
    rw [e1, kvEs_snoc]
    have e2 : (intKV .i32 (mapL F seen.toList)).length = seen.size := by rw [mapKV_length]; simp
    rw [e2, Nat.zero_add]
    exact hm6
  · rw [Array.toList_push, List.nodup_append]
    exact ⟨h.nd, by simp, fun a ha b hb => by simp at hb; subst hb; exact hne a ha⟩
  · intro i hi
    rcases (hmem i).1 hi with hi | rfl
    · exact h.lt i hi
    · exact hk
  · intro i hi
    rcases (hmem i).1 hi with hi | rfl
    · simp only [hne i hi, if_false]; exact h.fn i hi
    · simp
  · intro i hi
    rcases (hmem i).1 hi with hi | rfl
    · simp only [hne i hi, if_false]
      exact ((hold i hi).bel hb35).other hm5 (fun _ _ _ e => by cases e) hg6
    · simp only [if_true]
      exact (hB.lower (Nat.le_trans hsz hb4.size)).other hm5 (fun _ _ _ e => by cases e) hg6
  · have hnew : ∀ b ∈ mfoot g gs (.slice none 0 0), W4.heap.size ≤ b := fun b hb => (hB.hm.foot_ge b hb).1
    have hlt : ∀ i ∈ seen.toList, ∀ b ∈ mfoot (F i).g (F i).gs (.slice none 0 0), b < W4.heap.size := fun i hi b hb => Nat.lt_of_lt_of_le ((hold i hi).hm.foot_ge b hb).2 hb4.size
    intro i hi j hj hij b hb
    rcases (hmem i).1 hi with hi' | rfl
    · rcases (hmem j).1 hj with hj' | rfl
      · simp only [hne i hi', hne j hj', if_false] at hb ⊢
        exact h.hd i hi' j hj' hij b hb
      · simp only [hne i hi', if_false, if_true] at hb ⊢
        intro hb2
        have h1 := hnew b hb2
        have h2 := hlt i hi' b hb
        omega
    · rcases (hmem j).1 hj with hj' | rfl
      · simp only [hne j hj', if_false, if_true] at hb ⊢
        intro hb2
        have h1 := hnew b hb
        have h2 := hlt j hj' b hb2
        omega
      · exact absurd rfl hij
  · exact ((h.bel.grown hg3 (fun q hq => by injection hq with hq; rw [← hq]; exact h.h3)).trans hb35).grown hg6 (fun q hq => by injection hq with hq; rw [← hq]; exact h.h2)
  · have e1 : W5.rangeLeft b1 r = W3.rangeLeft b1 r := hr3.left_kt (KT.of_bel (T := []) (B := 0) hb35)
    rw [← e1]
    have h1 := hr5.map
    have h2 := hr6.map
    unfold MapB at h1 h2
    unfold World.rangeLeft
    rw [h1, h2, hr5.it, hr6.it]
theorem NewI.done {w W : World} {b1 bm r m : Nat} {fs : Nat → Int} {ns : Nat → Nat} {F : Nat → FileS} {seen : Array Nat} (h : NewI w W b1 bm r m fs ns F seen) (hall : ∀ k, k < (intKV .i64 (rangeKV fs ns m)).length → seen.contains k = true)
    (hr : ∀ i, i < m → 1 ≤ fs i ∧ fs i ≤ 1000000 ∧ 0 < ns i ∧ ns i ≤ 2000) (hm : m ≤ 1000) :
    LnW (W.alloc (.cells #[.map (some bm), .int .i32 (-1), .pointer none] 92)) w.heap.size W.heap.size m F (fun _ => []) ∧ ∀ i, i < m → (F i).n = ns i ∧ (F i).f = fs i := by
  have hin : ∀ i, i < m → i ∈ seen.toList := fun i hi => by
    have := hall i (by rw [rangeKV_length]; exact hi)
    simpa using this
  have hp : seen.toList.Perm (List.range m) := (List.perm_ext_iff_of_nodup h.nd List.nodup_range).2 (fun i => ⟨fun hi => List.mem_range.2 (h.lt i hi), fun hi => hin i (List.mem_range.1 hi)⟩)
  have hsz : seen.size = m := by have := hp.length_eq; simpa using this
  have hb : Bel W (W.alloc (.cells #[.map (some bm), .int .i32 (-1), .pointer none] 92)) := (Bel.refl W).alloc _
  refine ⟨⟨fun _ => .slice none 0 0, bm, seen.toList, ⟨⟨-1, .pointer none, Blk.new W _ [_, _, _], .inl ⟨rfl, rfl⟩⟩, ?_, hp, fun i hi => ⟨_, (h.hb i (hin i hi)).bel hb⟩, fun i j hi hj hij => h.hd i (hin i hi) j (hin j hj) hij, h.bel.size, fun i hi => ?_, by omega⟩⟩, fun i hi => h.fn i (hin i hi)⟩
  · rw [← hsz]; exact h.mp.bel hb
  · obtain ⟨h1, h2⟩ := h.fn i (hin i hi)
    obtain ⟨h3, h4, h5, h6⟩ := hr i hi
    rw [h1, h2]
    exact ⟨by omega, by omega, by omega⟩

theorem tyMap1 : Try.prog.underlying 76 = some (.map 3 78) := Try.underlying76
theorem tyInt : Try.prog.underlying 3 = some (.int .i64) := Try.underlying3

set_option maxRecDepth 100000 in
set_option maxHeartbeats 4000000 in
theorem newXposmap_any (w : World) (b1 m : Nat) (fs : Nat → Int) (ns : Nat → Nat) (h : MapB w b1 (kvEs (intKV .i64 (rangeKV fs ns m)) 0) m) (hr : ∀ i, i < m → 1 ≤ fs i ∧ fs i ≤ 1000000 ∧ 0 < ns i ∧ ns i ≤ 2000) (hm : m ≤ 1000) :
    Calls Try.prog 24 #[.map (some b1)] w fun e w' => ∃ x F, e = .returned (mptr x) ∧ (∀ i, i < m → (F i).n = ns i ∧ (F i).f = fs i) ∧ LnW w' w.heap.size x m F (fun _ => []) ∧ Bel w w' := by
  have hmm := @run_makeMap Try.prog
  have hb0 : Bel w (w.alloc (.map #[] 0)) := (Bel.refl w).alloc _
  have hm0 : MapB (w.alloc (.map #[] 0)) b1 (kvEs (intKV .i64 (rangeKV fs ns m)) 0) m := h.bel hb0
  have hr1 := run_range_map (P := Try.prog) (w.alloc (.map #[] 0)) 76 3 78 b1 (kvEs (intKV .i64 (rangeKV fs ns m)) 0).toArray m tyMap1 hm0
  have hl := rangeKV_length fs ns m
  have HN := Lib.hid (fun (i : Nat) (hi : i < m) (W : World) => bnew0 (fs i) (ns i) W (by have := hr i hi; omega) (by have := hr i hi; omega) (by have := hr i hi; omega) (by have := hr i hi; omega))
  have HRI := Lib.hid hr; clear hr
  have HS : Hid (NewI w ((w.alloc (.map #[] 0)).alloc (.mapIter (some b1) m #[] m)) b1 w.heap.size (w.heap.size + 1) m fs ns (fun _ => ⟨0, 0, 0, 0, 0⟩) #[]) := Lib.hid
    ⟨⟨by rw [hl]; exact hm0.alloc _, by rw [hl]; have := heap_alloc_new (w.alloc (.map #[] 0)) (.mapIter (some b1) m #[] m); rwa [World.size_alloc] at this⟩, (MapB.new w).alloc _, by simp, by simp, by simp, by simp, by simp, hb0.alloc _, h.lt, Nat.le_refl _, by omega⟩
  clear h hm0 hb0 hl
  go_enter Try.func24, Try.ntmps24
  go_wp2_with fail
  generalize w.heap.size + 1 = r at HS ⊢
  generalize (w.alloc (.map #[] 0)).alloc (.mapIter (some b1) m #[] m) = w2 at HS ⊢
  generalize hbm : w.heap.size = bm at HS ⊢
  have HBM := Lib.hid hbm
  clear hr1 hmm hbm
  go_loopw [4, 5] (fun _ _ wr => ∃ seen F, NewI w wr b1 bm r m fs ns F seen) (fun _ _ wr => wr.rangeLeft b1 r)
  case atStart => exact ⟨_, _, HS.out⟩
  case round =>
    obtain ⟨seen, F, hT⟩ := hrel
    have HT := Lib.hid hT; clear hT HS
    go_wp2_with (at_next; refine wpList_nextKV rfl _ rfl rfl HT.out.rg ?_ ?_)
    · intro hall
      have HD := Lib.hid (HT.out.done (fun k hk => by simpa using hall k hk) HRI.out hm)
      have HB := Lib.hid HT.out.bel
      clear hall
      go_wp2
      go_ret
      exact ⟨_, F, rfl, HD.out.2, HD.out.1, HB.out.alloc _⟩
    · intro k ea eb w3 hk hks hr3 hg3 hs3 hlt3 hen
      obtain ⟨hkm, he⟩ := rangeKV_at hk
      obtain ⟨rfl, rfl⟩ := Prod.mk.inj he
      have hks' : seen.contains k = false := by simpa using hks
      have HG := Lib.hid (And.intro hr3 (And.intro hg3 (And.intro hks' hlt3)))
      clear he hk hks hks' hr3 hg3 hs3 hlt3
      obtain ⟨b0, b1', b2, b3⟩ := HRI.out k hkm
      unfold rgE at hen ⊢
      have HK := Lib.hid (HN.out k hkm)
      have i1 : IntKind.i64.wrap (fs k) = fs k := IntWalk.i64_in _ (by omega)
      have i2 : IntKind.i64.wrap (fs k + (ns k : Int) - 1) = fs k + (ns k : Int) - 1 := IntWalk.i64_in _ (by omega)
      have i3 : IntKind.i32.wrap ((k : Int) + 1) = (k : Int) + 1 := IntWalk.i32_in _ (by omega)
      generalize hf : fs k = f at *
      generalize hl : f + (ns k : Int) - 1 = l at *
      generalize hkk : (k : Int) + 1 = kk at *
      have HX := Lib.hid (And.intro hf (And.intro hl hkk))
      clear hf hl hkk
      go_wp2_with fail
      refine (HK.out _).mono ?_
      rintro e w5 ⟨g, gs, gb, rfl, hB, hb5⟩
      have hb4 : Bel w3 (w3.alloc (.cells #[.int .u32 f, .int .u32 l] 78)) := (Bel.refl w3).alloc _
      have HM5 := Lib.hid (HT.out.mid hkm HG.out.2.2.1 HG.out.2.1 (Bel.trans hb4 hb5))
      have HST := Lib.hid (fun W6 h6 h7 => HT.out.step (W6 := W6) hkm HG.out.2.2.1 HG.out.1 HG.out.2.1 hb4 (by rw [HX.out.1]; exact hB) hb5 h6 h7)
      rw [HX.out.2.2] at HM5 HST
      have hlt := HG.out.2.2.2
      clear hB hb5 hb4 hen
      go_wp2_with (at_mapUpdate; refine wpList_putNew rfl _ _ _ rfl tyMap HM5.out.1 rfl rfl rfl (run_checkInt tyI32 _) HM5.out.2 ?_)
      intro w6 hm6 hg6
      have HN6 := Lib.hid (HST.out w6 hm6 hg6)
      clear hm6 hg6 HM5
      go_wp2
      go_roundw
      case rel => exact ⟨_, _, HN6.out.1⟩
      case measure => rw [HN6.out.2]; exact hlt
end Go.Proofs.Ytangceejmjklcaa
