/- The methods of a map of lines: clear. -/
import Derived.Test.YtangceejmjklcaaLn3
namespace Go.Proofs.Ytangceejmjklcaa
open Go.RowKit Go.BigFrame

theorem perm_at {p : List Nat} {m k i : Nat} (hp : p.Perm (List.range m)) (hk : p[k]? = some i) : i < m := List.mem_range.1 (hp.mem_iff.1 (List.mem_of_getElem? hk))
theorem mapL_at {F : Nat → FileS} {p : List Nat} {k : Nat} {e : Value × Value} (h : (intKV .i32 (mapL F p))[k]? = some e) : ∃ i, p[k]? = some i ∧ e = (.int .i32 ((i : Int) + 1), mptr (F i).gb) := by
  obtain ⟨e', h1, rfl⟩ := intKV_at h
  unfold mapL at h1
  rw [List.getElem?_map] at h1
  obtain ⟨i, h2, rfl⟩ := Option.map_eq_some_iff.1 h1
  exact ⟨i, h2, rfl⟩
theorem mapKV_length {F : Nat → FileS} {p : List Nat} : (intKV .i32 (mapL F p)).length = p.length := by rw [intKV_length, mapL_length]

/-- What clear's loop keeps. -/
structure ClrW (w W : World) (B x m : Nat) (F : Nat → FileS) (d : Nat → List Pl.Ent) (bm r : Nat) (p : List Nat) (seen : Array Nat) : Prop where
  rg : KRange W bm r (intKV .i32 (mapL F p)) seen
  ln : ∃ dd vd, LnM W B x m F dd vd bm p ∧ ∀ k i, p[k]? = some i → seen.contains k = true → dd i = []
  kt : KT lnT B w W
theorem ClrW.start {w : World} {B x m : Nat} {F : Nat → FileS} {d : Nat → List Pl.Ent} {vd : Nat → Value} {bm : Nat} {p : List Nat} (h : LnM w B x m F d vd bm p) :
    ClrW w (w.alloc (.mapIter (some bm) m #[] m)) B x m F d bm w.heap.size p #[] := by
  have hl : (intKV .i32 (mapL F p)).length = m := by rw [mapKV_length, h.plen]
  have hb : Bel w (w.alloc (.mapIter (some bm) m #[] m)) := (Bel.refl w).alloc _
  exact ⟨⟨by rw [hl]; exact h.hm.bel hb, by rw [hl]; exact heap_alloc_new w _⟩, ⟨d, vd, h.bel hb, fun k i _ hs => by simp at hs⟩, KT.of_bel hb⟩
theorem KT.iter {T : List TypeId} {B r : Nat} {w W W' : World} (h : KT T B w W) (hg : W.grownBy W' (some r)) (hr : w.heap.size ≤ r) : KT T B w W' :=
  ⟨hg.os.trans h.os, hg.tape.trans h.tape, hg.output.trans h.output, Nat.le_trans h.size hg.size, fun b o hb hs => by
    have h1 := h.block b o hb hs
    have := lt_of_block hb
    exact (hg.block b (lt_of_block h1) (fun e => by injection e with e; omega)).trans h1⟩
theorem Kept.iter {r : Nat} {W W' : World} (hg : W.grownBy W' (some r)) : Kept [r] W W' :=
  ⟨hg.os, hg.tape, hg.output, hg.size, fun k hk hr => hg.block k hk (fun e => hr (by injection e with e; simp [e]))⟩
theorem LnM.iter {w w' : World} {B x m : Nat} {F : Nat → FileS} {d : Nat → List Pl.Ent} {vd : Nat → Value} {bm : Nat} {p : List Nat} (h : LnM w B x m F d vd bm p) {b r : Nat} {L : List (Value × Value)} {seen : Array Nat} (hr : KRange w b r L seen) (hg : w.grownBy w' (some r)) : LnM w' B x m F d vd bm p := by
  have hk := Kept.iter hg
  have hne : ∀ g t cs, Blk w g t cs → g ∉ [r] := fun g t cs hb => by
    simp
    rintro rfl
    have := hr.it
    unfold Blk at hb
    rw [hb] at this
    cases this
  obtain ⟨⟨li, lm, h1, h2⟩, hm, hp, hbb, hd, hB, hn, hmm⟩ := h
  refine ⟨⟨li, lm, h1.kept hk (hne _ _ _ h1), h2⟩, hm.kept hk ?_, hp, fun i hi => ?_, hd, hB, hn, hmm⟩
  · simp
    rintro rfl
    have := hr.it
    unfold MapB at hm
    rw [hm] at this
    cases this
  · obtain ⟨sp, hs⟩ := hbb i hi
    refine ⟨sp, hs.kept hk (hne _ _ _ hs.hb) (fun b hb => ?_)⟩
    obtain ⟨_, cs, t, mm, h2, _⟩ := foot_types hs.hm b hb
    simp
    rintro rfl
    have := hr.it
    rw [h2] at this
    cases this
theorem ClrW.step {w W W1 : World} {B x m : Nat} {F : Nat → FileS} {d : Nat → List Pl.Ent} {bm r : Nat} {p : List Nat} {seen : Array Nat} (h : ClrW w W B x m F d bm r p seen) (hr : w.heap.size ≤ r) {k i : Nat} (hki : p[k]? = some i)
    (hrg : KRange W1 bm r (intKV .i32 (mapL F p)) (seen.push k)) (hg : W.grownBy W1 (some r)) :
    ∃ dd vd, LnM W1 B x m F dd vd bm p ∧ i < m ∧ (∀ W2, BiaTo W1 W2 B (F i).n (F i).g (F i).gs (F i).gb (F i).f (vd i) [] → ClrW w W2 B x m F d bm r p (seen.push k) ∧ W2.rangeLeft bm r = W1.rangeLeft bm r) := by
  obtain ⟨dd, vd, hM, hc⟩ := h.ln
  have hM1 := hM.iter h.rg hg
  have hi : i < m := perm_at hM.hp hki
  refine ⟨dd, vd, hM1, hi, fun _ ht => ?_⟩
  obtain ⟨⟨vd', hM2⟩, hkt⟩ := hM1.upd hi ht
  refine ⟨⟨hrg.kt hkt, ⟨_, vd', hM2, fun j l hj hs => ?_⟩, (h.kt.iter hg hr).trans hkt⟩, hrg.left_kt hkt⟩
  by_cases e : l = i
  · subst e; exact upd_same _ _ _
  · rw [upd_ne _ e]
    refine hc j l hj ?_
    rw [contains_push] at hs
    have hjk : j ≠ k := fun he => by subst he; rw [hki] at hj; cases hj; exact e rfl
    simpa [hjk] using hs
theorem ClrW.done {w W : World} {B x m : Nat} {F : Nat → FileS} {d : Nat → List Pl.Ent} {bm r : Nat} {p : List Nat} {seen : Array Nat} (h : ClrW w W B x m F d bm r p seen) (hall : ∀ k, k < (intKV .i32 (mapL F p)).length → seen.contains k = true) :
    ∃ vd, LnM W B x m F (fun _ => []) vd bm p ∧ KT lnT B w W := by
  obtain ⟨dd, vd, hM, hc⟩ := h.ln
  refine ⟨vd, hM.congr (fun i hi => ?_), h.kt⟩
  obtain ⟨k, hk, hki⟩ := List.getElem_of_mem (hM.mem.2 hi)
  exact hc k i (by rw [List.getElem?_eq_getElem hk, hki]) (hall k (by rw [mapKV_length]; exact hk))

set_option maxRecDepth 100000 in
set_option maxHeartbeats 4000000 in
theorem lclear0 {w : World} {B x m : Nat} {F : Nat → FileS} {d : Nat → List Pl.Ent} (h : LnW w B x m F d) :
    Calls Try.prog 40 #[mptr x] w fun e w' => (∃ u, e = .returned u) ∧ LnW w' B x m F (fun _ => []) ∧ KT lnT B w w' := by
  obtain ⟨vd, bm, p, hM⟩ := h
  obtain ⟨li, lm, hx, _⟩ := hM.hx
  have c0 : w.cell? ⟨x, 0, none⟩ = some (.map (some bm)) := hx.cell 0
  have hr1 := run_range_map (P := Try.prog) w 88 21 89 bm (kvEs (intKV .i32 (mapL F p)) 0).toArray m tyMap hM.hm
  have HS := Lib.hid (ClrW.start hM)
  clear hM hx
  go_enter Try.func40, Try.ntmps40
  go_wp2_with fail
  generalize hr : w.heap.size = r at HS ⊢
  generalize w.alloc (.mapIter (some bm) m #[] m) = w2 at HS ⊢
  have HR := Lib.hid hr
  clear hr hr1 c0
  go_loopw [9] (fun _ wr => ∃ seen, ClrW w wr B x m F d bm r p seen) (fun _ wr => wr.rangeLeft bm r)
  case atStart => exact ⟨_, HS.out⟩
  case round =>
    obtain ⟨seen, hT⟩ := hrel
    have HT := Lib.hid hT; clear hT HS
    go_wp2_with (at_next; refine wpList_nextKV rfl _ rfl rfl HT.out.rg ?_ ?_)
    · intro hall
      obtain ⟨vd', hM', hkt'⟩ := HT.out.done (fun k hk => by simpa using hall k hk)
      have hM'' := Lib.hid hM'
      obtain ⟨li', lm', hx', _⟩ := hM'.hx
      have e0 := hx'.frozen 1
      have e1 := hx'.frozen 2
      have d1 : wr.cell? ⟨x, 1, none⟩ = some (.int .i32 li') := hx'.cell 1
      have d2 : wr.cell? ⟨x, 2, none⟩ = some lm' := hx'.cell 2
      have HW := Lib.hid (hM'.cache (w' := (wr.setCell ⟨x, 1, none⟩ (.int .i32 (-1))).setCell ⟨x, 2, none⟩ (.pointer none)) (((Kept.refl _ wr).setCell (p := ⟨x, 1, none⟩) (.inl (by simp)) _).setCell (p := ⟨x, 2, none⟩) (.inl (by simp)) _) ((hx'.set 1 _).set 2 _) (.inl ⟨rfl, rfl⟩))
      have HK := Lib.hid hkt'
      clear hall hM' hx' hkt'
      go_wp2
      go_end0
      exact ⟨⟨_, rfl⟩, ⟨vd', bm, p, HW.out.1⟩, HK.out.trans HW.out.2⟩
    · intro k ea eb w3 hk hks hr3 hg3 hs3 hlt3 hen
      obtain ⟨i, hki, he⟩ := mapL_at hk
      obtain ⟨rfl, rfl⟩ := Prod.mk.inj he
      clear he
      obtain ⟨dd, vdd, hM3, hi, hstep⟩ := HT.out.step (by rw [HR.out]; exact Nat.le_refl _) hki hr3 hg3
      obtain ⟨sp, hbi⟩ := hM3.hb i hi
      have HBI := Lib.hid (bclear0 hbi)
      have HST := Lib.hid hstep
      clear hM3 hstep hbi hr3 hg3 hs3 hk hks hki
      go_wp2_with (go_at_call 49; refine HBI.out.mono ?_; rintro e w4 ⟨⟨u, rfl⟩, hs⟩)
      obtain ⟨hC4, hl4⟩ := HST.out w4 hs
      go_roundw
      case rel => exact ⟨_, hC4⟩
      case measure => rw [hl4]; exact hlt3
theorem lClear_any {w : World} {B x m : Nat} {F : Nat → FileS} {d : Nat → List Pl.Ent} (h : LnW w B x m F d) :
    Calls Try.prog 30 #[mptr x] w fun e w' => (∃ u, e = .returned u) ∧ LnW w' B x m F (fun _ => []) ∧ KT lnT B w w' := by
  have H := Lib.hid (lclear0 h); clear h
  go_enter Try.func30, Try.ntmps30
  go_wp2_with fail
  refine H.out.mono ?_
  rintro e w2 ⟨⟨u, rfl⟩, hs, hkt⟩
  go_wp2
  go_end0
  exact ⟨⟨_, rfl⟩, hs, hkt⟩
end Go.Proofs.Ytangceejmjklcaa
