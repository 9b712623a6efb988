/- A map of lines in memory: the map from file indices to biased maps, the cache; mapFor. -/
import Derived.Test.YtangceejmjklcaaLBia
import Derived.Test.YtangceejmjklcaaLn1
namespace Go.Proofs.Ytangceejmjklcaa
open Go.RowKit Go.BigFrame

/-- The map of one file: n lines from f on; its blocks. -/
structure FileS where
  n : Nat
  f : Int
  g : Nat
  gs : Nat
  gb : Nat
/-- The types of the blocks that a map of lines writes. -/
def lnT : List TypeId := [117, 21, 112, 92]
def mapL (F : Nat → FileS) (p : List Nat) : List (Int × Value) := p.map fun i : Nat => ((i : Int) + 1, mptr (F i).gb)
theorem mapL_length (F : Nat → FileS) (p : List Nat) : (mapL F p).length = p.length := by simp [mapL]
theorem mapL_nodup {F : Nat → FileS} {p : List Nat} (h : p.Nodup) : ((mapL F p).map (·.1)).Nodup := by
  have e : (mapL F p).map (·.1) = p.map fun i : Nat => ((i : Int) + 1) := by unfold mapL; rw [List.map_map]; rfl
  rw [e]
  exact List.Pairwise.map _ (fun a b hab he => hab (by omega)) h

structure LnM (w : World) (B x m : Nat) (F : Nat → FileS) (d : Nat → List Pl.Ent) (vd : Nat → Value) (bm : Nat) (p : List Nat) : Prop where
  hx : ∃ li lm, Blk w x 92 [.map (some bm), .int .i32 li, lm] ∧ ((li = -1 ∧ lm = .pointer none) ∨ ∃ i, i < m ∧ li = (i : Int) + 1 ∧ lm = mptr (F i).gb)
  hm : MapB w bm (kvEs (intKV .i32 (mapL F p)) 0) m
  hp : p.Perm (List.range m)
  hb : ∀ i, i < m → ∃ sp, BiaW w B (F i).n (F i).g (F i).gs (F i).gb (F i).f (vd i) (d i) sp
  hd : ∀ i j, i < m → j < m → i ≠ j → ∀ b ∈ mfoot (F i).g (F i).gs (vd i), b ∉ mfoot (F j).g (F j).gs (vd j)
  hB : B ≤ x
  hn : ∀ i, i < m → (F i).n ≤ 1000000 ∧ 0 ≤ (F i).f ∧ (F i).f ≤ 1073741824
  hmm : m ≤ 1000000
def LnW (w : World) (B x m : Nat) (F : Nat → FileS) (d : Nat → List Pl.Ent) : Prop := ∃ vd bm p, LnM w B x m F d vd bm p

theorem LnM.nodup {w : World} {B x m : Nat} {F : Nat → FileS} {d : Nat → List Pl.Ent} {vd : Nat → Value} {bm : Nat} {p : List Nat} (h : LnM w B x m F d vd bm p) : p.Nodup := (h.hp.nodup_iff).2 List.nodup_range
theorem LnM.plen {w : World} {B x m : Nat} {F : Nat → FileS} {d : Nat → List Pl.Ent} {vd : Nat → Value} {bm : Nat} {p : List Nat} (h : LnM w B x m F d vd bm p) : p.length = m := by rw [h.hp.length_eq, List.length_range]
theorem LnM.mem {w : World} {B x m : Nat} {F : Nat → FileS} {d : Nat → List Pl.Ent} {vd : Nat → Value} {bm : Nat} {p : List Nat} (h : LnM w B x m F d vd bm p) {i : Nat} : i ∈ p ↔ i < m := by rw [h.hp.mem_iff, List.mem_range]
theorem LnM.bel {w w' : World} {B x m : Nat} {F : Nat → FileS} {d : Nat → List Pl.Ent} {vd : Nat → Value} {bm : Nat} {p : List Nat} (h : LnM w B x m F d vd bm p) (hb : Bel w w') : LnM w' B x m F d vd bm p := by
  obtain ⟨⟨li, lm, h1, h2⟩, hm, hp, hbb, hd, hB, hn, hmm⟩ := h
  exact ⟨⟨li, lm, h1.bel hb, h2⟩, hm.bel hb, hp, fun i hi => by obtain ⟨sp, hs⟩ := hbb i hi; exact ⟨sp, hs.bel hb⟩, hd, hB, hn, hmm⟩
theorem LnW.bel {w w' : World} {B x m : Nat} {F : Nat → FileS} {d : Nat → List Pl.Ent} (h : LnW w B x m F d) (hb : Bel w w') : LnW w' B x m F d := by
  obtain ⟨vd, bm, p, h⟩ := h
  exact ⟨vd, bm, p, h.bel hb⟩
/-- The blocks of a map of lines bear the types lnT, or are not written. -/
theorem foot_types {w : World} {base n g gs : Nat} {vd : Value} {d : List Pl.Ent} {sp : List Int} (h : MapW w base n g gs vd d sp) : ∀ k ∈ mfoot g gs vd, base ≤ k ∧ ∃ cs t m, w.heap[k]? = some (.cells cs t m) ∧ t ∈ [117, 21, 112] := by
  intro k hk
  have hge := (h.foot_ge k hk).1
  unfold mfoot at hk
  rcases List.mem_cons.1 hk with rfl | hk
  · exact ⟨hge, _, _, _, h.hg, by simp⟩
  · rcases List.mem_cons.1 hk with rfl | hk
    · exact ⟨hge, _, _, _, h.hs, by simp⟩
    · have hv : vd.ownBlock = some k := by cases hv : vd.ownBlock <;> rw [hv] at hk <;> simp at hk; rw [hk]
      rcases h.hd.2 with ⟨rfl, _⟩ | ⟨g', cap, cur, rfl, _, hh, _⟩
      · simp [Value.ownBlock] at hv
      · have : g' = k := by simpa [Value.ownBlock] using hv
        subst this
        exact ⟨hge, _, _, _, hh, by simp⟩
theorem BiaW.kept {S : List Nat} {w w' : World} {base n g gs gb : Nat} {f : Int} {vd : Value} {d : List Pl.Ent} {sp : List Int} (h : BiaW w base n g gs gb f vd d sp) (hk : Kept S w w') (h1 : gb ∉ S) (h2 : ∀ b ∈ mfoot g gs vd, b ∉ S) : BiaW w' base n g gs gb f vd d sp :=
  ⟨h.hb.kept hk h1, ⟨h.hm.hg.kept hk (h2 g (by simp [mfoot])), h.hm.hs.kept hk (h2 gs (by simp [mfoot])), own_kept h.hm.hd hk (fun k hk' => h2 k (by simp [mfoot, hk'])), h.hm.hi, h.hm.hz, h.hm.hb⟩, h.hg⟩

/-- The entry d of file i is another one. -/
def upd {α : Type} (d : Nat → α) (i : Nat) (y : α) : Nat → α := fun j => if j = i then y else d j
theorem upd_same {α : Type} (d : Nat → α) (i : Nat) (y : α) : upd d i y i = y := by simp [upd]
theorem upd_ne {α : Type} (d : Nat → α) {i j : Nat} (h : j ≠ i) (y : α) : upd d i y j = d j := by simp [upd, h]

theorem LnM.upd {w w' : World} {B x m : Nat} {F : Nat → FileS} {d : Nat → List Pl.Ent} {vd : Nat → Value} {bm : Nat} {p : List Nat} (h : LnM w B x m F d vd bm p) {i : Nat} (hi : i < m) {d' : List Pl.Ent} (ht : BiaTo w w' B (F i).n (F i).g (F i).gs (F i).gb (F i).f (vd i) d') :
    (∃ vd', LnM w' B x m F (upd d i d') vd' bm p) ∧ KT lnT B w w' := by
  obtain ⟨vd', sp', hw', hk, hown⟩ := ht
  obtain ⟨spi, hbi⟩ := h.hb i hi
  have hft := foot_types hbi.hm
  have hkt : KT lnT B w w' := KT.of_kept hk (fun k hk' => by
    obtain ⟨h1, cs, t, mm, h2, h3⟩ := hft k hk'
    exact .inr ⟨h1, cs, t, mm, h2, by simp only [lnT, List.mem_cons, List.not_mem_nil, or_false] at h3 ⊢; rcases h3 with h | h | h <;> simp [h]⟩)
  refine ⟨⟨fun j => if j = i then vd' else vd j, ?_⟩, hkt⟩
  obtain ⟨⟨li, lm, hx1, hx2⟩, hm, hp, hbb, hd, hB, hn, hmm⟩ := h
  have hxn : x ∉ mfoot (F i).g (F i).gs (vd i) := fun hmem => by
    obtain ⟨_, cs, t, mm, h2, h3⟩ := hft x hmem
    unfold Blk at hx1
    rw [hx1] at h2
    cases h2
    revert h3
    decide
  refine ⟨⟨li, lm, hx1.kept hk hxn, hx2⟩, hm.kt hkt, hp, fun j hj => ?_, fun j l hj hl hne b hb => ?_, hB, hn, hmm⟩
  · by_cases e : j = i
    · subst e
      exact ⟨sp', by simpa [Go.Proofs.Ytangceejmjklcaa.upd] using hw'⟩
    · obtain ⟨spj, hbj⟩ := hbb j hj
      refine ⟨spj, ?_⟩
      simp only [Go.Proofs.Ytangceejmjklcaa.upd, e, if_false]
      refine hbj.kept hk (fun hmem => ?_) (fun b hb => hd j i hj hi e b hb)
      obtain ⟨_, cs, t, mm, h2, h3⟩ := hft _ hmem
      have := hbj.hb
      unfold Blk at this
      rw [this] at h2
      cases h2
      revert h3
      decide
  · have hlt : ∀ j, j < m → ∀ b ∈ mfoot (F j).g (F j).gs (vd j), b < w.heap.size := fun j hj b hb => by obtain ⟨spj, hbj⟩ := hbb j hj; exact (hbj.hm.foot_ge b hb).2
    have hnew : ∀ b ∈ mfoot (F i).g (F i).gs vd', b ∈ mfoot (F i).g (F i).gs (vd i) ∨ w.heap.size ≤ b := fun b hb => by
      simp only [mfoot, List.mem_cons, Option.mem_toList] at hb ⊢
      rcases hb with h | h | h
      · exact .inl (.inl h)
      · exact .inl (.inr (.inl h))
      · exact (hown b h).imp (fun h => .inr (.inr h)) id
    by_cases e1 : j = i
    · subst e1
      simp only [if_true] at hb
      rw [if_neg (Ne.symm hne)]
      rcases hnew b hb with h | h
      · exact hd _ l hj hl hne b h
      · intro hb2
        have := hlt l hl b hb2
        omega
    · simp only [e1, if_false] at hb
      by_cases e2 : l = i
      · subst e2
        simp only [if_true]
        intro hb2
        rcases hnew b hb2 with h | h
        · exact hd j _ hj hl hne b hb h
        · have := hlt j hj b hb
          omega
      · simp only [e2, if_false]
        exact hd j l hj hl hne b hb
theorem LnM.congr {w : World} {B x m : Nat} {F : Nat → FileS} {d d' : Nat → List Pl.Ent} {vd : Nat → Value} {bm : Nat} {p : List Nat} (h : LnM w B x m F d vd bm p) (he : ∀ i, i < m → d i = d' i) : LnM w B x m F d' vd bm p := by
  obtain ⟨hx, hm, hp, hbb, hd, hB, hn, hmm⟩ := h
  exact ⟨hx, hm, hp, fun i hi => by rw [← he i hi]; exact hbb i hi, hd, hB, hn, hmm⟩
theorem LnW.congr {w : World} {B x m : Nat} {F : Nat → FileS} {d d' : Nat → List Pl.Ent} (h : LnW w B x m F d) (he : ∀ i, i < m → d i = d' i) : LnW w B x m F d' := by
  obtain ⟨vd, bm, p, h⟩ := h
  exact ⟨vd, bm, p, h.congr he⟩
/-- Changes to the cache alone. -/
theorem LnM.cache {w w' : World} {B x m : Nat} {F : Nat → FileS} {d : Nat → List Pl.Ent} {vd : Nat → Value} {bm : Nat} {p : List Nat} (h : LnM w B x m F d vd bm p) (hk : Kept [x] w w') {li : Int} {lm : Value}
    (hx : Blk w' x 92 [.map (some bm), .int .i32 li, lm]) (hc : (li = -1 ∧ lm = .pointer none) ∨ ∃ i, i < m ∧ li = (i : Int) + 1 ∧ lm = mptr (F i).gb) : LnM w' B x m F d vd bm p ∧ KT lnT B w w' := by
  obtain ⟨⟨li0, lm0, hx1, hx2⟩, hm, hp, hbb, hd, hB, hn, hmm⟩ := h
  have hkt : KT lnT B w w' := KT.of_kept hk (fun k hk' => by
    simp at hk'
    subst hk'
    exact .inr ⟨hB, _, _, _, hx1, by decide⟩)
  refine ⟨⟨⟨li, lm, hx, hc⟩, hm.kt hkt, hp, fun i hi => ?_, hd, hB, hn, hmm⟩, hkt⟩
  obtain ⟨sp, hs⟩ := hbb i hi
  refine ⟨sp, hs.kept hk (by simpa using hs.hb.ne hx1 (by decide)) (fun b hb => ?_)⟩
  obtain ⟨_, cs, t, mm, h2, h3⟩ := foot_types hs.hm b hb
  simp
  rintro rfl
  unfold Blk at hx1
  rw [hx1] at h2
  cases h2
  revert h3
  decide

theorem tyMap : Try.prog.underlying 88 = some (.map 21 89) := Try.underlying88
theorem tyI32 : Try.prog.underlying 21 = some (.int .i32) := Try.underlying21
theorem zeroPtr (w : World) : (zeroValue 89).run Try.prog w = .ok (.pointer none) w := by kernel_rfl
theorem LnM.look {w : World} {B x m : Nat} {F : Nat → FileS} {d : Nat → List Pl.Ent} {vd : Nat → Value} {bm : Nat} {p : List Nat} (h : LnM w B x m F d vd bm p) {i : Nat} (hi : i < m) :
    (Instr.lookup 88 (.map (some bm)) (.int .i32 ((i : Int) + 1)) false).run Try.prog w = .ok (mptr (F i).gb) w := by
  obtain ⟨k, hk, hki⟩ := List.getElem_of_mem (h.mem.2 hi)
  have h1 : (mapL F p)[k]? = some ((i : Int) + 1, mptr (F i).gb) := by unfold mapL; rw [List.getElem?_map, List.getElem?_eq_getElem hk, hki]; rfl
  have := run_look1 tyMap h.hm (run_checkInt tyI32 (.int .i32 ((i : Int) + 1))) (run_findInt_at (w := w) tyI32 (mapL_nodup h.nodup) h1) (zeroPtr w)
  exact this

set_option maxHeartbeats 1000000 in
theorem mapFor_ln {w : World} {B x m : Nat} {F : Nat → FileS} {d : Nat → List Pl.Ent} {vd : Nat → Value} {bm : Nat} {p : List Nat} (h : LnM w B x m F d vd bm p) {i : Nat} (hi : i < m) :
    Calls Try.prog 43 #[mptr x, .int .i32 ((i : Int) + 1)] w fun e w' => e = .returned (mptr (F i).gb) ∧ LnM w' B x m F d vd bm p ∧ KT lnT B w w' := by
  have hlk := h.look hi
  obtain ⟨li, lm, hx, hc⟩ := h.hx
  have c0 : w.cell? ⟨x, 0, none⟩ = some (.map (some bm)) := hx.cell 0
  have c1 : w.cell? ⟨x, 1, none⟩ = some (.int .i32 li) := hx.cell 1
  have c2 : w.cell? ⟨x, 2, none⟩ = some lm := hx.cell 2
  by_cases he : li = (i : Int) + 1
  · have hlm : lm = mptr (F i).gb := by
      rcases hc with ⟨h1, _⟩ | ⟨j, hj, h1, h2⟩
      · omega
      · have : j = i := by omega
        rw [← this]; exact h2
    subst hlm
    subst he
    have H := Lib.hid h
    clear hlk hc h hx
    generalize (F i).gb = gb at *
    generalize hk : (i : Int) + 1 = k at *
    clear hk
    go_enter Try.func43, Try.ntmps43
    go_wp2
    go_ret
    exact ⟨rfl, H.out, KT.refl _ _ _⟩
  · have hne : (((i : Int) + 1) == li) = false := by simpa using fun e => he e.symm
    have f1 := hx.frozen 1
    have f2 := hx.frozen 2
    have HW := Lib.hid (h.cache (w' := (w.setCell ⟨x, 1, none⟩ (.int .i32 ((i : Int) + 1))).setCell ⟨x, 2, none⟩ (mptr (F i).gb)) (((Kept.refl _ w).setCell (p := ⟨x, 1, none⟩) (.inl (by simp)) _).setCell (p := ⟨x, 2, none⟩) (.inl (by simp)) _) ((hx.set 1 _).set 2 _) (.inr ⟨i, hi, rfl, rfl⟩))
    clear hc h hx he
    generalize hgb : (F i).gb = gb at *
    generalize hk : (i : Int) + 1 = k at *
    clear hk hgb
    go_enter Try.func43, Try.ntmps43
    go_wp2
    go_ret
    exact ⟨rfl, HW.out⟩
end Go.Proofs.Ytangceejmjklcaa
