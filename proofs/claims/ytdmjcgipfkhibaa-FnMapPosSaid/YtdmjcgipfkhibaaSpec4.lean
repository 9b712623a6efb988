/- The walks of the reference's Sorted, Rules.value, Rules.all. -/
import Derived.Test.YtdmjcgipfkhibaaSpec3
namespace Go.Proofs.Ytdmjcgipfkhibaa
open Go.RowKit

theorem put_ents (v : Value) (l : List Pl.Ent) (k x : Int) (w : World) (h : EntS w v l) (hn : l.length ≤ 1000000) :
    Calls Try.prog 20 #[v, .int .i64 k, .int .i64 x] w fun e w' => ∃ u, e = .returned u ∧ EntS w' u (Pl.put l k x) ∧ Bel w w' := by
  obtain ⟨a, c, rfl, hlc, hc, hE⟩ := h
  exact (put_any a l.length c l k x w hE hn hlc hc).mono fun e w' ⟨u, h1, h2, h3⟩ => ⟨u, h1, ents_own h2, h3⟩
theorem place_ents (v : Value) (l : List Pl.Ent) (k : Int) (w : World) (h : EntS w v l) (hn : l.length ≤ 1000000) :
    Calls Try.prog 38 #[v, .int .i64 k] w fun e w' => e = .returned (.tuple #[.int .i64 (Pl.place l k), .bool (Pl.there l k)]) ∧ Bel w w' := by
  obtain ⟨a, c, rfl, hlc, hc, hE⟩ := h
  exact place_any a l.length c l k w hE hn

/-- Blocks that were made one behind the other. -/
theorem blk1 {w w1 : World} {t : TypeId} {cs : List Value} (hb : Bel (w.alloc (.cells cs.toArray t)) w1) : Blk w1 w.heap.size t cs ∧ Bel w w1 := ⟨(Blk.new w t cs).bel hb, ((Bel.refl w).alloc _).trans hb⟩
theorem blk2 {w w1 : World} {t u : TypeId} {cs ds : List Value} (hb : Bel ((w.alloc (.cells cs.toArray t)).alloc (.cells ds.toArray u)) w1) : Blk w1 w.heap.size t cs ∧ Blk w1 (w.heap.size + 1) u ds ∧ Bel w w1 := by
  obtain ⟨h1, h2⟩ := blk1 hb
  rw [World.size_alloc] at h1
  exact ⟨(blk1 h2).1, h1, (blk1 h2).2⟩
theorem blk3 {w w1 : World} {t u v : TypeId} {cs ds es : List Value} (hb : Bel (((w.alloc (.cells cs.toArray t)).alloc (.cells ds.toArray u)).alloc (.cells es.toArray v)) w1) : Blk w1 w.heap.size t cs ∧ Blk w1 (w.heap.size + 1) u ds ∧ Blk w1 (w.heap.size + 1 + 1) v es ∧ Bel w w1 := by
  obtain ⟨h1, h2⟩ := blk1 hb
  rw [World.size_alloc, World.size_alloc] at h1
  obtain ⟨a, b, c⟩ := blk2 h2
  exact ⟨a, b, h1, c⟩
theorem blk4 {w w1 : World} {t u v x : TypeId} {cs ds es fs : List Value} (hb : Bel ((((w.alloc (.cells cs.toArray t)).alloc (.cells ds.toArray u)).alloc (.cells es.toArray v)).alloc (.cells fs.toArray x)) w1) : Blk w1 w.heap.size t cs ∧ Blk w1 (w.heap.size + 1) u ds ∧ Blk w1 (w.heap.size + 1 + 1) v es ∧ Blk w1 (w.heap.size + 1 + 1 + 1) x fs ∧ Bel w w1 := by
  obtain ⟨h1, h2⟩ := blk1 hb
  rw [World.size_alloc, World.size_alloc, World.size_alloc] at h1
  obtain ⟨a, b, c, d⟩ := blk3 h2
  exact ⟨a, b, c, h1, d⟩

/-- What Sorted leaves. -/
def SortedPost (w : World) (o : Option (List Pl.Ent)) (e : Ending) (w' : World) : Prop := ∃ u, e = .returned (.tuple #[u, .bool o.isSome]) ∧ EntS w' u (o.getD []) ∧ Bel w w'

def SortedHead (ks vs : List Int) (j : Nat) (wr : World) (v : Value) : Prop := ∃ acc, Pl.sortedFrom [] ((ks.zip vs).take j) = some acc ∧ EntS wr v acc ∧ acc.length ≤ j

theorem sorted_step {ks vs : List Int} {j : Nat} {acc : List Pl.Ent} {k v : Int} (h : Pl.sortedFrom [] ((ks.zip vs).take j) = some acc) (hk : ks[j]? = some k) (hv : vs[j]? = some v) :
    Pl.sortedFrom [] ((ks.zip vs).take (j + 1)) = if Pl.there acc k then none else some (Pl.put acc k v) := by
  rw [Pl.zip_take_succ ks vs j k v hk hv, Pl.sortedFrom_append, h]
  simp only [Option.bind_some, Pl.sortedFrom]

set_option maxHeartbeats 400000 in
theorem sorted_any (v u : Value) (ks vs : List Int) (w : World) (h : IntS w v ks) (h' : IntS w u vs) (hn : ks.length ≤ 1000000) :
    Calls Try.prog 23 #[v, u] w (SortedPost w (Pl.sortedOf ks vs)) := by
  obtain ⟨a, c, rfl, hlc, hc, hE⟩ := h
  obtain ⟨a', c', rfl, hlc', hc', hE'⟩ := h'
  have HH := Lib.hid hE; clear hE
  have HH' := Lib.hid hE'; clear hE'
  by_cases hne : ks.length = vs.length
  · have hne1 : ((ks.length : Int) != (ks.length : Int)) = false := by simp
    rw [← hne] at hlc' ⊢
    have HL := Lib.hid hne
    have e0 : Pl.sortedOf ks vs = Pl.sortedFrom [] (ks.zip vs) := by unfold Pl.sortedOf; rw [if_pos hne]
    rw [e0]
    clear hne e0
    generalize hnn : ks.length = n at *
    have HN := Lib.hid hnn; clear hnn
    go_enter Try.func23, Try.ntmps23
    go_wp2
    go_loopw [6, 19] (fun v i wr => ∃ j : Nat, j ≤ n ∧ i = .int .i64 j ∧ SortedHead ks vs j wr v ∧ Bel w wr) (fun _ i _ => n - (intOf i).toNat)
    case atStart => exact ⟨0, Nat.zero_le _, rfl, ⟨[], rfl, EntS.empty _ _, Nat.le_refl _⟩, (Bel.refl w).alloc _⟩
    case round =>
      obtain ⟨j, hj, rfl, ⟨acc, hs, hacc, hal⟩, hbel⟩ := hrel
      have HS := Lib.hid hs; clear hs
      have HA := Lib.hid hacc; clear hacc
      by_cases hlt : j < n
      · obtain ⟨b, o, rfl, hcell⟩ := HH.out (by rw [HN.out]; omega)
        obtain ⟨b', o', rfl, hcell'⟩ := HH'.out (by rw [← HL.out]; omega)
        obtain ⟨k, hk⟩ : ∃ e, ks[j]? = some e := ⟨_, List.getElem?_eq_getElem (by rw [HN.out]; exact hlt)⟩
        obtain ⟨x, hx⟩ : ∃ f, vs[j]? = some f := ⟨_, List.getElem?_eq_getElem (by rw [← HL.out]; exact hlt)⟩
        have hc0 := hbel.cell (hcell j k hk)
        have hd0 := hcell' j x hx
        have HST := Lib.hid (sorted_step HS.out hk hx)
        clear hk hx hcell hcell'
        cases ht : Pl.there acc k
        · have HP := Lib.hid (place_ents u6 acc k wr HA.out (by omega))
          rw [ht] at HP HST
          clear ht
          go_wp2_with (first
            | (go_at_call 38; refine HP.out.mono ?_; rintro e w1 ⟨rfl, hb1⟩; have hd1 := (hbel.trans hb1).cell hd0)
            | (go_at_call 20; refine (put_ents _ acc k x _ (HA.out.bel (by assumption)) (by omega)).mono ?_; rintro e w2 ⟨u2, rfl, hE2, hb2⟩; have HE2 := Lib.hid hE2; clear hE2))
          go_roundw
          case rel => exact ⟨j + 1, by omega, by go_num, ⟨_, HST.out, HE2.out, by have := (Pl.put_length acc k x).1; omega⟩, (hbel.trans hb1).trans hb2⟩
          case measure => simp [intOf]; omega
        · have HP := Lib.hid (place_ents u6 acc k wr HA.out (by omega))
          rw [ht] at HP HST
          clear ht
          go_wp2_with (go_at_call 38; refine HP.out.mono ?_; rintro e w1 ⟨rfl, hb1⟩)
          go_ret2
          rw [Pl.sortedFrom_none_of_take _ (j + 1) _ HST.out]
          exact ⟨_, rfl, EntS.nil _, hbel.trans hb1⟩
      · go_wp2
        go_ret2
        have := HS.out
        rw [List.take_of_length_le (by rw [List.length_zip, HN.out, ← HL.out]; omega)] at this
        rw [this]
        exact ⟨_, rfl, HA.out, hbel⟩
  · have hne1 : ((ks.length : Int) != (vs.length : Int)) = true := by simp; omega
    have e1 : Pl.sortedOf ks vs = none := by unfold Pl.sortedOf; rw [if_neg hne]
    rw [e1]
    clear e1 hne HH HH'
    generalize ks.length = n at *
    generalize vs.length = n' at *
    go_enter Try.func23, Try.ntmps23
    go_wp2
    go_ret2
    exact ⟨_, rfl, EntS.nil _, Bel.refl w⟩

abbrev rulesV (r : Pl.RulesD) : Value := .agg #[.int .i64 r.first, .int .i64 r.last, .int .i64 r.cap, .bool r.values, .int .i64 r.absent, .bool r.found]
abbrev rulesCells (r : Pl.RulesD) : List Value := [.int .i64 r.first, .int .i64 r.last, .int .i64 r.cap, .bool r.values, .int .i64 r.absent, .bool r.found]

theorem value_any (r : Pl.RulesD) (x : Int) (w : World) : Calls Try.prog 46 #[rulesV r, .int .i64 x] w fun e w' => e = .returned (.int .i64 (if r.values then x else 0)) ∧ Bel w w' := by
  obtain ⟨r0, r1, r2, r3, r4, r5⟩ := r
  cases r3
  · go_enter Try.func46, Try.ntmps46
    go_wp2
    go_ret
    exact ⟨rfl, (Bel.refl w).alloc _⟩
  · go_enter Try.func46, Try.ntmps46
    go_wp2
    go_ret
    exact ⟨rfl, (Bel.refl w).alloc _⟩

/-- The value v is an answer A. -/
def AnsV (w : World) (v : Value) (A : Pl.Ans) : Prop := ∃ k x, v = .agg #[.bool A.ok, .int .i64 A.val, k, x] ∧ IntS w k A.keys ∧ IntS w x A.vals
theorem AnsV.bel {w w' : World} {v : Value} {A : Pl.Ans} (h : AnsV w v A) (hb : Bel w w') : AnsV w' v A := by
  obtain ⟨k, x, h1, h2, h3⟩ := h
  exact ⟨k, x, h1, h2.bel hb, h3.bel hb⟩
/-- The value v is a step S. -/
def StepV (w : World) (v : Value) (S : Pl.StepD) : Prop := ∃ k, v = .agg #[.int .i64 S.kind, .int .i64 S.key, .int .i64 S.val, k] ∧ IntS w k S.list
theorem StepV.bel {w w' : World} {v : Value} {A : Pl.StepD} (h : StepV w v A) (hb : Bel w w') : StepV w' v A := by
  obtain ⟨k, h1, h2⟩ := h
  exact ⟨k, h1, h2.bel hb⟩

theorem eli : ∃ i, Try.prog.info? 2 = some i ∧ i.zero = some (.int .i64 0) ∧ i.size = 1 ∧ i.bytes = 8 := info_parts (by kernel_rfl)
theorem made_zero (n : Nat) : (madeCells #[Value.int .i64 0] n).toList = (List.replicate n (0 : Int)).map (Value.int .i64) := by
  apply List.ext_getElem?
  intro i
  by_cases h : i < n <;> simp [madeCells, h, Nat.mod_one]

/-- Behind Sorted: what the last statement answers. -/
theorem allB_none {r : Pl.RulesD} {l : List Pl.Ent} {A : Pl.Ans} (h : Pl.sortedOf A.keys (Pl.allVals r A) = none) : Pl.allB r l A = false := by
  unfold Pl.allB; rw [h]; split <;> rfl
theorem allB_some {r : Pl.RulesD} {l t : List Pl.Ent} {A : Pl.Ans} (h0 : r.values = true ∨ A.vals.length = 0) (h : Pl.sortedOf A.keys (Pl.allVals r A) = some t) : Pl.allB r l A = (decide (t = l) && !A.ok && decide (A.val = 0)) := by
  unfold Pl.allB; rw [h, if_neg (by rintro ⟨h1, h2⟩; rcases h0 with h0 | h0; rw [h0] at h1; cases h1; omega)]

set_option maxHeartbeats 1000000 in
theorem all_any (r : Pl.RulesD) (lv g : Value) (l : List Pl.Ent) (A : Pl.Ans) (w : World) (hl : EntS w lv l) (hg : AnsV w g A) (hn : l.length ≤ 1000000) (hk : A.keys.length ≤ 1000000) (hv : A.vals.length ≤ 1000000) :
    Calls Try.prog 47 #[rulesV r, lv, g] w fun e w' => e = .returned (.bool (Pl.allB r l A)) ∧ Bel w w' := by
  obtain ⟨k, x, rfl, hK, hX⟩ := hg
  obtain ⟨r0, r1, r2, r3, r4, r5⟩ := r
  obtain ⟨ok, val, ks, vs⟩ := A
  simp only at hK hX hk hv ⊢
  have HL := Lib.hid hl; clear hl
  have HK := Lib.hid hK
  have HX := Lib.hid hX
  obtain ⟨ka, kc, rfl, hkc, hkm, _⟩ := hK
  obtain ⟨xa, xc, rfl, hxc, hxm, _⟩ := hX
  have HSO := Lib.hid (fun (vv : Value) (vl : List Int) (W : World) (hb : Bel w W) (h1 : IntS W vv vl) => sorted_any _ _ ks vl W (HK.out.bel hb) h1 hk)
  have HSA := Lib.hid (fun (u : Value) (t : List Pl.Ent) (W : World) (hb : Bel w W) (h1 : EntS W u t) (h2 : t.length ≤ 1000000) => same_ents _ _ t l W h1 (HL.out.bel hb) h2 hn)
  clear HL HK
  have hso : ∀ (vl : List Int) (t : List Pl.Ent), Pl.sortedOf ks vl = some t → t.length ≤ 1000000 := fun vl t ht => by
    unfold Pl.sortedOf at ht
    split at ht
    · have := Pl.sortedFrom_length _ _ _ ht
      simp only [List.length_nil, List.length_zip] at this
      omega
    · cases ht
  have HSL := Lib.hid hso; clear hso
  generalize hkn : ks.length = kn at *
  generalize hvn : vs.length = vn at *
  have HKN := Lib.hid hkn; clear hkn
  have HVN := Lib.hid hvn; clear hvn
  cases r3 with
  | true =>
    cases hsort : Pl.sortedOf ks vs with
    | none =>
      have HB := Lib.hid (allB_none (r := ⟨r0, r1, r2, true, r4, r5⟩) (l := l) (A := ⟨ok, val, ks, vs⟩) hsort)
      rw [HB.out]
      have HS := Lib.hid hsort; clear hsort
      go_enter Try.func47, Try.ntmps47
      go_wp2_with (go_at_call 23; refine (HSO.out _ vs _ (((Bel.refl w).alloc _).alloc _) (HX.out.bel (((Bel.refl w).alloc _).alloc _))).mono ?_; rw [HS.out]; rintro e w1 ⟨u, rfl, hu, hb1⟩)
      go_ret
      exact ⟨rfl, (((Bel.refl w).alloc _).alloc _).trans hb1⟩
    | some t =>
      have HB := Lib.hid (allB_some (r := ⟨r0, r1, r2, true, r4, r5⟩) (l := l) (A := ⟨ok, val, ks, vs⟩) (.inl rfl) hsort)
      rw [HB.out]
      have HS := Lib.hid hsort; clear hsort
      have htn := HSL.out vs t HS.out
      cases htl : decide (t = l) <;> cases ok
      all_goals
        have HTL := Lib.hid htl; clear htl
        go_enter Try.func47, Try.ntmps47
        go_wp2_with fail
        refine (HSO.out _ vs _ (((Bel.refl w).alloc _).alloc _) (HX.out.bel (((Bel.refl w).alloc _).alloc _))).mono ?_
        rw [HS.out]
        rintro e w1 ⟨u, rfl, hu, hb1⟩
        obtain ⟨_, hB, hb0⟩ := blk2 hb1
        have c0 := hB.cell 0
        have c1 := hB.cell 1
        simp only [List.getElem?_cons_zero, List.getElem?_cons_succ] at c0 c1
        clear hB hb1
        go_wp2_with fail
        refine (HSA.out _ t _ hb0 hu htn).mono ?_
        rw [HTL.out]
        rintro e w2 ⟨rfl, hb2⟩
        have d0 := hb2.cell c0
        have d1 := hb2.cell c1
        have hb3 := hb0.trans hb2
        clear hb2 hu c0 c1 hb0
        go_wp2
        go_ret
        exact ⟨rfl, hb3⟩
  | false =>
    by_cases hvn0 : 0 < vn
    · have e0 : Pl.allB ⟨r0, r1, r2, false, r4, r5⟩ l ⟨ok, val, ks, vs⟩ = false := by
        unfold Pl.allB; rw [if_pos ⟨rfl, by simp only [HVN.out]; exact hvn0⟩]
      rw [e0]
      clear e0
      go_enter Try.func47, Try.ntmps47
      go_wp2
      go_ret
      exact ⟨rfl, ((Bel.refl w).alloc _).alloc _⟩
    · have hvn1 : vn = 0 := by omega
      have HV0 : Hid (vs.length = 0) := Lib.hid (HVN.out.trans hvn1)
      subst hvn1
      clear hvn0
      obtain ⟨i0, hi, hz0, hz1, hz2⟩ := eli
      have HI := Lib.hid hi; clear hi
      have HZ0 := Lib.hid hz0; clear hz0
      have HZ1 := Lib.hid hz1; clear hz1
      have HZ2 := Lib.hid hz2; clear hz2
      have HSV : Hid (Pl.allVals ⟨r0, r1, r2, false, r4, r5⟩ ⟨ok, val, ks, vs⟩ = List.replicate kn 0) := Lib.hid (by rw [← HKN.out]; rfl)
      cases hsort : Pl.sortedOf ks (List.replicate kn 0) with
      | none =>
        have HB := Lib.hid (allB_none (r := ⟨r0, r1, r2, false, r4, r5⟩) (l := l) (A := ⟨ok, val, ks, vs⟩) (by rw [HSV.out]; exact hsort))
        rw [HB.out]
        have HS := Lib.hid hsort; clear hsort
        go_enter Try.func47, Try.ntmps47
        go_wp2_with (refine wpList_make_full _ rfl (.tmp 20) (.tmp 20) 33 rfl w.heap.size 2 i0 (.int .i64 0) 1 Try.underlying33 HI.out HZ0.out HZ1.out .i64 .i64 kn kn kn rfl rfl rfl rfl (by rw [HZ2.out]; omega) (by unfold maxLen; omega) (by simp; omega) ?_)
        intro w1 ho1 hg1
        rw [made_zero] at ho1
        have hb1 : Bel _ w1 := (Bel.refl _).grown hg1 (by simp)
        obtain ⟨_, hB, hb0⟩ := blk2 hb1
        have hI := ints_own ho1
        have c2 := hB.cell 2
        simp only [List.getElem?_cons_zero, List.getElem?_cons_succ] at c2
        clear ho1 hg1 hb1 hB
        go_wp2_with fail
        refine (HSO.out _ (List.replicate kn 0) _ hb0 (by simpa using hI)).mono ?_
        rw [HS.out]
        rintro e w2 ⟨u, rfl, hu, hb2⟩
        have hb3 := hb0.trans hb2
        clear hu hb2 hI hb0
        go_wp2
        go_ret
        exact ⟨rfl, hb3⟩
      | some t =>
        have HB := Lib.hid (allB_some (r := ⟨r0, r1, r2, false, r4, r5⟩) (l := l) (A := ⟨ok, val, ks, vs⟩) (.inr HV0.out) (by rw [HSV.out]; exact hsort))
        rw [HB.out]
        have HS := Lib.hid hsort; clear hsort
        have htn := HSL.out _ t HS.out
        cases htl : decide (t = l) <;> cases ok
        all_goals
          have HTL := Lib.hid htl; clear htl
          go_enter Try.func47, Try.ntmps47
          go_wp2_with (refine wpList_make_full _ rfl (.tmp 20) (.tmp 20) 33 rfl w.heap.size 2 i0 (.int .i64 0) 1 Try.underlying33 HI.out HZ0.out HZ1.out .i64 .i64 kn kn kn rfl rfl rfl rfl (by rw [HZ2.out]; omega) (by unfold maxLen; omega) (by simp; omega) ?_)
          intro w1 ho1 hg1
          rw [made_zero] at ho1
          have hb1 : Bel _ w1 := (Bel.refl _).grown hg1 (by simp)
          obtain ⟨_, hB, hb0⟩ := blk2 hb1
          have hI := ints_own ho1
          have c0 := hB.cell 0
          have c1 := hB.cell 1
          have c2 := hB.cell 2
          simp only [List.getElem?_cons_zero, List.getElem?_cons_succ] at c0 c1 c2
          clear ho1 hg1 hb1 hB
          go_wp2_with fail
          refine (HSO.out _ (List.replicate kn 0) _ hb0 (by simpa using hI)).mono ?_
          rw [HS.out]
          rintro e w2 ⟨u, rfl, hu, hb2⟩
          have hb3 := hb0.trans hb2
          have d0 := hb2.cell c0
          have d1 := hb2.cell c1
          clear hb2 hI hb0 c0 c1 c2
          go_wp2_with fail
          refine (HSA.out _ t _ hb3 hu htn).mono ?_
          rw [HTL.out]
          rintro e w4 ⟨rfl, hb4⟩
          have e0 := hb4.cell d0
          have e1 := hb4.cell d1
          have hb5 := hb3.trans hb4
          clear hb4 hb3 hu d0 d1
          go_wp2
          go_ret
          exact ⟨rfl, hb5⟩
end Go.Proofs.Ytdmjcgipfkhibaa
