/- New maps of lines: NewXPosMap. -/
import Derived.Test.YtangceejmjklcaaLn5
namespace Go.Proofs.Ytangceejmjklcaa
open Go.RowKit Go.BigFrame

def filesV (m : Nat) : List Value := (List.range m).map fun i : Nat => .int .i64 ((i : Int) + 1)
def firstV (fs : Nat → Int) (m : Nat) : List Value := (List.range m).map fun i : Nat => .int .u32 (fs i)
def lastV (fs : Nat → Int) (ns : Nat → Nat) (m : Nat) : List Value := (List.range m).map fun i : Nat => .int .u32 (fs i + ns i - 1)
theorem range_at {α : Type} {m j : Nat} (g : Nat → α) (h : j < m) : ((List.range m).map g)[j]? = some (g j) := by simp [h]
theorem rangeKV_snoc (fs : Nat → Int) (ns : Nat → Nat) (j : Nat) : kvEs (intKV .i64 (rangeKV fs ns (j + 1))) 0 = kvEs (intKV .i64 (rangeKV fs ns j)) 0 ++ [⟨.int .i64 ((j : Int) + 1), rgE (fs j) (ns j), j⟩] := by
  have e : intKV .i64 (rangeKV fs ns (j + 1)) = intKV .i64 (rangeKV fs ns j) ++ [(.int .i64 ((j : Int) + 1), rgE (fs j) (ns j))] := by
    unfold intKV rangeKV
    rw [List.range_succ, List.map_append, List.map_append]
    rfl
  rw [e, kvEs_snoc, rangeKV_length, Nat.zero_add]
theorem rangeKV_new (fs : Nat → Int) (ns : Nat → Nat) (j : Nat) (W : World) : (Instr.findKey 3 (.int .i64 ((j : Int) + 1)) (kvEs (intKV .i64 (rangeKV fs ns j)) 0)).run Try.prog W = .ok none W :=
  run_findInt_not tyInt (fun hm => by
    unfold rangeKV at hm
    rw [List.map_map] at hm
    obtain ⟨i, hi, he⟩ := List.mem_map.1 hm
    simp only [Function.comp] at he
    have := List.mem_range.1 hi
    omega)

set_option maxRecDepth 100000 in
set_option maxHeartbeats 4000000 in
theorem newXPosMap_any (w : World) (B0 m : Nat) (fs : Nat → Int) (ns : Nat → Nat) (v1 v2 v3 : Value) (h1 : w.ownsRow B0 3 1 v1 m (filesV m)) (h2 : w.ownsRow B0 55 1 v2 m (firstV fs m)) (h3 : w.ownsRow B0 55 1 v3 m (lastV fs ns m))
    (hr : ∀ i, i < m → 1 ≤ fs i ∧ fs i ≤ 1000000 ∧ 0 < ns i ∧ ns i ≤ 2000) (hm : m ≤ 1000) :
    Calls Try.prog 16 #[v1, v2, v3] w fun e w' => ∃ x F, e = .returned (mptr x) ∧ (∀ i, i < m → (F i).n = ns i ∧ (F i).f = fs i) ∧ LnW w' w.heap.size x m F (fun _ => []) ∧ Bel w w' := by
  have hmm := @run_makeMap Try.prog
  obtain ⟨a1, c1, rfl, hl1, hm1, hc1⟩ := own_form h1
  obtain ⟨a2, c2, rfl, hl2, hm2, hc2⟩ := own_form h2
  obtain ⟨a3, c3, rfl, hl3, hm3, hc3⟩ := own_form h3
  have HC := Lib.hid (And.intro hc1 (And.intro hc2 hc3))
  have HR := Lib.hid hr
  clear hc1 hc2 hc3 h1 h2 h3 hr
  have HS : Hid (MapB (w.alloc (.map #[] 0)) w.heap.size (kvEs (intKV .i64 (rangeKV fs ns 0)) 0) 0 ∧ Bel w (w.alloc (.map #[] 0))) := Lib.hid ⟨MapB.new w, (Bel.refl w).alloc _⟩
  go_enter Try.func16, Try.ntmps16
  go_wp2_with fail
  generalize w.alloc (.map #[] 0) = w2 at HS ⊢
  generalize hbm : w.heap.size = bm at HS ⊢
  have HBM := Lib.hid hbm
  clear hmm hbm
  go_loopw [8, 9, 13] (fun _ _ i wr => ∃ j : Nat, j ≤ m ∧ i = .int .i64 j ∧ MapB wr bm (kvEs (intKV .i64 (rangeKV fs ns j)) 0) j ∧ Bel w wr) (fun _ _ i _ => m - (intOf i).toNat)
  case atStart => exact ⟨0, Nat.zero_le _, rfl, HS.out⟩
  case round =>
    obtain ⟨j, hj, rfl, hmap, hbel⟩ := hrel
    have HM := Lib.hid hmap; clear hmap HS
    have HB := Lib.hid hbel; clear hbel
    by_cases hlt : j < m
    · obtain ⟨g1, rfl, hg1⟩ := HC.out.1 (by omega)
      obtain ⟨g2, rfl, hg2⟩ := HC.out.2.1 (by omega)
      obtain ⟨g3, rfl, hg3⟩ := HC.out.2.2 (by omega)
      have d1 := HB.out.cell (hg1 j _ (range_at _ hlt))
      have d2 := HB.out.cell (hg2 j _ (range_at _ hlt))
      have d3 := HB.out.cell (hg3 j _ (range_at _ hlt))
      have HF := Lib.hid (rangeKV_new fs ns j)
      have HSN := Lib.hid (rangeKV_snoc fs ns j)
      clear hg1 hg2 hg3
      unfold rgE at HSN
      generalize hf : fs j = f at *
      generalize hl : f + (ns j : Int) - 1 = l at *
      generalize hkk : (j : Int) + 1 = kk at *
      have HX := Lib.hid (And.intro hf (And.intro hl hkk))
      clear hf hl hkk
      go_wp2_with fail
      go_still_tail 11, (by kernel_rfl)
      change wpList _ _ _ _ _ wr.drew
      go_wp2_with (at_mapUpdate; refine wpList_putNew rfl _ _ _ rfl tyMap1 HM.out.drew rfl rfl rfl (run_checkInt tyInt _) (HF.out _) ?_)
      intro w5 hm5 hg5
      have HN : Hid (MapB w5 bm (kvEs (intKV .i64 (rangeKV fs ns (j + 1))) 0) (j + 1) ∧ Bel w w5) := Lib.hid ⟨by rw [HSN.out]; exact hm5, (Bel.drew HB.out).grown hg5 (fun q hq => by injection hq with hq; rw [← hq, ← HBM.out]; exact Nat.le_refl _)⟩
      clear hm5 hg5 d1 d2 d3 HF
      have hkk := HX.out.2.2
      go_wp2
      go_roundw
      case rel => exact ⟨j + 1, by omega, by go_num, HN.out⟩
      case measure => simp [intOf]; omega
    · obtain rfl : j = m := by omega
      have HN := Lib.hid (newXposmap_any wr bm j fs ns HM.out HR.out hm)
      have hsz := HB.out.size
      go_wp2_with fail
      refine HN.out.mono ?_
      rintro e w' ⟨x, F, rfl, hF, hL, hb⟩
      have HL := Lib.hid (And.intro hL (HB.out.trans hb))
      clear hL hb
      go_wp2
      go_ret
      refine ⟨x, F, rfl, hF, ?_, HL.out.2⟩
      obtain ⟨vd, b', p, hx, hm', hp, hbb, hd, hB, hn, hmm⟩ := HL.out.1
      exact ⟨vd, b', p, hx, hm', hp, fun i hi => by obtain ⟨sp, hs⟩ := hbb i hi; exact ⟨sp, hs.lower hsz⟩, hd, Nat.le_trans hsz hB, hn, hmm⟩
end Go.Proofs.Ytangceejmjklcaa
