/- The walk of FnBiasedShift. -/
import Derived.Test.YtdmjcgipfkhibaaBia6
import Derived.Deep.Cut
namespace Go.Proofs.Ytdmjcgipfkhibaa
open Go.RowKit
attribute [local go_sem ↓] Go.wp_at_zero Go.wp_at_succ

/-- A step whose key is moved. -/
def mvS (y : Int) (s : Pl.StepD) : Pl.StepD := if s.kind = 9 then s else ⟨s.kind, wrap64 (s.key + y), s.val, s.list⟩
def shS (y : Int) (s : Pl.StepD) : Pl.StepD := if s.kind = 9 then s else ⟨s.kind, s.key + y, s.val, s.list⟩
theorem mvS_sh {y : Int} {s : Pl.StepD} (h : wrap64 (s.key + y) = s.key + y) : mvS y s = shS y s := by unfold mvS shS; rw [h]

theorem sh_mapD (f l y : Int) (d : List Pl.Ent) (s : Pl.StepD) : Pl.mapD (Pl.ofBiased (f + y) (l + y)) (shE y d) (shS y s) = shE y (Pl.mapD (Pl.ofBiased f l) d s) := by
  obtain ⟨kind, key, val, list⟩ := s
  unfold shS
  by_cases e9 : kind = 9
  · subst e9; rfl
  rw [if_neg e9]
  by_cases e0 : kind = 0
  · subst e0
    unfold Pl.mapD
    rw [if_pos rfl, if_pos rfl, putE_sh]
    by_cases hin : f ≤ key ∧ key ≤ l
    · rw [if_pos (show (Pl.ofBiased (f + y) (l + y)).first ≤ key + y ∧ key + y ≤ (Pl.ofBiased (f + y) (l + y)).last from ⟨by show f + y ≤ key + y; omega, by show key + y ≤ l + y; omega⟩), if_pos (show (Pl.ofBiased f l).first ≤ key ∧ key ≤ (Pl.ofBiased f l).last from hin), show key + y - y = key by omega]
    · rw [if_neg (fun hh => hin ⟨by have h1 : f + y ≤ key + y := hh.1; omega, by have h2 : key + y ≤ l + y := hh.2; omega⟩), if_neg (fun hh => hin ⟨hh.1, hh.2⟩)]
  by_cases e1 : kind = 1
  · subst e1
    show outE (shE y d) (key + y) = shE y (outE d key)
    rw [outE_sh, show key + y - y = key by omega]
  by_cases e5 : kind = 5
  · subst e5; rfl
  simp [Pl.mapD, e0, e1, e5]

/-- What the law asks of two answers. -/
structure Pair2 (f l y : Int) (s : Pl.StepD) (A B : Pl.Ans) : Prop where
  ok : B.ok = A.ok
  ks : B.keys = A.keys.map (· + y)
  vs : B.vals = A.vals
  v9 : s.kind = 9 → A.val = l + 1 ∧ B.val = A.val + y
  vn : ¬ s.kind = 9 → B.val = A.val
  kr : ∀ k ∈ A.keys, f ≤ k ∧ k ≤ l
  so : ∃ t, Pl.sortedOf B.keys B.vals = some t

theorem sh_map1 (y : Int) (d : List Pl.Ent) : (shE y d).map (·.1) = (d.map (·.1)).map (· + y) := by unfold shE; simp
theorem sh_map2 (y : Int) (d : List Pl.Ent) : (shE y d).map (·.2) = d.map (·.2) := by unfold shE; simp

theorem sh_mapA {f l y : Int} {d l' : List Pl.Ent} (hR : Pl.Rep l' (shE y d)) (hin : ∀ e ∈ d, f ≤ e.1 ∧ e.1 ≤ l) (s : Pl.StepD) : Pair2 f l y s (Pl.mapA (Pl.ofBiased f l) d s) (Pl.mapA (Pl.ofBiased (f + y) (l + y)) (shE y d) (shS y s)) := by
  obtain ⟨kind, key, val, list⟩ := s
  have hnil : ∃ t, Pl.sortedOf [] [] = some t := ⟨[], rfl⟩
  by_cases e9 : kind = 9
  · subst e9
    exact ⟨rfl, rfl, rfl, fun _ => ⟨rfl, by show l + y + 1 = l + 1 + y; omega⟩, fun h => absurd rfl h, (by intro k hk; cases hk), hnil⟩
  have hs : shS y ⟨kind, key, val, list⟩ = ⟨kind, key + y, val, list⟩ := by unfold shS; rw [if_neg e9]
  rw [hs]
  have hhb : hasB (shE y d) (key + y) = hasB d key := by rw [hasB_sh, show key + y - y = key by omega]
  have hgv : getV (shE y d) (key + y) = getV d key := by rw [getV_sh, show key + y - y = key by omega]
  by_cases e2 : kind = 2
  · subst e2
    exact ⟨hhb, rfl, rfl, fun h => absurd h e9, fun _ => rfl, (by intro k hk; cases hk), hnil⟩
  by_cases e3 : kind = 3
  · subst e3
    refine ⟨?_, rfl, rfl, fun h => absurd h e9, fun _ => ?_, (by intro k hk; cases hk), hnil⟩
    · show (hasB (shE y d) (key + y) && true) = (hasB d key && true)
      rw [hhb]
    · show (if hasB (shE y d) (key + y) then getV (shE y d) (key + y) else 0) = (if hasB d key then getV d key else 0)
      rw [hhb, hgv]
  by_cases e4 : kind = 4
  · subst e4
    refine ⟨rfl, rfl, rfl, fun h => absurd h e9, fun _ => ?_, (by intro k hk; cases hk), hnil⟩
    show ((shE y d).length : Int) = d.length
    rw [shE_length]
  by_cases e7 : kind = 7
  · subst e7
    refine ⟨rfl, sh_map1 y d, sh_map2 y d, fun h => absurd h e9, fun _ => rfl, ?_, ⟨_, sorted_rep hR⟩⟩
    intro k hk
    obtain ⟨e, he, rfl⟩ := List.mem_map.1 (show k ∈ d.map (·.1) from hk)
    exact hin e he
  have ea : ∀ (r : Pl.RulesD) (d : List Pl.Ent) (key : Int), Pl.mapA r d ⟨kind, key, val, list⟩ = Pl.ans0 := fun r d key => by simp [Pl.mapA, e2, e3, e4, e7, e9]
  rw [ea, ea]
  exact ⟨rfl, rfl, rfl, fun h => absurd h e9, fun _ => rfl, (by intro k hk; cases hk), hnil⟩

theorem rep_in {f l : Int} {l0 d : List Pl.Ent} (h : Pl.Rep l0 d) (hin : ∀ e ∈ d, f ≤ e.1 ∧ e.1 ≤ l) (s : Pl.StepD) : ∀ e ∈ Pl.mapD (Pl.ofBiased f l) d s, f ≤ e.1 ∧ e.1 ≤ l := by
  intro e he
  unfold Pl.mapD at he
  split at he
  · split at he
    · have := ((rep_put h s.key s.val).mem e).2 he
      rcases (Pl.mem_put h.srt).1 this with rfl | h1
      · assumption
      · exact hin e ((h.mem e).1 h1.1)
    · exact hin e he
  · split at he
    · have := ((rep_out h s.key).mem e).2 he
      exact hin e ((h.mem e).1 (Pl.mem_without.1 this).1)
    · split at he
      · cases he
      · exact hin e he
theorem sh_run {f l y : Int} : ∀ (S : List Pl.StepD) (l0 l1 d : List Pl.Ent), Pl.Rep l0 d → Pl.Rep l1 (shE y d) → (∀ e ∈ d, f ≤ e.1 ∧ e.1 ≤ l) → ∀ (i : Nat) (s : Pl.StepD) (A B : Pl.Ans), S[i]? = some s → (Pl.mapRun (Pl.ofBiased f l) d S)[i]? = some A → (Pl.mapRun (Pl.ofBiased (f + y) (l + y)) (shE y d) (S.map (shS y)))[i]? = some B → Pair2 f l y s A B
  | [], _, _, _, _, _, _, i, s, A, B, hs, _, _ => by simp at hs
  | s0 :: S, l0, l1, d, h, h1, hin, i, s, A, B, hs, hA, hB => by
    cases i with
    | zero =>
      simp only [Pl.mapRun, List.map_cons, List.getElem?_cons_zero, Option.some.injEq] at hs hA hB
      subst hs hA hB
      exact sh_mapA h1 hin s0
    | succ i =>
      simp only [Pl.mapRun, List.map_cons, List.getElem?_cons_succ] at hs hA hB
      rw [sh_mapD] at hB
      have h2 := (map_step (r := Pl.ofBiased (f + y) (l + y)) rfl h1 (shS y s0)).2
      rw [sh_mapD] at h2
      exact sh_run S _ _ _ (map_step (r := Pl.ofBiased f l) rfl h s0).2 h2 (rep_in h hin s0) i s A B hs hA hB

/-- What has been moved of the script. -/
def Mvd (w wr : World) (y : Int) (u : Value) (S : List Pl.StepD) : Prop := ∃ L : List StepT, L.map (·.1) = S.map (mvS y) ∧ wr.ownsRow w.heap.size 39 4 u S.length (stepCells L) ∧ ∀ p ∈ L, IntS w p.2 p.1.list
theorem Mvd.take {w w1 : World} {y : Int} {u' : Value} {S : List Pl.StepD} {j : Nat} {s : Pl.StepD} {L : List StepT} {k : Value} (h1 : L.map (·.1) = (S.take j).map (mvS y)) (h3 : ∀ p ∈ L, IntS w p.2 p.1.list) (hs : S[j]? = some s) (hI : IntS w k s.list)
    (ho : w1.ownsRow w.heap.size 39 4 u' (j + 1) (stepCells L ++ [.int .i64 (mvS y s).kind, .int .i64 (mvS y s).key, .int .i64 (mvS y s).val, k])) : Mvd w w1 y u' (S.take (j + 1)) := by
  have hjl := (List.getElem?_eq_some_iff.1 hs).1
  refine ⟨L ++ [(mvS y s, k)], ?_, ?_, ?_⟩
  · rw [List.take_add_one, hs, List.map_append, List.map_append, h1]; rfl
  · rw [stepCells_append, List.length_take, Nat.min_eq_left (by omega)]; exact ho
  · intro p hp
    rcases List.mem_append.1 hp with hp | hp
    · exact h3 p hp
    · simp at hp; subst hp
      have : (mvS y s).list = s.list := by unfold mvS; split <;> rfl
      show IntS w k (mvS y s).list
      rw [this]; exact hI
theorem Mvd.stepS {w wr : World} {y : Int} {u : Value} {S : List Pl.StepD} (h : Mvd w wr y u S) (hb : Bel w wr) : StepS wr u (S.map (mvS y)) := by
  obtain ⟨L, h1, h2, h3⟩ := h
  rw [← h1]
  exact stepS_own h2 (fun p hp => (h3 p hp).bel hb)
theorem stepS_at' {w : World} {a : Option Addr} {S : List Pl.StepD} (h : Steps w a S) {j : Nat} {s : Pl.StepD} (hs : S[j]? = some s) : ∃ b o k, a = some ⟨b, o, none⟩ ∧ w.cell? ⟨b, o + j * 4, none⟩ = some (.int .i64 s.kind) ∧ w.cell? ⟨b, o + j * 4 + 1, none⟩ = some (.int .i64 s.key) ∧ w.cell? ⟨b, o + j * 4 + 2, none⟩ = some (.int .i64 s.val) ∧ w.cell? ⟨b, o + j * 4 + 3, none⟩ = some k ∧ IntS w k s.list := by
  obtain ⟨b, o, ha, hc⟩ := h (by have := (List.getElem?_eq_some_iff.1 hs).1; omega)
  obtain ⟨k, h⟩ := hc j s hs
  exact ⟨b, o, k, ha, h⟩

/-- The cells of two answers. -/
theorem cells8' {w w' : World} {p0 p1 p2 p3 p4 p5 p6 p7 : Addr} {v0 v1 v2 v3 v4 v5 v6 v7 : Value} (hb : Bel w w') (h : w.cell? p0 = some v0 ∧ w.cell? p1 = some v1 ∧ w.cell? p2 = some v2 ∧ w.cell? p3 = some v3 ∧ w.cell? p4 = some v4 ∧ w.cell? p5 = some v5 ∧ w.cell? p6 = some v6 ∧ w.cell? p7 = some v7) :
    w'.cell? p0 = some v0 ∧ w'.cell? p1 = some v1 ∧ w'.cell? p2 = some v2 ∧ w'.cell? p3 = some v3 ∧ w'.cell? p4 = some v4 ∧ w'.cell? p5 = some v5 ∧ w'.cell? p6 = some v6 ∧ w'.cell? p7 = some v7 := by
  obtain ⟨a0, a1, a2, a3, a4, a5, a6, a7⟩ := h
  exact ⟨hb.cell a0, hb.cell a1, hb.cell a2, hb.cell a3, hb.cell a4, hb.cell a5, hb.cell a6, hb.cell a7⟩
set_option maxRecDepth 100000 in
set_option maxHeartbeats 8000000 in
theorem law_FnBiasedShift (w : World) (f : Int) (_lo : -9223372036854775808 ≤ f) (_hi : f ≤ 9223372036854775807) (l : Int) (_lo' : -9223372036854775808 ≤ l) (_hi' : l ≤ 9223372036854775807) (y : Int) (_lo2 : -9223372036854775808 ≤ y) (_hi2 : y ≤ 9223372036854775807) (v : Value) (S : List Pl.StepD) (h : StepS w v S) :
    Calls Try.prog 10 #[.int .i64 f, .int .i64 l, .int .i64 y, v] w fun e w' => e = .returned (.bool true) ∧ Bel w w' := by
  have HH := Lib.hid h
  obtain ⟨a, c, rfl, hlc, hcm, _⟩ := h
  go_enter Try.func10, Try.ntmps10
  go_wp2_with fail
  refine (zzFits1_any _ S w HH.out).mono ?_
  rintro e w2 ⟨b1, rfl, hz, hb12⟩
  cases b1
  · clear hz
    go_wp2
    go_ret
    exact ⟨rfl, hb12⟩
  have hsz := hz rfl
  clear hz
  have HS : Hid (Steps w2 a S) := Lib.hid (by
    obtain ⟨a', c', he, _, _, hst⟩ := HH.out.bel hb12
    injection he with h1 _ _
    subst h1
    exact hst)
  have HK0 : Hid (Mvd w2 (w2.alloc (.cells #[] 39)) y (.slice (some ⟨w2.heap.size, 0, none⟩) 0 0) (S.take 0)) := Lib.hid ⟨[], by simp, owns_empty _ _ _ _ _ rfl (Nat.le_refl _), by simp⟩
  go_wp2
  go_loopw [9, 25] (fun u i wr => ∃ j : Nat, j ≤ S.length ∧ i = .int .i64 j ∧ Mvd w2 wr y u (S.take j) ∧ Bel w2 wr) (fun _ i _ => S.length - (intOf i).toNat)
  case atStart => exact ⟨0, Nat.zero_le _, rfl, HK0.out, (Bel.refl w2).alloc _⟩
  case round =>
    obtain ⟨j, hj, rfl, hK, hbel⟩ := hrel
    have HK := Lib.hid hK; clear hK HK0
    have hbs := hbel.size
    by_cases hlt : j < S.length
    · obtain ⟨s, hs⟩ : ∃ s, S[j]? = some s := ⟨_, List.getElem?_eq_getElem hlt⟩
      obtain ⟨b, o, k, rfl, c0, c1, c2, c3, hI⟩ := stepS_at' HS.out hs
      have HSJ := Lib.hid hs; clear hs
      have d0 := hbel.cell c0
      have d1 := hbel.cell c1
      have d2 := hbel.cell c2
      have d3 := hbel.cell c3
      have HI := Lib.hid hI
      obtain ⟨ka, kc, rfl, _, _, _⟩ := hI
      clear c0 c1 c2 c3
      obtain ⟨L, l1, l2, l3⟩ := HK.out
      rw [List.length_take, Nat.min_eq_left hj] at l2
      have HL := Lib.hid (And.intro l1 (And.intro l2 l3)); clear l1 l2 l3
      by_cases e9 : s.kind = 9
      · have m9 : (s.kind != 9) = false := by rw [e9]; rfl
        have HM : Hid (mvS y s = s) := Lib.hid (by unfold mvS; rw [if_pos e9])
        clear e9
        go_wp2_with (at_builtin; refine wpList_push el30 rfl (.tmp 37) (.tmp 39) rfl w2.heap.size u9 j _ rfl (HL.out.2.1.alloc _) [.int .i64 s.kind, .int .i64 s.key, .int .i64 s.val, .slice ka s.list.length kc] (wr.heap.size + 1) (by simp) rfl rfl (by simp [Value.oneCell']) (by omega) (by omega) (by omega) ?_)
        intro u1 w3 ho1 hg1 _
        have hb3 : Bel w2 w3 := (hbel.alloc _).grown hg1 (fun k hk => (HL.out.2.1.lt k hk).1)
        have HK3 := Lib.hid (Mvd.take (y := y) HL.out.1 HL.out.2.2 HSJ.out HI.out (by rw [HM.out]; exact ho1))
        clear ho1 hg1
        go_wp2
        go_roundw
        case rel => exact ⟨j + 1, by omega, by go_num, HK3.out, hb3⟩
        case measure => simp [intOf]; omega
      · have m9 : (s.kind != 9) = true := by simp [e9]
        have HM : Hid (mvS y s = ⟨s.kind, wrap64 (s.key + y), s.val, s.list⟩) := Lib.hid (by unfold mvS; rw [if_neg e9])
        clear e9
        go_wp2_with (at_builtin; refine wpList_push el30 rfl (.tmp 37) (.tmp 39) rfl w2.heap.size u9 j _ rfl (HL.out.2.1.alloc _) [.int .i64 s.kind, .int .i64 (wrap64 (s.key + y)), .int .i64 s.val, .slice ka s.list.length kc] (wr.heap.size + 1) (by simp) rfl rfl (by simp [Value.oneCell']) (by omega) (by omega) (by omega) ?_)
        intro u1 w3 ho1 hg1 _
        have hb3 : Bel w2 w3 := (hbel.alloc _).grown hg1 (fun k hk => (HL.out.2.1.lt k hk).1)
        have HK3 := Lib.hid (Mvd.take (y := y) HL.out.1 HL.out.2.2 HSJ.out HI.out (by rw [HM.out]; exact ho1))
        clear ho1 hg1
        go_wp2
        go_roundw
        case rel => exact ⟨j + 1, by omega, by go_num, HK3.out, hb3⟩
        case measure => simp [intOf]; omega
    · have HF : Hid (Mvd w2 wr y u9 S) := Lib.hid (by have := HK.out; rwa [List.take_of_length_le (by omega)] at this)
      have hF := HF.out.stepS hbel
      have HFS := Lib.hid hF
      obtain ⟨fa, fc, rfl, _, hfm, _⟩ := hF
      rw [List.length_map] at HFS HF ⊢
      have hbw := hb12.trans hbel
      clear HK HF hbs
      by_cases y0 : y < 0
      · go_wp2
        go_ret
        exact ⟨rfl, hbw⟩
      by_cases y1 : 1048576 < y
      · go_wp2
        go_ret
        exact ⟨rfl, hbw⟩
      go_wp2_with fail
      refine (between_any f l _ S wr (HH.out.bel hbw)).mono ?_
      rintro e w3 ⟨b3, rfl, hQ, hb3⟩
      cases b3
      · clear hQ
        go_wp2
        go_ret
        exact ⟨rfl, hbw.trans hb3⟩
      obtain ⟨f0, fl, l1, n1, sl, st⟩ := hQ rfl
      clear hQ
      have HST := Lib.hid st; clear st
      have HMV : Hid (S.map (mvS y) = S.map (shS y)) := Lib.hid (List.map_congr_left (fun s hs => mvS_sh (by
        have := (HST.out s hs).k.x0
        have := (HST.out s hs).k.x1
        exact IntWalk.wrap64_in _ ⟨by omega, by omega⟩)))
      rw [HMV.out] at HFS
      have hml : (S.map (shS y)).length = S.length := List.length_map _
      have HB2 := Lib.hid (between_any (f + y) (l + y) _ (S.map (shS y)) w3 (by have := HFS.out.bel hb3; exact this))
      go_wp2_with fail
      refine HB2.out.mono ?_
      rintro e w4 ⟨b4, rfl, hQ, hb4⟩
      have hbw4 := (hbw.trans hb3).trans hb4
      cases b4
      · clear hQ
        go_wp2
        go_ret
        exact ⟨rfl, hbw4⟩
      have HST2 := Lib.hid (hQ rfl).st
      have hly := (hQ rfl).l1
      have hwr4 := hb3.trans hb4
      clear hQ hb3 hb4 hml HB2
      obtain ⟨n, hn⟩ := Int.eq_ofNat_of_zero_le (a := l - f + 1) (by omega)
      have hl : f + (n : Int) - 1 = l := by omega
      have hl2 : f + y + (n : Int) - 1 = l + y := by omega
      have hn2 : n ≤ 2000 := by omega
      have hn0 : 0 < n := by omega
      have HB1 := Lib.hid (bia_any f n S _ w4 (by omega) hn0 f0 (by omega) (HH.out.bel hbw4) (by omega) HST.out)
      rw [hl] at HB1
      have HBX := Lib.hid (fun (W : World) (hW : Bel w4 W) => bia_any (f + y) n (S.map (shS y)) (.slice fa S.length fc) W (by omega) hn0 (by omega) (by omega) ((HFS.out.bel hwr4).bel hW) (by rw [List.length_map]; omega) HST2.out)
      rw [hl2] at HBX
      clear hl hl2 hn hbw hwr4
      go_wp2_with fail
      refine HB1.out.mono ?_
      rintro e w5 ⟨u5, rfl, hA5, hb5⟩
      go_wp2_with fail
      refine (HBX.out w5 hb5).mono ?_
      rintro e w6 ⟨u6, rfl, hB6, hb6⟩
      have hA6 := hA5.bel hb6
      have HAB := Lib.hid (And.intro hA6 hB6)
      have hbw6 := (hbw4.trans hb5).trans hb6
      have HP : Hid (∀ (i : Nat) (s : Pl.StepD) (A B : Pl.Ans), S[i]? = some s → (Pl.mapRun (Pl.ofBiased f l) [] S)[i]? = some A → (Pl.mapRun (Pl.ofBiased (f + y) (l + y)) [] (S.map (shS y)))[i]? = some B → Pair2 f l y s A B) := Lib.hid (sh_run S [] [] [] Pl.Rep.nil Pl.Rep.nil (by simp))
      have HKL : Hid (∀ A ∈ Pl.mapRun (Pl.ofBiased f l) [] S, A.keys.length ≤ 1000000) := Lib.hid (fun A hA => by
        have := mapRun_keys S [] 0 (by simp) A hA
        omega)
      have HAl : Hid ((Pl.mapRun (Pl.ofBiased f l) [] S).length = S.length) := Lib.hid (mapRun_length _ _ _)
      have HBl : Hid ((Pl.mapRun (Pl.ofBiased (f + y) (l + y)) [] (S.map (shS y))).length = S.length) := Lib.hid (by rw [mapRun_length, List.length_map])
      obtain ⟨sa, sc, rfl, _, _, _⟩ := hA6
      obtain ⟨ma, mc, rfl, _, _, _⟩ := hB6
      rw [HAl.out] at HAB ⊢
      rw [HBl.out] at HAB ⊢
      have HS6 : Hid (Steps w6 a S) := Lib.hid (by
        obtain ⟨a', c', he, _, _, hst⟩ := HH.out.bel hbw6
        injection he with h1 _ _
        subst h1
        exact hst)
      clear hA5 hb5 hb6 hbw4 HS HFS HB1 HBX HST HST2 HMV
      have m0 : ((S.length : Int) != (S.length : Int)) = false := by simp
      go_wp2
      go_loopw [92] (fun i wq => ∃ j : Nat, j ≤ S.length ∧ i = .int .i64 j ∧ Bel w6 wq) (fun i _ => S.length - (intOf i).toNat)
      case atStart => exact ⟨0, Nat.zero_le _, rfl, Bel.refl _⟩
      case round =>
        obtain ⟨j, hj, rfl, hq⟩ := hrel
        by_cases hlt : j < S.length
        · obtain ⟨s, hs⟩ : ∃ s, S[j]? = some s := ⟨_, List.getElem?_eq_getElem hlt⟩
          obtain ⟨A, hA⟩ : ∃ A, (Pl.mapRun (Pl.ofBiased f l) [] S)[j]? = some A := ⟨_, List.getElem?_eq_getElem (by rw [HAl.out]; exact hlt)⟩
          obtain ⟨B, hB⟩ : ∃ B, (Pl.mapRun (Pl.ofBiased (f + y) (l + y)) [] (S.map (shS y)))[j]? = some B := ⟨_, List.getElem?_eq_getElem (by rw [HBl.out]; exact hlt)⟩
          have HPR := Lib.hid (HP.out j s A B hs hA hB)
          have hkl := HKL.out A (List.mem_of_getElem? hA)
          obtain ⟨b0, o0, k0, rfl, s0, _, _, _, _⟩ := stepS_at' HS6.out hs
          obtain ⟨b, k, x, rfl, g0, g1, g2, g3, hk, hx⟩ := ansS_at (A := Pl.mapRun (Pl.ofBiased f l) [] S) (by rw [HAl.out]; exact HAB.out.1) hA
          obtain ⟨b', k', x', rfl, p0a, p1a, p2a, p3a, hk', hx'⟩ := ansS_at (A := Pl.mapRun (Pl.ofBiased (f + y) (l + y)) [] (S.map (shS y))) (by rw [HBl.out]; exact HAB.out.2) hB
          have s0' := hq.cell s0
          have hnb : ¬ b0 = wr.heap.size := by
            have h1 : b0 < w6.heap.size := World.block_lt_of_cell? w6 _ s0
            have h2 := hq.size
            omega
          obtain ⟨ok, val, ks, vs⟩ := A
          clear s0 hA hB hs
          simp only at g0 g1 g2 g3 hk hx hkl
          have HX := Lib.hid hx
          replace g0 := hq.cell g0
          replace g1 := hq.cell g1
          replace g2 := hq.cell g2
          replace g3 := hq.cell g3
          have HK' := Lib.hid hk'
          have HX' := Lib.hid hx'
          have HKR : Hid (∀ k ∈ ks, f ≤ k ∧ k ≤ l) := Lib.hid HPR.out.kr
          obtain ⟨ka, kc, rfl, _, _, hki⟩ := hk
          obtain ⟨xa, xc, rfl, _, _, _⟩ := hx
          have HKI := Lib.hid hki
          clear hk' hx' hki
          obtain ⟨wo, rfl⟩ : ∃ wo : World, wo = wr := ⟨_, rfl⟩
          go_upto_region 19 with (fail)
          have hBx := Blk.new wo 43 [.bool ok, .int .i64 val, .slice ka ks.length kc, .slice xa vs.length xc]
          have hbx := (Bel.refl wo).alloc (.cells #[.bool ok, .int .i64 val, .slice ka ks.length kc, .slice xa vs.length xc] 43)
          change Blk (wo.alloc (.cells #[.bool ok, .int .i64 val, .slice ka ks.length kc, .slice xa vs.length xc] 43)) _ _ _ at hBx
          generalize wo.alloc (.cells #[.bool ok, .int .i64 val, .slice ka ks.length kc, .slice xa vs.length xc] 43) = w7 at hBx hbx ⊢
          have HB := Lib.hid (And.intro hBx hbx)
          obtain ⟨⟨y0', y1', y2', y3'⟩, _⟩ := four_cells hBx
          clear hBx
          have nn := World.new_ne w7 _ y2'
          have y2a := (Bel.refl w7).alloc (.cells #[] 2) |>.cell y2'
          have HU0 : Hid ((w7.alloc (.cells #[] 2)).ownsRow w7.heap.size 2 1 (.slice (some ⟨w7.heap.size, 0, none⟩) 0 0) 0 []) := Lib.hid (owns_empty _ _ _ _ _ rfl (Nat.le_refl _))
          go_wp2
          go_loopw [16, 101] (fun u i wq => ∃ m : Nat, m ≤ ks.length ∧ i = .int .i64 m ∧ wq.ownsRow w7.heap.size 2 1 u m (((ks.take m).map (· + y)).map (Value.int .i64)) ∧ Bel w7 wq) (fun _ i _ => ks.length - (intOf i).toNat)
          case atStart => exact ⟨0, Nat.zero_le _, rfl, HU0.out, (Bel.refl w7).alloc _⟩
          case round =>
            obtain ⟨m, hm, rfl, hu, hbm⟩ := hrel
            have HU := Lib.hid hu; clear hu HU0
            have hbms := hbm.size
            by_cases hmlt : m < ks.length
            · obtain ⟨kb, ko, rfl, hkc⟩ := HKI.out (by omega)
              obtain ⟨e, he⟩ : ∃ e, ks[m]? = some e := ⟨_, List.getElem?_eq_getElem hmlt⟩
              have hcm0 := hbm.cell (hbx.cell (hq.cell (hkc m e he)))
              have HE : Hid ((ks.take (m + 1)).map (· + y) = (ks.take m).map (· + y) ++ [e + y]) := Lib.hid (by rw [List.take_add_one, he, List.map_append]; rfl)
              obtain ⟨e0, e1⟩ := HKR.out e (List.mem_of_getElem? he)
              clear hkc he
              go_wp2_with (at_builtin; refine wpList_push el22' rfl (.tmp 105) (.tmp 109) rfl w7.heap.size u16 m _ rfl HU.out [.int .i64 (e + y)] wr.heap.size rfl rfl rfl (by simp [Value.oneCell']) (by omega) (by omega) (by omega) ?_)
              intro u1 w8 ho8 hg8 _
              have hb8 : Bel w7 w8 := hbm.grown hg8 (fun k hk => (HU.out.lt k hk).1)
              have HU8 : Hid (w8.ownsRow w7.heap.size 2 1 u1 (m + 1) (((ks.take (m + 1)).map (· + y)).map (Value.int .i64))) := Lib.hid (by rw [HE.out, List.map_append]; simpa using ho8)
              clear ho8 hg8
              go_wp2
              go_roundw
              case rel => exact ⟨m + 1, by omega, by go_num, HU8.out, hb8⟩
              case measure => simp [intOf]; omega
            · have HU9 : Hid (wr.ownsRow w7.heap.size 2 1 u16 ks.length ((ks.map (· + y)).map (Value.int .i64))) := Lib.hid (by
                have := HU.out
                obtain rfl : m = ks.length := by omega
                rwa [List.take_of_length_le (Nat.le_refl _)] at this)
              clear HU HKI HKR
              obtain ⟨ua, uc, rfl, _, hucm, _⟩ := own_form HU9.out
              have hBr := HB.out.1.bel hbm
              obtain ⟨⟨c0, c1, c2, c3⟩, ⟨z0, z1, z2, z3⟩⟩ := four_cells hBr
              have s1 := hbm.cell (hbx.cell s0')
              have HBR := Lib.hid hBr; clear hBr
              clear y0' y1' y2' y3' s0' y2a nn
              have hb6r : Bel w6 wr := (hq.trans hbx).trans hbm
              by_cases e9 : s.kind = 9
              · have m9 : (s.kind == 9) = true := by rw [e9]; rfl
                have hv9 := (HPR.out.v9 e9).1
                simp only at hv9
                have HV9 := Lib.hid (HPR.out.v9 e9).2
                have hv0 : 0 ≤ val := by omega
                have hv1 : val ≤ 1073741825 := by omega
                clear e9 hv9
                go_upto_region 28 with (fail)
                have hBs : Blk ((wr.setCell ⟨wo.heap.size, 2, none⟩ (.slice ua ks.length uc)).setCell ⟨wo.heap.size, 1, none⟩ (.int .i64 (val + y))) wo.heap.size 43 [.bool ok, .int .i64 (val + y), .slice ua ks.length uc, .slice xa vs.length xc] := (HBR.out.set 2 (.slice ua ks.length uc)).set 1 (.int .i64 (val + y))
                have hO1 := ownsRow_setCell_other (ownsRow_setCell_other HU9.out (a := ⟨wo.heap.size, 2, none⟩) (own_ne HU9.out HBR.out (by decide)) (.slice ua ks.length uc)) (a := ⟨wo.heap.size, 1, none⟩) (own_ne HU9.out HBR.out (by decide)) (.int .i64 (val + y))
                have hb1 : Bel w6 ((wr.setCell ⟨wo.heap.size, 2, none⟩ (.slice ua ks.length uc)).setCell ⟨wo.heap.size, 1, none⟩ (.int .i64 (val + y))) := bel_set (bel_set hb6r (p := ⟨wo.heap.size, 2, none⟩) hq.size) (p := ⟨wo.heap.size, 1, none⟩) hq.size
                generalize (wr.setCell ⟨wo.heap.size, 2, none⟩ (.slice ua ks.length uc)).setCell ⟨wo.heap.size, 1, none⟩ (.int .i64 (val + y)) = W1 at hBs hO1 hb1 ⊢
                obtain ⟨⟨r0, r1, r2, r3⟩, _⟩ := four_cells hBs
                have n0 := hb1.cell p0a
                have n1' := hb1.cell p1a
                have n2 := hb1.cell p2a
                have n3 := hb1.cell p3a
                have hI1 := ints_own hO1
                obtain ⟨t, ht⟩ := HPR.out.so
                have hBk : B.keys.length ≤ 1000000 := by rw [HPR.out.ks]; simpa using hkl
                have HAL := Lib.hid (alike_right (w := W1.drew) (v := ansV ⟨ok, (val + y), ks.map (· + y), vs⟩ (.slice ua ks.length uc) (.slice xa vs.length xc)) (u := ansV B k' x') (A := ⟨ok, (val + y), ks.map (· + y), vs⟩) ⟨_, _, rfl, hI1.bel (Bel.refl W1).drew, (HX.out.bel hb1).bel (Bel.refl W1).drew⟩ ⟨k', x', rfl, (HK'.out.bel hb1).bel (Bel.refl W1).drew, (HX'.out.bel hb1).bel (Bel.refl W1).drew⟩ (t := t) (by have h1 := HPR.out.ks; have h2 := HPR.out.vs; simp only at h1 h2; rw [← h1, ← h2]; exact ht) ht (by simpa using hkl) hBk HPR.out.ok.symm HV9.out.symm)
                have K9 := Lib.hid (And.intro r0 (And.intro r1 (And.intro r2 (And.intro r3 (And.intro n0 (And.intro n1' (And.intro n2 n3)))))))
                have j1 : (0 : Int) ≤ (j : Int) := by omega
                have j2 : (j : Int) < (S.length : Int) := by omega
                go_region_held3 (fun w' => w'.cell? ⟨wo.heap.size, 0, none⟩ = some (.bool ok) ∧ w'.cell? ⟨wo.heap.size, 1, none⟩ = some (.int .i64 (val + y)) ∧ w'.cell? ⟨wo.heap.size, 2, none⟩ = some (.slice ua ks.length uc) ∧ w'.cell? ⟨wo.heap.size, 3, none⟩ = some (.slice xa vs.length xc) ∧ w'.cell? ⟨b', j * 4, none⟩ = some (.bool B.ok) ∧ w'.cell? ⟨b', j * 4 + 1, none⟩ = some (.int .i64 B.val) ∧ w'.cell? ⟨b', j * 4 + 2, none⟩ = some k' ∧ w'.cell? ⟨b', j * 4 + 3, none⟩ = some x')
                  (first | exact k10 | go_keep)
                  (first
                    | (go_at_call 31; refine HAL.out.mono ?_; rintro e w10 ⟨rfl, hb10⟩; have k10 := cells8' ((Bel.refl W1).drew.trans hb10) K9.out))
                have hr10 : Bel w6 w10 := hb1.drew.trans hb10
                clear k10 r0 r1 r2 r3 n0 n1' n2 n3 hb10
                go_wp2
                go_roundw
                case rel => exact ⟨j + 1, by omega, by go_num, hr10⟩
                case measure => simp [intOf]; omega
              · have m9 : (s.kind == 9) = false := by simp [e9]
                have HV9 := Lib.hid (HPR.out.vn e9)
                clear e9
                go_upto_region 28 with (fail)
                have hBs : Blk (wr.setCell ⟨wo.heap.size, 2, none⟩ (.slice ua ks.length uc)) wo.heap.size 43 [.bool ok, .int .i64 val, .slice ua ks.length uc, .slice xa vs.length xc] := HBR.out.set 2 (.slice ua ks.length uc)
                have hO1 := ownsRow_setCell_other HU9.out (a := ⟨wo.heap.size, 2, none⟩) (own_ne HU9.out HBR.out (by decide)) (.slice ua ks.length uc)
                have hb1 : Bel w6 (wr.setCell ⟨wo.heap.size, 2, none⟩ (.slice ua ks.length uc)) := bel_set hb6r (p := ⟨wo.heap.size, 2, none⟩) hq.size
                generalize wr.setCell ⟨wo.heap.size, 2, none⟩ (.slice ua ks.length uc) = W1 at hBs hO1 hb1 ⊢
                obtain ⟨⟨r0, r1, r2, r3⟩, _⟩ := four_cells hBs
                have n0 := hb1.cell p0a
                have n1' := hb1.cell p1a
                have n2 := hb1.cell p2a
                have n3 := hb1.cell p3a
                have hI1 := ints_own hO1
                obtain ⟨t, ht⟩ := HPR.out.so
                have hBk : B.keys.length ≤ 1000000 := by rw [HPR.out.ks]; simpa using hkl
                have HAL := Lib.hid (alike_right (w := W1.drew) (v := ansV ⟨ok, val, ks.map (· + y), vs⟩ (.slice ua ks.length uc) (.slice xa vs.length xc)) (u := ansV B k' x') (A := ⟨ok, val, ks.map (· + y), vs⟩) ⟨_, _, rfl, hI1.bel (Bel.refl W1).drew, (HX.out.bel hb1).bel (Bel.refl W1).drew⟩ ⟨k', x', rfl, (HK'.out.bel hb1).bel (Bel.refl W1).drew, (HX'.out.bel hb1).bel (Bel.refl W1).drew⟩ (t := t) (by have h1 := HPR.out.ks; have h2 := HPR.out.vs; simp only at h1 h2; rw [← h1, ← h2]; exact ht) ht (by simpa using hkl) hBk HPR.out.ok.symm HV9.out.symm)
                have K9 := Lib.hid (And.intro r0 (And.intro r1 (And.intro r2 (And.intro r3 (And.intro n0 (And.intro n1' (And.intro n2 n3)))))))
                have j1 : (0 : Int) ≤ (j : Int) := by omega
                have j2 : (j : Int) < (S.length : Int) := by omega
                go_region_held3 (fun w' => w'.cell? ⟨wo.heap.size, 0, none⟩ = some (.bool ok) ∧ w'.cell? ⟨wo.heap.size, 1, none⟩ = some (.int .i64 val) ∧ w'.cell? ⟨wo.heap.size, 2, none⟩ = some (.slice ua ks.length uc) ∧ w'.cell? ⟨wo.heap.size, 3, none⟩ = some (.slice xa vs.length xc) ∧ w'.cell? ⟨b', j * 4, none⟩ = some (.bool B.ok) ∧ w'.cell? ⟨b', j * 4 + 1, none⟩ = some (.int .i64 B.val) ∧ w'.cell? ⟨b', j * 4 + 2, none⟩ = some k' ∧ w'.cell? ⟨b', j * 4 + 3, none⟩ = some x')
                  (first | exact k10 | go_keep)
                  (first
                    | (go_at_call 31; refine HAL.out.mono ?_; rintro e w10 ⟨rfl, hb10⟩; have k10 := cells8' ((Bel.refl W1).drew.trans hb10) K9.out))
                have hr10 : Bel w6 w10 := hb1.drew.trans hb10
                clear k10 r0 r1 r2 r3 n0 n1' n2 n3 hb10
                go_wp2
                go_roundw
                case rel => exact ⟨j + 1, by omega, by go_num, hr10⟩
                case measure => simp [intOf]; omega
        · go_wp2
          go_ret
          exact ⟨rfl, hbw6.trans hq⟩
end Go.Proofs.Ytdmjcgipfkhibaa
