/- The walk of FnBiasedOutside. -/
import Derived.Test.YtdmjcgipfkhibaaBia6
import Derived.Test.YtdmjcgipfkhibaaMapL3
import Derived.Deep.Cut
import Derived.Deep.CutBlock
namespace Go.Proofs.Ytdmjcgipfkhibaa
open Go.RowKit
attribute [local go_sem ↓] Go.wp_at_zero Go.wp_at_succ

/-- The script's pairs. -/
def kvOf (ks vs : List Int) : List Pl.Ent := if smallB ks vs then ks.zip vs else []
def Stp (w wc : World) (u : Value) (l : List Pl.Ent) : Prop := wc.ownsRow w.heap.size 39 4 u l.length (stepCells (l.map setT)) ∧ Bel w wc

theorem mapD_in {r : Pl.RulesD} {l d : List Pl.Ent} (h : Pl.Rep l d) (hin : ∀ e ∈ d, r.first ≤ e.1 ∧ e.1 ≤ r.last) (s : Pl.StepD) : ∀ e ∈ Pl.mapD r d s, r.first ≤ e.1 ∧ e.1 ≤ r.last := by
  intro e he
  unfold Pl.mapD at he
  split at he
  · split at he
    · have := ((rep_put h s.key s.val).mem e).2 he
      rcases (Pl.mem_put h.srt).1 this with rfl | h1
      · assumption
      · exact hin e ((h.mem e).1 h1.1)
    · exact hin e he
  · split at he
    · have := ((rep_out h s.key).mem e).2 he
      exact hin e ((h.mem e).1 (Pl.mem_without.1 this).1)
    · split at he
      · cases he
      · exact hin e he
theorem mapAt_in {r : Pl.RulesD} (hr : r.values = true) : ∀ (S : List Pl.StepD) (l d : List Pl.Ent), Pl.Rep l d → (∀ e ∈ d, r.first ≤ e.1 ∧ e.1 ≤ r.last) → (∃ l', Pl.Rep l' (Pl.mapAt r d S)) ∧ ∀ e ∈ Pl.mapAt r d S, r.first ≤ e.1 ∧ e.1 ≤ r.last
  | [], l, _, h, hin => ⟨⟨l, h⟩, hin⟩
  | s :: S, _, _, h, hin => mapAt_in hr S _ _ (map_step hr h s).2 (mapD_in h hin s)

/-- What the script answers. -/
theorem out_plain (f l x : Int) (K : List Pl.StepD) (hx : x < f ∨ l < x) : ∃ A : Pl.Ans, (∃ t, Pl.sortedOf A.keys A.vals = some t) ∧ A.keys.length ≤ K.length ∧
    (Pl.mapRun (Pl.ofBiased f l) [] (K ++ [⟨7, 0, 0, []⟩, ⟨0, x, 1, []⟩, ⟨3, x, 0, []⟩, ⟨7, 0, 0, []⟩, ⟨1, x, 0, []⟩, ⟨7, 0, 0, []⟩]))[K.length + 0]? = some A ∧
    (Pl.mapRun (Pl.ofBiased f l) [] (K ++ [⟨7, 0, 0, []⟩, ⟨0, x, 1, []⟩, ⟨3, x, 0, []⟩, ⟨7, 0, 0, []⟩, ⟨1, x, 0, []⟩, ⟨7, 0, 0, []⟩]))[K.length + 2]? = some ⟨false, 0, [], []⟩ ∧
    (Pl.mapRun (Pl.ofBiased f l) [] (K ++ [⟨7, 0, 0, []⟩, ⟨0, x, 1, []⟩, ⟨3, x, 0, []⟩, ⟨7, 0, 0, []⟩, ⟨1, x, 0, []⟩, ⟨7, 0, 0, []⟩]))[K.length + 3]? = some A ∧
    (Pl.mapRun (Pl.ofBiased f l) [] (K ++ [⟨7, 0, 0, []⟩, ⟨0, x, 1, []⟩, ⟨3, x, 0, []⟩, ⟨7, 0, 0, []⟩, ⟨1, x, 0, []⟩, ⟨7, 0, 0, []⟩]))[K.length + 5]? = some A := by
  obtain ⟨⟨l', hR⟩, hin⟩ := mapAt_in (r := Pl.ofBiased f l) rfl K [] [] Pl.Rep.nil (by simp)
  have hlen : (Pl.mapAt (Pl.ofBiased f l) [] K).length ≤ K.length := by
    have : ∀ (K : List Pl.StepD) (d : List Pl.Ent) (M : Nat), d.length ≤ M → (Pl.mapAt (Pl.ofBiased f l) d K).length ≤ M + K.length := by
      intro K
      induction K with
      | nil => intro d M h; exact h
      | cons s K ih => intro d M h; have := ih (Pl.mapD (Pl.ofBiased f l) d s) (M + 1) (mapD_length h); simp only [List.length_cons, Pl.mapAt]; omega
    have := this K [] 0 (by simp)
    omega
  have q := fun i => mscript_at (Pl.ofBiased f l) K [⟨7, 0, 0, []⟩, ⟨0, x, 1, []⟩, ⟨3, x, 0, []⟩, ⟨7, 0, 0, []⟩, ⟨1, x, 0, []⟩, ⟨7, 0, 0, []⟩] i
  generalize Pl.mapAt (Pl.ofBiased f l) [] K = d at *
  have hno : ∀ v, (x, v) ∉ d := fun v hv => by
    have h1 : f ≤ x := (hin _ hv).1
    have h2 : x ≤ l := (hin _ hv).2
    omega
  have hb := hasB_false hno
  have e0 : Pl.mapD (Pl.ofBiased f l) d ⟨0, x, 1, []⟩ = d := by
    unfold Pl.mapD
    rw [if_pos rfl, if_neg (fun hh => by have h1 : f ≤ x := hh.1; have h2 : x ≤ l := hh.2; omega)]
  have e1 : Pl.mapD (Pl.ofBiased f l) d ⟨1, x, 0, []⟩ = d := outE_not hno
  have e3 : Pl.mapA (Pl.ofBiased f l) d ⟨3, x, 0, []⟩ = ⟨false, 0, [], []⟩ := by
    show (⟨hasB d x && true, if hasB d x then getV d x else 0, [], []⟩ : Pl.Ans) = _
    rw [hb]; rfl
  have r : Pl.mapRun (Pl.ofBiased f l) d [⟨7, 0, 0, []⟩, ⟨0, x, 1, []⟩, ⟨3, x, 0, []⟩, ⟨7, 0, 0, []⟩, ⟨1, x, 0, []⟩, ⟨7, 0, 0, []⟩] =
      [⟨false, 0, d.map (·.1), d.map (·.2)⟩, Pl.ans0, ⟨false, 0, [], []⟩, ⟨false, 0, d.map (·.1), d.map (·.2)⟩, Pl.ans0, ⟨false, 0, d.map (·.1), d.map (·.2)⟩] := by
    have f7 : ∀ d, Pl.mapD (Pl.ofBiased f l) d ⟨7, 0, 0, []⟩ = d := fun _ => rfl
    have f3 : ∀ d, Pl.mapD (Pl.ofBiased f l) d ⟨3, x, 0, []⟩ = d := fun _ => rfl
    simp only [Pl.mapRun, f7, f3, e0, e1, e3]
    rfl
  simp only [r] at q
  exact ⟨(⟨false, 0, d.map (fun e : Pl.Ent => e.1), d.map (fun e : Pl.Ent => e.2)⟩ : Pl.Ans), ⟨_, sorted_rep hR⟩, by simpa using hlen, q 0, q 2, q 3, q 5⟩

/-- Cells behind a call. -/
theorem cells14 {w w' : World} {p0 p1 p2 p3 p4 p5 p6 p7 p8 p9 p10 p11 p12 p13 : Addr} {v0 v1 v2 v3 v4 v5 v6 v7 v8 v9 v10 v11 v12 v13 : Value} (hb : Bel w w') (h : w.cell? p0 = some v0 ∧ w.cell? p1 = some v1 ∧ w.cell? p2 = some v2 ∧ w.cell? p3 = some v3 ∧ w.cell? p4 = some v4 ∧ w.cell? p5 = some v5 ∧ w.cell? p6 = some v6 ∧ w.cell? p7 = some v7 ∧ w.cell? p8 = some v8 ∧ w.cell? p9 = some v9 ∧ w.cell? p10 = some v10 ∧ w.cell? p11 = some v11 ∧ w.cell? p12 = some v12 ∧ w.cell? p13 = some v13) :
    w'.cell? p0 = some v0 ∧ w'.cell? p1 = some v1 ∧ w'.cell? p2 = some v2 ∧ w'.cell? p3 = some v3 ∧ w'.cell? p4 = some v4 ∧ w'.cell? p5 = some v5 ∧ w'.cell? p6 = some v6 ∧ w'.cell? p7 = some v7 ∧ w'.cell? p8 = some v8 ∧ w'.cell? p9 = some v9 ∧ w'.cell? p10 = some v10 ∧ w'.cell? p11 = some v11 ∧ w'.cell? p12 = some v12 ∧ w'.cell? p13 = some v13 := by
  obtain ⟨a0, a1, a2, a3, a4, a5, a6, a7, a8, a9, a10, a11, a12, a13⟩ := h
  exact ⟨hb.cell a0, hb.cell a1, hb.cell a2, hb.cell a3, hb.cell a4, hb.cell a5, hb.cell a6, hb.cell a7, hb.cell a8, hb.cell a9, hb.cell a10, hb.cell a11, hb.cell a12, hb.cell a13⟩
set_option maxRecDepth 100000 in
set_option maxHeartbeats 4000000 in
theorem law_FnBiasedOutside (w : World) (f : Int) (_lo : -9223372036854775808 ≤ f) (_hi : f ≤ 9223372036854775807) (l : Int) (_lo' : -9223372036854775808 ≤ l) (_hi' : l ≤ 9223372036854775807) (v : Value) (ks : List Int) (h : IntS w v ks) (u : Value) (vs : List Int) (h' : IntS w u vs) (x : Int) (_lo2 : -9223372036854775808 ≤ x) (_hi2 : x ≤ 9223372036854775807) :
    Calls Try.prog 9 #[.int .i64 f, .int .i64 l, v, u, .int .i64 x] w fun e w' => e = .returned (.bool true) ∧ Bel w w' := by
  have HH := Lib.hid h
  have HH' := Lib.hid h'
  obtain ⟨a, c, rfl, hlc, hcm, _⟩ := h
  obtain ⟨a', c', rfl, hlc', hcm', _⟩ := h'
  by_cases hl1 : 2147483647 < ks.length
  · go_enter Try.func9, Try.ntmps9
    go_wp2
    go_ret
    exact ⟨rfl, Bel.refl w⟩
  by_cases hl2 : 2147483647 < vs.length
  · go_enter Try.func9, Try.ntmps9
    go_wp2
    go_ret
    exact ⟨rfl, Bel.refl w⟩
  have hb0 := (Bel.refl w).alloc (.cells #[] 39)
  have HSM := Lib.hid (small_any _ _ ks vs _ (HH.out.bel hb0) (HH'.out.bel hb0))
  have HO0 : Hid ((w.alloc (.cells #[] 39)).ownsRow w.heap.size 39 4 (.slice (some ⟨w.heap.size, 0, none⟩) 0 0) 0 []) := Lib.hid (owns_empty _ _ _ _ _ rfl (Nat.le_refl _))
  go_enter Try.func9, Try.ntmps9
  go_wp2_with fail
  refine HSM.out.mono ?_
  rintro e w1 ⟨rfl, rfl⟩
  go_upto_if 28 with (fail)
  go_cut [11] (fun u wc => Stp w wc u (kvOf ks vs))
  case first =>
    cases hs : smallB ks vs
    · have HSF : Hid (kvOf ks vs = []) := Lib.hid (by unfold kvOf; rw [hs]; rfl)
      clear hs
      go_wp2
      go_meet
      rw [HSF.out]
      exact ⟨HO0.out, hb0⟩
    · have HSF : Hid (kvOf ks vs = ks.zip vs) := Lib.hid (by unfold kvOf; rw [hs]; rfl)
      have HKV := Lib.hid (smallB_iff.1 hs).1
      clear hs
      go_wp2_with fail
      refine (sets_any (HH.out.bel hb0) (HH'.out.bel hb0) HKV.out (by omega)).mono ?_
      rintro e w2 ⟨u2, rfl, ho2, hb2⟩
      have HO2 := Lib.hid ho2; clear ho2
      go_wp2
      go_meet
      rw [HSF.out]
      refine ⟨?_, hb0.trans hb2⟩
      rw [zip_len HKV.out]
      exact own_base HO2.out (fun q hq => by have := (HO2.out.lt q hq).1; simp at this; omega)
  case rest =>
    obtain ⟨ho, hbc⟩ := hcut
    clear HO0 HSM hb0
    have HO := Lib.hid ho
    have hS : StepS wc u11 ((kvOf ks vs).map setS) := by
      have := sscript_own (T := []) (by simpa [stepCells] using ho) (by simp)
      simpa using this
    obtain ⟨ua, uc, rfl, _, hucm, _⟩ := own_form ho
    have HS := Lib.hid hS; clear hS ho
    generalize hkv : kvOf ks vs = kv at *
    clear hkv
    go_wp2_with fail
    refine (between_any f l _ _ wc HS.out).mono ?_
    rintro e w2 ⟨b2, rfl, hQ, hb2⟩
    have hb12 := hbc.trans hb2
    cases b2
    · clear hQ
      go_wp2
      go_ret
      exact ⟨rfl, hb12⟩
    obtain ⟨f0, fl, l1, n1, sl, st⟩ := hQ rfl
    clear hQ
    rw [List.length_map] at sl
    have HST := Lib.hid st; clear st
    by_cases x0 : x < 0
    · go_wp2
      go_ret
      exact ⟨rfl, hb12⟩
    by_cases x1 : 1099511627776 < x
    · go_wp2
      go_ret
      exact ⟨rfl, hb12⟩
    by_cases x2 : f ≤ x ∧ x ≤ l
    · obtain ⟨x3, x4⟩ := x2
      go_wp2
      go_ret
      exact ⟨rfl, hb12⟩
    have x5 : x < f ∨ l < x := by omega
    have hO2 := own_bel HO.out hb2
    clear x2 HO hb2 hbc
    have HX5 := Lib.hid x5
    obtain ⟨A, ⟨t, ht⟩, hAk, a0, a2, a3, a5⟩ := out_plain f l x (kv.map setS) x5
    rw [List.length_map] at hAk a0 a2 a3 a5
    have HA := Lib.hid (And.intro ht (And.intro hAk (And.intro a0 (And.intro a2 (And.intro a3 a5)))))
    clear ht hAk a0 a2 a3 a5 x5
    have HO2 := Lib.hid hO2; clear hO2
    obtain ⟨n, hn⟩ := Int.eq_ofNat_of_zero_le (a := l - f + 1) (by omega)
    have hl : f + (n : Int) - 1 = l := by omega
    have hn2 : n ≤ 2000 := by omega
    have hn0 : 0 < n := by omega
    have HHL := Lib.hid hl
    clear hn hl
    rcases (by have := HX5.out; omega : x < f ∨ (f ≤ x ∧ l < x)) with x2 | ⟨x2, x3⟩
    all_goals
      go_wp2_with fail
      refine (step_any 7 _).mono ?_
      rintro e w3 ⟨rfl, hb3⟩
      have hs3 := (hb12.trans hb3).size
      have hBk := Blk.new (((w3.alloc (.cells #[.int .i64 7, .int .i64 0, .int .i64 0, .slice none 0 0] 39)).alloc (.cells #[.int .i64 0, .int .i64 x, .int .i64 1, .slice none 0 0] 39)).alloc (.cells #[.int .i64 3, .int .i64 x, .int .i64 0, .slice none 0 0] 39)) 39 [.int .i64 7, .int .i64 0, .int .i64 0, .slice none 0 0, .int .i64 0, .int .i64 x, .int .i64 1, .slice none 0 0, .int .i64 3, .int .i64 x, .int .i64 0, .slice none 0 0, .int .i64 7, .int .i64 0, .int .i64 0, .slice none 0 0, .int .i64 1, .int .i64 x, .int .i64 0, .slice none 0 0, .int .i64 7, .int .i64 0, .int .i64 0, .slice none 0 0]
      rw [World.size_alloc, World.size_alloc, World.size_alloc] at hBk
      have HBk := Lib.hid hBk; clear hBk
      go_wp2_with (at_builtin; refine wpList_app el30 _ rfl (.tmp 62) (.tmp 70) rfl w.heap.size _ kv.length (stepCells (kv.map setT)) rfl ((((own_bel HO2.out hb3).alloc _).alloc _).alloc _ |>.alloc _) (w3.heap.size + 1 + 1 + 1) 6 6 [.int .i64 7, .int .i64 0, .int .i64 0, .slice none 0 0, .int .i64 0, .int .i64 x, .int .i64 1, .slice none 0 0, .int .i64 3, .int .i64 x, .int .i64 0, .slice none 0 0, .int .i64 7, .int .i64 0, .int .i64 0, .slice none 0 0, .int .i64 1, .int .i64 x, .int .i64 0, .slice none 0 0, .int .i64 7, .int .i64 0, .int .i64 0, .slice none 0 0] rfl HBk.out rfl (by simp [Value.oneCell']) (by omega) (by omega) (by simp; omega) ?_)
      intro u5 w5 ho5 hg5 _
      have hb5 : Bel w w5 := (((((hb12.trans hb3).alloc _).alloc _).alloc _).alloc _).grown hg5 (fun k hk => (HO2.out.lt k hk).1)
      have HS5 := Lib.hid (sscript_own (T := [⟨7, 0, 0, []⟩, ⟨0, x, 1, []⟩, ⟨3, x, 0, []⟩, ⟨7, 0, 0, []⟩, ⟨1, x, 0, []⟩, ⟨7, 0, 0, []⟩]) ho5 (by simp))
      clear ho5 hg5 hb12 hb3
      have HBC := Lib.hid (bia_any f n _ u5 w5 (by omega) hn0 f0 (by omega) HS5.out (by simp; omega) (fun s hs => by
        rcases List.mem_append.1 hs with hs | hs
        · exact HST.out s hs
        · have : KeyIn 0 := ⟨by decide, by decide⟩
          have : Val32 0 := ⟨by decide, by decide⟩
          have : Val32 1 := ⟨by decide, by decide⟩
          have : KeyIn x := ⟨by omega, by omega⟩
          simp at hs
          rcases hs with rfl | rfl | rfl | rfl | rfl | rfl <;> exact ⟨by assumption, by assumption⟩))
      rw [HHL.out] at HBC
      go_wp2_with fail
      refine HBC.out.mono ?_
      rintro e w6 ⟨u6, rfl, hA6, hb6⟩
      have hbw6 := hb5.trans hb6
      clear hb5 hb6 HBC HS5
      have hAl : (Pl.mapRun (Pl.ofBiased f l) [] (kv.map setS ++ [⟨7, 0, 0, []⟩, ⟨0, x, 1, []⟩, ⟨3, x, 0, []⟩, ⟨7, 0, 0, []⟩, ⟨1, x, 0, []⟩, ⟨7, 0, 0, []⟩])).length = kv.length + 6 := by rw [mapRun_length]; simp
      obtain ⟨ht, hAk, a0, a2, a3, a5⟩ := HA.out
      obtain ⟨sa, sc, rfl, _, _, _⟩ := id hA6
      obtain ⟨b, k, y, rfl, g0, g1, g2, g3, hk, hy⟩ := ansS_at hA6 a0
      obtain ⟨b', _, _, hbb, e0, e1, _⟩ := ansS_at hA6 a2
      cases hbb
      obtain ⟨b', k3, y3, hbb, p0, p1, p2, p3, hk3, hy3⟩ := ansS_at hA6 a3
      cases hbb
      obtain ⟨b', k5, y5, hbb, q0, q1, q2, q3, hk5, hy5⟩ := ansS_at hA6 a5
      cases hbb
      have HAL1 := Lib.hid (alike_right (v := ansV A k y) (u := ansV A k3 y3) ⟨k, y, rfl, hk.bel (Bel.refl w6).drew, hy.bel (Bel.refl w6).drew⟩ ⟨k3, y3, rfl, hk3.bel (Bel.refl w6).drew, hy3.bel (Bel.refl w6).drew⟩ ht ht (by omega) (by omega) rfl rfl)
      have HAL2 := Lib.hid (fun (W : World) (hW : Bel w6.drew W) => alike_right (v := ansV A k y) (u := ansV A k5 y5) ⟨k, y, rfl, (hk.bel (Bel.refl w6).drew).bel hW, (hy.bel (Bel.refl w6).drew).bel hW⟩ ⟨k5, y5, rfl, (hk5.bel (Bel.refl w6).drew).bel hW, (hy5.bel (Bel.refl w6).drew).bel hW⟩ ht ht (by omega) (by omega) rfl rfl)
      rw [hAl]
      clear hA6 a0 a2 a3 a5 hAl ht hAk HA
      obtain ⟨ok, val, ks', vs'⟩ := A
      simp only [Nat.add_zero] at *
      obtain ⟨ka, kc, rfl, _, _, _⟩ := hk
      obtain ⟨xa, xc, rfl, _, _, _⟩ := hy
      obtain ⟨ka3, kc3, rfl, _, _, _⟩ := hk3
      obtain ⟨xa3, xc3, rfl, _, _, _⟩ := hy3
      obtain ⟨ka5, kc5, rfl, _, _, _⟩ := hk5
      obtain ⟨xa5, xc5, rfl, _, _, _⟩ := hy5
      have k6 : w6.cell? ⟨b, (kv.length + 2) * 4, none⟩ = some (.bool false) ∧ w6.cell? ⟨b, (kv.length + 2) * 4 + 1, none⟩ = some (.int .i64 0) ∧ w6.cell? ⟨b, kv.length * 4, none⟩ = some (.bool ok) ∧ w6.cell? ⟨b, kv.length * 4 + 1, none⟩ = some (.int .i64 val) ∧ w6.cell? ⟨b, kv.length * 4 + 2, none⟩ = some (.slice ka ks'.length kc) ∧ w6.cell? ⟨b, kv.length * 4 + 3, none⟩ = some (.slice xa vs'.length xc) ∧ w6.cell? ⟨b, (kv.length + 3) * 4, none⟩ = some (.bool ok) ∧ w6.cell? ⟨b, (kv.length + 3) * 4 + 1, none⟩ = some (.int .i64 val) ∧ w6.cell? ⟨b, (kv.length + 3) * 4 + 2, none⟩ = some (.slice ka3 ks'.length kc3) ∧ w6.cell? ⟨b, (kv.length + 3) * 4 + 3, none⟩ = some (.slice xa3 vs'.length xc3) ∧ w6.cell? ⟨b, (kv.length + 5) * 4, none⟩ = some (.bool ok) ∧ w6.cell? ⟨b, (kv.length + 5) * 4 + 1, none⟩ = some (.int .i64 val) ∧ w6.cell? ⟨b, (kv.length + 5) * 4 + 2, none⟩ = some (.slice ka5 ks'.length kc5) ∧ w6.cell? ⟨b, (kv.length + 5) * 4 + 3, none⟩ = some (.slice xa5 vs'.length xc5) := ⟨e0, e1, g0, g1, g2, g3, p0, p1, p2, p3, q0, q1, q2, q3⟩
      clear e0 e1 g0 g1 g2 g3 p0 p1 p2 p3 q0 q1 q2 q3
      have k6' := k6
      obtain ⟨e0, e1, g0, g1, g2, g3, p0, p1, p2, p3, q0, q1, q2, q3⟩ := k6'
      have K6 := Lib.hid k6; clear k6
      have i2 : IntKind.i64.wrap ((kv.length : Int) + 2) = (kv.length : Int) + 2 := IntWalk.i64_in _ (by omega)
      have i3 : IntKind.i64.wrap ((kv.length : Int) + 3) = (kv.length : Int) + 3 := IntWalk.i64_in _ (by omega)
      have i5 : IntKind.i64.wrap ((kv.length : Int) + 5) = (kv.length : Int) + 5 := IntWalk.i64_in _ (by omega)
      have i6 : IntKind.i64.wrap ((kv.length : Int) + 6) = (kv.length : Int) + 6 := IntWalk.i64_in _ (by omega)
      have m6 : (((kv.length + 6 : Nat) : Int) == (kv.length : Int) + 6) = true := by simp
      have j0 : (0 : Int) ≤ (kv.length : Int) + 2 := by omega
      have j1 : (kv.length : Int) + 2 < ((kv.length + 6 : Nat) : Int) := by omega
      have j2 : (0 : Int) ≤ (kv.length : Int) + 3 := by omega
      have j3 : (kv.length : Int) + 3 < ((kv.length + 6 : Nat) : Int) := by omega
      have j4 : (0 : Int) ≤ (kv.length : Int) + 5 := by omega
      have j5 : (kv.length : Int) + 5 < ((kv.length + 6 : Nat) : Int) := by omega
      have j6 : (kv.length : Int) < (kv.length : Int) + 6 := by omega
      have j7 : ((kv.length : Int) + 2).toNat = kv.length + 2 := by omega
      have j8 : ((kv.length : Int) + 3).toNat = kv.length + 3 := by omega
      have j9 : ((kv.length : Int) + 5).toNat = kv.length + 5 := by omega
      go_upto_region 12 with (fail)
      go_region_held3 (fun w' => w'.cell? ⟨b, (kv.length + 2) * 4, none⟩ = some (.bool false) ∧ w'.cell? ⟨b, (kv.length + 2) * 4 + 1, none⟩ = some (.int .i64 0) ∧ w'.cell? ⟨b, kv.length * 4, none⟩ = some (.bool ok) ∧ w'.cell? ⟨b, kv.length * 4 + 1, none⟩ = some (.int .i64 val) ∧ w'.cell? ⟨b, kv.length * 4 + 2, none⟩ = some (.slice ka ks'.length kc) ∧ w'.cell? ⟨b, kv.length * 4 + 3, none⟩ = some (.slice xa vs'.length xc) ∧ w'.cell? ⟨b, (kv.length + 3) * 4, none⟩ = some (.bool ok) ∧ w'.cell? ⟨b, (kv.length + 3) * 4 + 1, none⟩ = some (.int .i64 val) ∧ w'.cell? ⟨b, (kv.length + 3) * 4 + 2, none⟩ = some (.slice ka3 ks'.length kc3) ∧ w'.cell? ⟨b, (kv.length + 3) * 4 + 3, none⟩ = some (.slice xa3 vs'.length xc3) ∧ w'.cell? ⟨b, (kv.length + 5) * 4, none⟩ = some (.bool ok) ∧ w'.cell? ⟨b, (kv.length + 5) * 4 + 1, none⟩ = some (.int .i64 val) ∧ w'.cell? ⟨b, (kv.length + 5) * 4 + 2, none⟩ = some (.slice ka5 ks'.length kc5) ∧ w'.cell? ⟨b, (kv.length + 5) * 4 + 3, none⟩ = some (.slice xa5 vs'.length xc5))
        (first | exact k8 | exact k7 | go_keep)
        (first
          | (go_at_call 31; ((with_reducible refine HAL1.out.mono ?_); rintro e w7 ⟨rfl, hb7⟩; have k7 := cells14 ((Bel.refl w6).drew.trans hb7) K6.out))
          | (go_at_call 31; refine (HAL2.out _ hb7).mono ?_; rintro e w8 ⟨rfl, hb8⟩; have k8 := cells14 hb8 k7))
      have hr8 : Bel w w8 := hbw6.trans ((Bel.refl w6).drew.trans (hb7.trans hb8))
      clear k7 k8 hb7 hb8 e0 e1 g0 g1 g2 g3 p0 p1 p2 p3 q0 q1 q2 q3
      go_wp2
      go_ret
      exact ⟨rfl, hr8⟩
end Go.Proofs.Ytdmjcgipfkhibaa
