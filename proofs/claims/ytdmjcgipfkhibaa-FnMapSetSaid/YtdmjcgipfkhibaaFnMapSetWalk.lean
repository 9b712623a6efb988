/- The walk of FnMapSet. -/
import Derived.Test.YtdmjcgipfkhibaaMapL5
import Derived.Deep.RegionHeld3
import Derived.Deep.DrawnRows
import Derived.Deep.Cut
namespace Go.Proofs.Ytdmjcgipfkhibaa
open Go.RowKit

attribute [local go_sem ↓] Go.wp_at_zero Go.wp_at_succ

theorem stepS_at {w : World} {a : Option Addr} {S : List Pl.StepD} (h : Steps w a S) {j : Nat} {s : Pl.StepD} (hs : S[j]? = some s) : ∃ b o k, a = some ⟨b, o, none⟩ ∧ w.cell? ⟨b, o + j * 4, none⟩ = some (.int .i64 s.kind) ∧ w.cell? ⟨b, o + j * 4 + 1, none⟩ = some (.int .i64 s.key) ∧ w.cell? ⟨b, o + j * 4 + 2, none⟩ = some (.int .i64 s.val) ∧ w.cell? ⟨b, o + j * 4 + 3, none⟩ = some k ∧ IntS w k s.list := by
  obtain ⟨b, o, ha, hc⟩ := h (by have := (List.getElem?_eq_some_iff.1 hs).1; omega)
  obtain ⟨k, h⟩ := hc j s hs
  exact ⟨b, o, k, ha, h⟩

/-- What has been kept of the script. -/
def Kep (w wr : World) (u : Value) (S : List Pl.StepD) : Prop := ∃ L : List StepT, L.map (·.1) = S.filter keepB ∧ wr.ownsRow w.heap.size 39 4 u L.length (stepCells L) ∧ ∀ p ∈ L, IntS w p.2 p.1.list
theorem Kep.skip {w wr wr' : World} {u : Value} {S : List Pl.StepD} {j : Nat} {s : Pl.StepD} (h : Kep w wr u (S.take j)) (hs : S[j]? = some s) (hk : keepB s = false) (hb : Bel wr wr') : Kep w wr' u (S.take (j + 1)) := by
  obtain ⟨L, h1, h2, h3⟩ := h
  refine ⟨L, ?_, own_bel h2 hb, h3⟩
  rw [List.take_add_one, hs, List.filter_append, h1]
  simp [hk]
theorem Kep.take {w w1 : World} {u' : Value} {S : List Pl.StepD} {j : Nat} {s : Pl.StepD} {L : List StepT} {k : Value} (h1 : L.map (·.1) = (S.take j).filter keepB) (h3 : ∀ p ∈ L, IntS w p.2 p.1.list) (hs : S[j]? = some s) (hk : keepB s = true) (hI : IntS w k s.list)
    (ho : w1.ownsRow w.heap.size 39 4 u' (L.length + 1) (stepCells L ++ [.int .i64 s.kind, .int .i64 s.key, .int .i64 s.val, k])) : Kep w w1 u' (S.take (j + 1)) := by
  refine ⟨L ++ [(s, k)], ?_, ?_, ?_⟩
  · rw [List.take_add_one, hs, List.filter_append, List.map_append, h1]
    simp [hk]
  · rw [stepCells_append, List.length_append]; exact ho
  · intro p hp
    rcases List.mem_append.1 hp with hp | hp
    · exact h3 p hp
    · simp at hp; subst hp; exact hI
theorem Kep.stepS {w wr : World} {u : Value} {S : List Pl.StepD} (h : Kep w wr u S) (hb : Bel w wr) : StepS wr u (S.filter keepB) := by
  obtain ⟨L, h1, h2, h3⟩ := h
  rw [← h1]
  exact stepS_own h2 (fun p hp => (h3 p hp).bel hb)
theorem keep_false8 {s : Pl.StepD} (h : s.kind = 8 ∨ s.kind = 6 ∨ s.kind = 3) : keepB s = false := by unfold keepB; rcases h with h | h | h <;> simp [h]
theorem keep_true {s : Pl.StepD} (h8 : ¬ s.kind = 8) (h6 : ¬ s.kind = 6) (h3 : ¬ s.kind = 3) : keepB s = true := by unfold keepB; simp [h8, h6, h3]

theorem bnn (b : Bool) : (b != b) = false := by cases b <;> rfl
theorem inn (x : Int) : (x != x) = false := by simp
theorem ne_kind {k x : Int} (h : ¬ k = x) : (k != x) = true := by simp [h]
theorem eq_kind {k x : Int} (h : k = x) : (k != x) = false := by subst h; simp

theorem Bel.drew_bel {a b c : World} (h : Bel a b) (k : Bel b.drew c) : Bel a c := h.drew.trans k
theorem ints_own' {w : World} {base : Nat} {e : TypeId} {u : Value} {n : Nat} {l : List Int} (h : w.ownsRow base e 1 u n (l.map (Value.int .i64))) (_hn : l.length = n) : IntS w u l := ints_own h
/-- make of n zeros: its run, and what it leaves. -/
theorem make_ints (w : World) (n : Nat) (hn : n ≤ 1000000) : ∃ w1, (Instr.makeSlice 33 (.int .i64 (n : Int)) (.int .i64 (n : Int))).run Try.prog w = .ok (.slice (some ⟨w.heap.size, 0, none⟩) n n) w1 ∧ IntS w1 (.slice (some ⟨w.heap.size, 0, none⟩) n n) (List.replicate n 0) ∧ Bel w w1 := by
  obtain ⟨i0, hi, hz0, hz1, hz2⟩ := eli
  obtain ⟨w1, h1, h2, h3⟩ := run_makeSlice_full (P := Try.prog) (w := w) w.heap.size 33 2 i0 (.int .i64 0) 1 Try.underlying33 hi hz0 hz1 .i64 .i64 n (by omega) (by rw [hz2]; omega) (by unfold maxLen; omega) (Nat.le_refl _)
  refine ⟨w1, h1, ?_, (Bel.refl w).grown h3 (by simp)⟩
  have e : (madeCells (Value.int .i64 0).cells (n * 1)).toList = (List.replicate n (0 : Int)).map (Value.int .i64) := by rw [Nat.mul_one]; exact made_zero n
  rw [e] at h2
  exact ints_own' h2 (by simp)

set_option maxRecDepth 100000 in
set_option maxHeartbeats 8000000 in
theorem law_FnMapSet (w : World) (n : Int) (_lo : -9223372036854775808 ≤ n) (_hi : n ≤ 9223372036854775807) (v : Value) (S : List Pl.StepD) (h : StepS w v S) :
    Calls Try.prog 11 #[.int .i64 n, v] w fun e w' => e = .returned (.bool true) ∧ Bel w w' := by
  have HH := Lib.hid h
  obtain ⟨a, c, rfl, hlc, hcm, _⟩ := h
  go_enter Try.func11, Try.ntmps11
  go_wp2_with fail
  refine (zzFits1_any _ S w HH.out).mono ?_
  rintro e w1 ⟨b1, rfl, _, hb1⟩
  cases b1
  · go_wp2
    go_ret
    exact ⟨rfl, hb1⟩
  go_wp2_with fail
  refine (fits_any n _ S w1 (HH.out.bel hb1)).mono ?_
  rintro e w2 ⟨b2, rfl, hQ, hb2⟩
  cases b2
  · clear hQ
    go_wp2
    go_ret
    exact ⟨rfl, hb1.trans hb2⟩
  obtain ⟨n1, n2, sl, ll, ft⟩ := hQ rfl
  clear hQ
  have HFT := Lib.hid ft; clear ft
  have HLL := Lib.hid ll; clear ll
  have hb12 := hb1.trans hb2
  clear hb1 hb2
  obtain ⟨n, rfl⟩ := Int.eq_ofNat_of_zero_le (a := n) (by omega)
  have HS : Hid (Steps w2 a S) := Lib.hid (by
    obtain ⟨a', c', he, _, _, hst⟩ := HH.out.bel hb12
    injection he with h1 _ _
    subst h1
    exact hst)
  have HK0 : Hid (Kep w2 (w2.alloc (.cells #[] 39)) (.slice (some ⟨w2.heap.size, 0, none⟩) 0 0) (S.take 0)) := Lib.hid ⟨[], by simp, owns_empty _ _ _ _ _ rfl (Nat.le_refl _), by simp⟩
  go_wp2
  go_loopw [5, 26] (fun u i wr => ∃ j : Nat, j ≤ S.length ∧ i = .int .i64 j ∧ Kep w2 wr u (S.take j) ∧ Bel w2 wr) (fun _ i _ => S.length - (intOf i).toNat)
  case atStart => exact ⟨0, Nat.zero_le _, rfl, HK0.out, (Bel.refl w2).alloc _⟩
  case round =>
    obtain ⟨j, hj, rfl, hK, hbel⟩ := hrel
    have HK := Lib.hid hK; clear hK HK0
    have hbs := hbel.size
    by_cases hlt : j < S.length
    · obtain ⟨s, hs⟩ : ∃ s, S[j]? = some s := ⟨_, List.getElem?_eq_getElem hlt⟩
      obtain ⟨b, o, k, rfl, c0, c1, c2, c3, hI⟩ := stepS_at HS.out hs
      have HSJ := Lib.hid hs; clear hs
      have d0 := hbel.cell c0
      have d1 := hbel.cell c1
      have d2 := hbel.cell c2
      have d3 := hbel.cell c3
      have HI := Lib.hid hI
      obtain ⟨ka, kc, rfl, _, _, _⟩ := hI
      clear c0 c1 c2 c3
      by_cases e8 : s.kind = 8
      · have m8 := eq_kind e8
        have HE := Lib.hid e8; clear e8
        go_wp2
        go_roundw
        case rel => exact ⟨j + 1, by omega, by go_num, HK.out.skip HSJ.out (keep_false8 (.inl HE.out)) ((Bel.refl wr).alloc _), hbel.alloc _⟩
        case measure => simp [intOf]; omega
      have m8 := ne_kind e8
      have HE8 := Lib.hid e8; clear e8
      by_cases e6 : s.kind = 6
      · have m6 := eq_kind e6
        have HE := Lib.hid e6; clear e6
        go_wp2
        go_roundw
        case rel => exact ⟨j + 1, by omega, by go_num, HK.out.skip HSJ.out (keep_false8 (.inr (.inl HE.out))) ((Bel.refl wr).alloc _), hbel.alloc _⟩
        case measure => simp [intOf]; omega
      have m6 := ne_kind e6
      have HE6 := Lib.hid e6; clear e6
      by_cases e3 : s.kind = 3
      · have m3 := eq_kind e3
        have HE := Lib.hid e3; clear e3
        go_wp2
        go_roundw
        case rel => exact ⟨j + 1, by omega, by go_num, HK.out.skip HSJ.out (keep_false8 (.inr (.inr HE.out))) ((Bel.refl wr).alloc _), hbel.alloc _⟩
        case measure => simp [intOf]; omega
      have m3 := ne_kind e3
      have HE3 := Lib.hid e3; clear e3
      obtain ⟨L, l1, l2, l3⟩ := HK.out
      have hLl : L.length ≤ j := by
        have h1 := congrArg List.length l1
        have h2 := List.length_filter_le keepB (S.take j)
        rw [List.length_map] at h1
        rw [List.length_take] at h2
        omega
      have HL := Lib.hid (And.intro l1 (And.intro l2 l3)); clear l1 l2 l3
      go_wp2_with (at_builtin; refine wpList_push el30 rfl (.tmp 43) (.tmp 45) rfl w2.heap.size u5 L.length _ rfl (HL.out.2.1.alloc _) [.int .i64 s.kind, .int .i64 s.key, .int .i64 s.val, .slice ka s.list.length kc] (wr.heap.size + 1) (by simp) rfl rfl (by simp [Value.oneCell']) (by omega) (by omega) (by omega) ?_)
      intro u1 w3 ho1 hg1 _
      have hb3 : Bel w2 w3 := (hbel.alloc _).grown hg1 (fun k hk => (HL.out.2.1.lt k hk).1)
      have HK3 := Lib.hid (Kep.take HL.out.1 HL.out.2.2 HSJ.out (keep_true HE8.out HE6.out HE3.out) HI.out ho1)
      clear ho1 hg1
      go_wp2
      go_roundw
      case rel => exact ⟨j + 1, by omega, by go_num, HK3.out, hb3⟩
      case measure => simp [intOf]; omega
    · have hF : StepS wr u5 (S.filter keepB) := by
        have := HK.out
        rw [List.take_of_length_le (by omega)] at this
        exact this.stepS hbel
      have HF := Lib.hid hF
      have hFl := List.length_filter_le keepB S
      have HFS : Hid (∀ s ∈ S.filter keepB, s ∈ S ∧ keepB s = true) := Lib.hid (fun s hs => List.mem_filter.1 hs)
      obtain ⟨fa, fc, rfl, _, _, _⟩ := hF
      generalize hFD : S.filter keepB = F at *
      clear hFD
      have hbw := hb12.trans hbel
      clear hbel HK HS
      go_wp2_with fail
      refine (set_any n F _ wr (by omega) HF.out (by omega) (fun s hs => by
        have h1 := HFT.out s (HFS.out s hs).1
        have h2 := HLL.out s (HFS.out s hs).1
        exact ⟨h1.1.1, h1.1.2, by omega, h1.2.2⟩)).mono ?_
      rintro e w4 ⟨uS, rfl, hA4, hb4⟩
      have HA4 := Lib.hid hA4; clear hA4
      go_wp2_with fail
      refine (map_any n F _ w4 (by omega) (HF.out.bel hb4) (by omega) (fun s hs => FitQ.stepM HFT.out s (HFS.out s hs).1)).mono ?_
      rintro e w5 ⟨uM, rfl, hB5, hb5⟩
      have hA5 := HA4.out.bel hb5
      have HAB := Lib.hid (And.intro hA5 hB5)
      have HP : Hid (∀ (i : Nat) (A B : Pl.Ans), (Pl.setRun n [] F)[i]? = some A → (Pl.mapRun (Pl.ofMap n) [] F)[i]? = some B → Pair A B) := Lib.hid (pair_run F [] [] [] Pl.Rep.nil (fun e he => by cases he) rfl (fun s hs => ⟨(HFS.out s hs).2, (HFT.out s (HFS.out s hs).1).1⟩))
      have HKL : Hid (∀ A ∈ Pl.setRun n [] F, A.keys.length ≤ 1000000) := Lib.hid (fun A hA => by
        have := setRun_keys' F [] 0 (by simp) (fun s hs => HLL.out s (HFS.out s hs).1) A hA
        omega)
      have HAl : Hid ((Pl.setRun n [] F).length = F.length) := Lib.hid (setRun_length _ _ _)
      have HBl : Hid ((Pl.mapRun (Pl.ofMap n) [] F).length = F.length) := Lib.hid (mapRun_length _ _ _)
      obtain ⟨sa, sc, rfl, _, _, _⟩ := hA5
      obtain ⟨ma, mc, rfl, _, _, _⟩ := hB5
      rw [HAl.out] at HAB ⊢
      rw [HBl.out] at HAB ⊢
      have hbw5 := (hbw.trans hb4).trans hb5
      clear hbw hb4 hb5 HA4
      have m0 : ((F.length : Int) != (F.length : Int)) = false := inn _
      go_wp2
      go_loopw [68] (fun i wq => ∃ j : Nat, j ≤ F.length ∧ i = .int .i64 j ∧ Bel w5 wq) (fun i _ => F.length - (intOf i).toNat)
      case atStart => exact ⟨0, Nat.zero_le _, rfl, Bel.refl _⟩
      case round =>
        obtain ⟨j, hj, rfl, hq⟩ := hrel
        by_cases hlt : j < F.length
        · obtain ⟨A, hA⟩ : ∃ A, (Pl.setRun n [] F)[j]? = some A := ⟨_, List.getElem?_eq_getElem (by rw [HAl.out]; exact hlt)⟩
          obtain ⟨B, hB⟩ : ∃ B, (Pl.mapRun (Pl.ofMap n) [] F)[j]? = some B := ⟨_, List.getElem?_eq_getElem (by rw [HBl.out]; exact hlt)⟩
          obtain ⟨pk, po, pv, t, pt⟩ := HP.out j A B hA hB
          have hkl := HKL.out A (List.mem_of_getElem? hA)
          obtain ⟨b, k, x, rfl, g0, g1, g2, g3, hk, hx⟩ := ansS_at (A := Pl.setRun n [] F) (by rw [HAl.out]; exact HAB.out.1.bel hq) hA
          obtain ⟨b', k', x', rfl, g0', g1', g2', g3', hk', hx'⟩ := ansS_at (A := Pl.mapRun (Pl.ofMap n) [] F) (by rw [HBl.out]; exact HAB.out.2.bel hq) hB
          rw [← po] at g0'
          rw [← pv] at g1'
          rw [← pk] at hk'
          obtain ⟨ok, val, ks, vs⟩ := A
          simp only at *
          clear pk po pv hA hB
          have HT := Lib.hid pt; clear pt
          have HI := Lib.hid hk
          have HI' := Lib.hid hk'
          obtain ⟨ka, kc, rfl, _, _, _⟩ := hk
          obtain ⟨ka', kc', rfl, _, _, _⟩ := hk'
          obtain ⟨xa, xc, rfl, _, _, _⟩ := hx
          clear hx'
          have htl : t.length ≤ 1000000 := by
            have h := HT.out
            unfold Pl.sortedOf at h
            split at h
            · have := Pl.sortedFrom_length _ _ _ h
              simp only [List.length_nil, List.length_zip] at this
              omega
            · cases h
          have j1 : (0 : Int) ≤ (j : Int) := by omega
          have j2 : (j : Int) < (F.length : Int) := by omega
          have n0 := bnn ok
          have n1' := inn val
          generalize hFl' : F.length = m at *
          go_upto_region 18 with (fail)
          have hBx := Blk.new wr 43 [.bool ok, .int .i64 val, .slice ka ks.length kc, .slice xa vs.length xc]
          have hbx := (Bel.refl wr).alloc (.cells #[.bool ok, .int .i64 val, .slice ka ks.length kc, .slice xa vs.length xc] 43)
          change Blk (wr.alloc (.cells #[.bool ok, .int .i64 val, .slice ka ks.length kc, .slice xa vs.length xc] 43)) _ _ _ at hBx
          generalize wr.alloc (.cells #[.bool ok, .int .i64 val, .slice ka ks.length kc, .slice xa vs.length xc] 43) = wA at hBx hbx ⊢
          obtain ⟨⟨y0, y1, y2, y3⟩, _⟩ := four_cells hBx
          obtain ⟨w6, hmk, hI6, hb6⟩ := make_ints wA.drew ks.length hkl
          have HB := Lib.hid hBx; clear hBx
          have k6 := hb6.cell y2
          have HI6 := Lib.hid hI6; clear hI6
          go_region_held3 (fun w' => w'.cell? ⟨wr.heap.size, 2, none⟩ = some (.slice ka ks.length kc))
            (first | exact k7 | exact k6 | go_keep)
            (first
              | (go_at_call 23; refine (sorted_any _ _ ks _ _ (HI.out.bel ((hbx.drew).trans hb6)) HI6.out hkl).mono ?_; rw [HT.out]; rintro e w7 ⟨uT, rfl, hET, hb7⟩; have HET : Hid (EntS w7 uT t) := Lib.hid hET; clear hET; have k7 := hb7.cell k6))
          have hA7 : Bel wA w7 := ((Bel.refl wA).drew_bel hb6).trans hb7
          have hr7 : Bel wr w7 := hbx.trans hA7
          have HB7 := Lib.hid (HB.out.bel hA7)
          have p0 := hr7.cell g0'
          have p1 := hr7.cell g1'
          have p2 := hr7.cell g2'
          clear k6 k7 hmk hb6 hb7 y0 y1 y2 y3 HB hA7 HI6
          obtain ⟨w8, hmk, hI8, hb8⟩ := make_ints w7.drew ks.length hkl
          have HI8 := Lib.hid hI8; clear hI8
          have k8 := hb8.cell p2
          go_upto_region 19 with (fail)
          go_region_held3 (fun w' => w'.cell? ⟨b', j * 4 + 2, none⟩ = some (.slice ka' ks.length kc'))
            (first | exact k9 | exact k8 | go_keep)
            (first
              | (go_at_call 23; refine (sorted_any _ _ ks _ _ (HI'.out.bel ((hr7.drew).trans hb8)) HI8.out hkl).mono ?_; rw [HT.out]; rintro e w9 ⟨uV, rfl, hEV, hb9⟩; have HEV : Hid (EntS w9 uV t) := Lib.hid hEV; clear hEV; have k9 := hb9.cell k8))
          have h79 : Bel w7 w9 := ((Bel.refl w7).drew_bel hb8).trans hb9
          have HET9 := Lib.hid (HET.out.bel h79)
          have hr9 : Bel wr w9 := hr7.trans h79
          obtain ⟨⟨y0, y1, y2, y3⟩, _⟩ := four_cells (HB7.out.bel h79)
          have q0 := h79.cell p0
          have q1 := h79.cell p1
          clear k8 k9 hmk hb8 hb9 HI8 p0 p1 p2 h79 hr7 HB7 HET y2 y3
          have HSM := Lib.hid (same_ents _ _ t t w9.drew (HET9.out.bel (Bel.refl w9).drew) (HEV.out.bel (Bel.refl w9).drew) htl htl)
          rw [decide_eq_true rfl] at HSM
          have k9 := And.intro y0 (And.intro y1 (And.intro q0 q1))
          go_upto_region 20 with (fail)
          go_region_held3 (fun w' => w'.cell? ⟨wr.heap.size, 0, none⟩ = some (.bool ok) ∧ w'.cell? ⟨wr.heap.size, 1, none⟩ = some (.int .i64 val) ∧ w'.cell? ⟨b', j * 4, none⟩ = some (.bool ok) ∧ w'.cell? ⟨b', j * 4 + 1, none⟩ = some (.int .i64 val))
            (first | exact k10 | go_keep)
            (first
              | (go_at_call 24; refine HSM.out.mono ?_; rintro e w10 ⟨rfl, hb10⟩; have k10 := And.intro (hb10.cell k9.1) (And.intro (hb10.cell k9.2.1) (And.intro (hb10.cell k9.2.2.1) (hb10.cell k9.2.2.2)))))
          have hr10 : Bel wr w10 := hr9.drew_bel hb10
          clear k9 k10 y0 y1 q0 q1 hb10
          go_wp2
          go_roundw
          case rel => exact ⟨j + 1, by omega, by go_num, hq.trans hr10⟩
          case measure => simp [intOf]; omega
        · go_wp2
          go_ret
          exact ⟨rfl, hbw5.trans hq⟩
end Go.Proofs.Ytdmjcgipfkhibaa
