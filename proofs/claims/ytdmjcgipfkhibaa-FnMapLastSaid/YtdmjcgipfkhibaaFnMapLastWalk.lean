/- The walk of FnMapLast. -/
import Derived.Test.YtdmjcgipfkhibaaMapL4
import Derived.Deep.RegionHeld3
import Derived.Deep.DrawnRows
import Derived.Deep.Cut
namespace Go.Proofs.Ytdmjcgipfkhibaa
open Go.RowKit

attribute [local go_sem ↓] Go.wp_at_zero Go.wp_at_succ

/-- The value that came last. -/
def lastV (x : Int) (l : List Pl.Ent) : Int := getV l.reverse x
theorem lastV_hit {k x : Int} (l : List Pl.Ent) (v : Int) (h : k = x) : lastV x (l ++ [(k, v)]) = v := by
  subst h; simp [lastV, getV]
theorem lastV_miss {k x : Int} (l : List Pl.Ent) (v : Int) (h : ¬ k = x) : lastV x (l ++ [(k, v)]) = lastV x l := by
  simp [lastV, getV, h]
theorem hasB_hit {k x : Int} (l : List Pl.Ent) (v : Int) (h : k = x) : hasB (l ++ [(k, v)]) x = true := by
  subst h; simp [hasB]
theorem hasB_miss {k x : Int} (l : List Pl.Ent) (v : Int) (h : ¬ k = x) : hasB (l ++ [(k, v)]) x = hasB l x := by
  simp [hasB, h]
theorem putE_has (d : List Pl.Ent) (k v x : Int) : hasB (putE d k v) x = (decide (k = x) || hasB d x) := by
  unfold putE
  cases hf : d.findIdx? (fun e => decide (e.1 = k)) with
  | none => simp [hasB, Bool.or_comm]
  | some i =>
    obtain ⟨hi, hp, _⟩ := List.findIdx?_eq_some_iff_getElem.1 hf
    have hk : d[i].1 = k := by simpa using hp
    rw [Bool.eq_iff_iff]
    simp only [Bool.or_eq_true, decide_eq_true_eq, hasB_iff]
    constructor
    · rintro ⟨u, hu⟩
      rcases List.mem_or_eq_of_mem_set hu with h | h
      · exact .inr ⟨u, h⟩
      · cases h; exact .inl rfl
    · rintro (rfl | ⟨u, hu⟩)
      · exact ⟨v, List.mem_set hi _⟩
      · by_cases hkx : k = x
        · subst hkx; exact ⟨v, List.mem_set hi _⟩
        · obtain ⟨j, hj, hje⟩ := List.getElem_of_mem hu
          refine ⟨u, ?_⟩
          have hne : i ≠ j := fun e => hkx (by subst e; rw [← hk, hje])
          have : (d.set i (k, v))[j]'(by rw [List.length_set]; exact hj) = (x, u) := by rw [List.getElem_set_ne hne]; exact hje
          rw [← this]; exact List.getElem_mem _
theorem putE_get {d : List Pl.Ent} {l : List Pl.Ent} (h : Pl.Rep l d) (k v x : Int) : getV (putE d k v) x = if k = x then v else getV d x := by
  have hr := rep_put h k v
  rw [← valOf_getV hr, ← valOf_getV h]
  by_cases hkx : k = x
  · subst hkx
    rw [if_pos rfl]
    exact (Pl.valOf_mem hr.srt ((Pl.mem_put h.srt).2 (.inl rfl))).2
  · rw [if_neg hkx]
    cases ht : Pl.there l x
    · rw [Pl.valOf_not ht, Pl.valOf_not]
      cases ht' : Pl.there (Pl.put l k v) x
      · rfl
      · obtain ⟨u, hu⟩ := (Pl.there_iff hr.srt x).1 ht'
        rcases (Pl.mem_put h.srt).1 hu with hu | hu
        · cases hu; exact absurd rfl hkx
        · exact absurd hu.1 (Pl.not_there h.srt ht u)
    · obtain ⟨u, hu⟩ := (Pl.there_iff h.srt x).1 ht
      rw [(Pl.valOf_mem h.srt hu).2]
      exact (Pl.valOf_mem hr.srt ((Pl.mem_put h.srt).2 (.inr ⟨hu, fun e => hkx e.symm⟩))).2
theorem getV_append (a b : List Pl.Ent) (x : Int) : getV (a ++ b) x = if hasB a x then getV a x else getV b x := by
  unfold getV
  rw [List.find?_append]
  cases hf : a.find? (fun e => decide (e.1 = x)) with
  | none =>
    have : hasB a x = false := hasB_false (fun v hv => by have := List.find?_eq_none.1 hf _ hv; simp at this)
    rw [this]; rfl
  | some e =>
    have h1 : e.1 = x := by simpa using List.find?_some hf
    have : hasB a x = true := hasB_iff.2 ⟨e.2, by rw [← h1]; exact List.mem_of_find?_eq_some hf⟩
    rw [this]; rfl
theorem hasB_reverse (a : List Pl.Ent) (x : Int) : hasB a.reverse x = hasB a x := by unfold hasB; rw [List.any_reverse]
theorem lastV_cons (e : Pl.Ent) (r : List Pl.Ent) (x : Int) : lastV x (e :: r) = if hasB r x then lastV x r else if e.1 = x then e.2 else 0 := by
  unfold lastV
  rw [List.reverse_cons, getV_append, hasB_reverse]
  congr 1
  by_cases h : e.1 = x <;> simp [getV, h]
theorem hasB_cons (e : Pl.Ent) (r : List Pl.Ent) (x : Int) : hasB (e :: r) x = (decide (e.1 = x) || hasB r x) := rfl
/-- Behind the script of sets: what is there, and the value. -/
theorem sets_last' {r : Pl.RulesD} (x : Int) : ∀ (l m d : List Pl.Ent), (∀ e ∈ l, r.first ≤ e.1 ∧ e.1 ≤ r.last) → Pl.Rep m d → hasB (Pl.mapAt r d (l.map setS)) x = (hasB l x || hasB d x) ∧ getV (Pl.mapAt r d (l.map setS)) x = if hasB l x then lastV x l else getV d x
  | [], _, d, _, _ => ⟨by simp [Pl.mapAt, hasB], by simp [Pl.mapAt, hasB]⟩
  | e :: l, m, d, hin, h => by
    have e1 : Pl.mapAt r d ((e :: l).map setS) = Pl.mapAt r (putE d e.1 e.2) (l.map setS) := by
      show Pl.mapAt r (Pl.mapD r d (setS e)) _ = _
      unfold Pl.mapD
      rw [if_pos rfl, if_pos (hin e (by simp))]
    obtain ⟨i1, i2⟩ := sets_last' (r := r) x l _ _ (fun e' he' => hin e' (by simp [he'])) (rep_put h e.1 e.2)
    rw [e1, i1, i2, putE_has, putE_get h, lastV_cons, hasB_cons]
    constructor
    · cases hasB l x <;> cases hasB d x <;> simp
    · by_cases hk : e.1 = x <;> cases hasB l x <;> simp [hk]
theorem sets_last {n : Nat} (x : Int) (l : List Pl.Ent) (hin : ∀ e ∈ l, 0 ≤ e.1 ∧ e.1 < (n : Int)) : hasB (Pl.mapAt (Pl.ofMap n) [] (l.map setS)) x = hasB l x ∧ getV (Pl.mapAt (Pl.ofMap n) [] (l.map setS)) x = lastV x l := by
  obtain ⟨h1, h2⟩ := sets_last' (r := Pl.ofMap n) x l [] [] (fun e' he' => by have := hin e' he'; exact ⟨this.1, by show e'.1 ≤ (n : Int) - 1; omega⟩) Pl.Rep.nil
  refine ⟨by rw [h1]; simp [hasB], ?_⟩
  rw [h2]
  cases hb : hasB l x
  · simp only [Bool.false_eq_true, if_false]
    unfold lastV
    rw [getV_not, getV_not]
    · intro v hv; rw [hasB_iff.2 ⟨v, List.mem_reverse.1 hv⟩] at hb; cases hb
    · simp
  · rfl

theorem eqb_self' (b : Bool) : (b == b) = true := by cases b <;> rfl
set_option maxRecDepth 100000 in
set_option maxHeartbeats 4000000 in
theorem mlast_in (n : Nat) (v u : Value) (ks vs : List Int) (x0 : Int) (w : World) (h : IntS w v ks) (h' : IntS w u vs) (hp : plainB n ks = true) (hs : smallB ks vs = true) (hx0 : 0 ≤ x0) (hx1 : x0 < n) :
    Calls Try.prog 5 #[.int .i64 n, v, u, .int .i64 x0] w fun e w' => e = .returned (.bool true) ∧ Bel w w' := by
  have HP := Lib.hid (plain_any n v ks w h)
  have HS := Lib.hid (small_any v u ks vs w h h')
  rw [hp] at HP
  rw [hs] at HS
  obtain ⟨p0, p1, p2, p3⟩ := plainB_iff.1 hp
  obtain ⟨s0, s1⟩ := smallB_iff.1 hs
  clear hp hs
  have HH := Lib.hid h
  have HH' := Lib.hid h'
  obtain ⟨a, c, rfl, hlc, hcm, hcell⟩ := h
  obtain ⟨a', c', rfl, hlc', hcm', hcell'⟩ := h'
  have HC := Lib.hid hcell; clear hcell
  have HC' := Lib.hid hcell'; clear hcell'
  have HP3 := Lib.hid p3; clear p3
  have HS1 := Lib.hid s1; clear s1
  have HS0 := Lib.hid s0
  have hkv1 : vs.length ≤ ks.length := by omega
  have hkv2 : ks.length ≤ vs.length := by omega
  clear s0
  have y0 : ¬ x0 < 0 := by omega
  have y1 : ¬ (n : Int) ≤ x0 := by omega
  go_enter Try.func5, Try.ntmps5
  go_wp2_with fail
  refine HP.out.mono ?_
  rintro e w' ⟨rfl, rfl⟩
  go_wp2_with fail
  refine HS.out.mono ?_
  rintro e w' ⟨rfl, rfl⟩
  go_wp2
  go_loop [9, 10, 46] (fun dv tb i => ∃ j : Nat, j ≤ ks.length ∧ i = .int .i64 j ∧ dv = .int .i64 (lastV x0 ((ks.zip vs).take j)) ∧ tb = .bool (hasB ((ks.zip vs).take j) x0)) (fun _ _ i => ks.length - (intOf i).toNat)
  case atStart => exact ⟨0, Nat.zero_le _, rfl, rfl, rfl⟩
  case round =>
    obtain ⟨j, hj, rfl, rfl, rfl⟩ := hrel
    by_cases hlt : j < ks.length
    · obtain ⟨b, o, rfl, hgd⟩ := HC.out (by omega)
      obtain ⟨b', o', rfl, hgd'⟩ := HC'.out (by omega)
      obtain ⟨x, he⟩ : ∃ e, ks[j]? = some e := ⟨_, List.getElem?_eq_getElem hlt⟩
      obtain ⟨y, he'⟩ : ∃ e, vs[j]? = some e := ⟨_, List.getElem?_eq_getElem (by omega)⟩
      have hc0 := hgd j _ he
      have hc1 := hgd' j _ he'
      have HE : Hid ((ks.zip vs).take (j + 1) = (ks.zip vs).take j ++ [(x, y)]) := Lib.hid (by rw [List.take_add_one, zip_get he he']; rfl)
      clear hgd he hgd' he'
      by_cases hxx : x = x0
      · have HN := Lib.hid (And.intro (lastV_hit ((ks.zip vs).take j) y hxx) (hasB_hit ((ks.zip vs).take j) y hxx))
        have hq : (x == x0) = true := by simpa using hxx
        clear hxx
        go_wp2
        go_round
        case rel => exact ⟨j + 1, by omega, by go_num, by rw [HE.out, HN.out.1], by rw [HE.out, HN.out.2]⟩
        case measure => simp [intOf]; omega
      · have HN := Lib.hid (And.intro (lastV_miss ((ks.zip vs).take j) y hxx) (hasB_miss ((ks.zip vs).take j) y hxx))
        have hq : (x == x0) = false := by simpa using hxx
        clear hxx
        go_wp2
        go_round
        case rel => exact ⟨j + 1, by omega, by go_num, by rw [HE.out, HN.out.1], by rw [HE.out, HN.out.2]⟩
        case measure => simp [intOf]; omega
    · obtain rfl : j = ks.length := by omega
      clear HC HC'
      have HTK : Hid ((ks.zip vs).take ks.length = ks.zip vs) := Lib.hid (List.take_of_length_le (by rw [zip_len HS0.out]; exact Nat.le_refl _))
      rw [HTK.out]
      generalize hdv : lastV x0 (ks.zip vs) = dv
      generalize htb : hasB (ks.zip vs) x0 = tb
      have HDV := Lib.hid (And.intro hdv htb); clear hdv htb
      go_upto_region 13 with (fail)
      have hB := (Blk.new w 39 [.int .i64 3, .int .i64 x0, .int .i64 0, .slice none 0 0]).alloc (.cells #[.int .i64 2, .int .i64 x0, .int .i64 0, .slice none 0 0] 39)
      have hB' := Blk.new (w.alloc (.cells #[.int .i64 3, .int .i64 x0, .int .i64 0, .slice none 0 0] 39)) 39 [.int .i64 2, .int .i64 x0, .int .i64 0, .slice none 0 0]
      rw [World.size_alloc] at hB'
      have hbw0 := ((Bel.refl w).alloc (.cells #[.int .i64 3, .int .i64 x0, .int .i64 0, .slice none 0 0] 39)).alloc (.cells #[.int .i64 2, .int .i64 x0, .int .i64 0, .slice none 0 0] 39)
      change Blk ((w.alloc (.cells #[.int .i64 3, .int .i64 x0, .int .i64 0, .slice none 0 0] 39)).alloc (.cells #[.int .i64 2, .int .i64 x0, .int .i64 0, .slice none 0 0] 39)) _ _ _ at hB
      change Blk ((w.alloc (.cells #[.int .i64 3, .int .i64 x0, .int .i64 0, .slice none 0 0] 39)).alloc (.cells #[.int .i64 2, .int .i64 x0, .int .i64 0, .slice none 0 0] 39)) _ _ _ at hB'
      generalize (w.alloc (.cells #[.int .i64 3, .int .i64 x0, .int .i64 0, .slice none 0 0] 39)).alloc (.cells #[.int .i64 2, .int .i64 x0, .int .i64 0, .slice none 0 0] 39) = w0 at hB hB' hbw0 ⊢
      obtain ⟨f1, f2⟩ := sets_last (n := n) x0 (ks.zip vs) (fun e he => HP3.out e.1 (List.of_mem_zip (a := e.1) (b := e.2) he).1)
      rw [HDV.out.2] at f1
      rw [HDV.out.1] at f2
      have q0 := mscript_at (Pl.ofMap n) ((ks.zip vs).map setS) [⟨3, x0, 0, []⟩, ⟨2, x0, 0, []⟩] 0
      have q1 := mscript_at (Pl.ofMap n) ((ks.zip vs).map setS) [⟨3, x0, 0, []⟩, ⟨2, x0, 0, []⟩] 1
      rw [List.length_map, zip_len HS0.out] at q0 q1
      generalize hD : Pl.mapAt (Pl.ofMap n) [] ((ks.zip vs).map setS) = d at f1 f2 q0 q1
      have q0' : (Pl.mapRun (Pl.ofMap n) [] ((ks.zip vs).map setS ++ [⟨3, x0, 0, []⟩, ⟨2, x0, 0, []⟩]))[ks.length + 0]? = some ⟨hasB d x0 && true, if hasB d x0 then getV d x0 else 0, [], []⟩ := q0
      have q1' : (Pl.mapRun (Pl.ofMap n) [] ((ks.zip vs).map setS ++ [⟨3, x0, 0, []⟩, ⟨2, x0, 0, []⟩]))[ks.length + 1]? = some ⟨hasB d x0, 0, [], []⟩ := q1
      have hif : (if hasB d x0 then getV d x0 else 0) = dv := by
        rw [← f2]
        cases hb : hasB d x0
        · rw [getV_not (fun v hv => by rw [hasB_iff.2 ⟨v, hv⟩] at hb; cases hb)]; rfl
        · rfl
      rw [Bool.and_true, hif, f1] at q0'
      rw [f1] at q1'
      have hAl : (Pl.mapRun (Pl.ofMap n) [] ((ks.zip vs).map setS ++ [⟨3, x0, 0, []⟩, ⟨2, x0, 0, []⟩])).length = ks.length + 2 := by rw [mapRun_length]; simp [zip_len HS0.out]
      clear q0 q1 hif f1 f2 hD
      have HQ := Lib.hid (And.intro q0' (And.intro q1' hAl)); clear q0' q1' hAl
      obtain ⟨⟨c0, c1, c2, c3⟩, _⟩ := four_cells hB
      obtain ⟨⟨d0, d1, d2, d3⟩, _⟩ := four_cells hB'
      have HB := Lib.hid (And.intro hB hB'); clear hB hB'
      go_region_held3 (fun w' => (w'.cell? ⟨w.heap.size, 0, none⟩ = some (.int .i64 3) ∧ w'.cell? ⟨w.heap.size, 1, none⟩ = some (.int .i64 x0) ∧ w'.cell? ⟨w.heap.size, 2, none⟩ = some (.int .i64 0) ∧ w'.cell? ⟨w.heap.size, 3, none⟩ = some (.slice none 0 0)) ∧ (w'.cell? ⟨w.heap.size + 1, 0, none⟩ = some (.int .i64 2) ∧ w'.cell? ⟨w.heap.size + 1, 1, none⟩ = some (.int .i64 x0) ∧ w'.cell? ⟨w.heap.size + 1, 2, none⟩ = some (.int .i64 0) ∧ w'.cell? ⟨w.heap.size + 1, 3, none⟩ = some (.slice none 0 0)))
        (first | exact k6 | exact k5 | exact k1 | go_keep)
        (first
          | (go_at_call 21; refine (sets_any (HH.out.bel hbw0.drew) (HH'.out.bel hbw0.drew) HS0.out (by omega)).mono ?_; rintro e w1 ⟨u1, rfl, ho1, hb1⟩; have HO1 := Lib.hid ho1; clear ho1; have hB1 := And.intro (HB.out.1.drew.bel hb1) (HB.out.2.drew.bel hb1); have k1 := And.intro (four_cells hB1.1).1 (four_cells hB1.2).1; have z1 : w0.heap.size ≤ w1.heap.size := hb1.size)
          | (refine step_appm el30 (by rfl) (.tmp 66) (.tmp 69) (by rfl) w0.heap.size u1 ks.length (stepCells ((ks.zip vs).map setT)) (by rfl) (HO1.out.alloc _) w1.heap.size 2 2 [.int .i64 3, .int .i64 x0, .int .i64 0, .slice none 0 0, .int .i64 2, .int .i64 x0, .int .i64 0, .slice none 0 0] (by rfl) (Blk.new _ _ _) (by rfl) (by decide) (by simp [Value.oneCell']) (by omega) (by omega) (by simp only [World.size_alloc]; omega) ?_; intro g5 cap5 w5 ho5 hg5 _ _; have HJ := Lib.hid (held_sapp (T := [⟨3, x0, 0, []⟩, ⟨2, x0, 0, []⟩]) hbw0 hb1 HO1.out hg5 ho5 (by simp)); have hB5 := And.intro (HJ.out.2.2 hB1.1 HB.out.1.lt) (HJ.out.2.2 hB1.2 HB.out.2.lt); have k5 := And.intro (four_cells hB5.1).1 (four_cells hB5.2).1; clear ho5 hg5)
          | (go_at_call 21; refine (sets_any (HH.out.bel (hbw0.drew.alloc _)) (HH'.out.bel (hbw0.drew.alloc _)) HS0.out (by omega)).mono ?_; rintro e w1 ⟨u1, rfl, ho1, hb1⟩; have HO1 := Lib.hid ho1; clear ho1; have hB1 := And.intro ((HB.out.1.drew.alloc _).bel hb1) ((HB.out.2.drew.alloc _).bel hb1); have k1 := And.intro (four_cells hB1.1).1 (four_cells hB1.2).1; have z1 : (w0.drew.alloc _).heap.size ≤ w1.heap.size := hb1.size; simp only [World.size_alloc, World.size_drew] at z1)
          | (refine step_appm el30 (by rfl) (.tmp 66) (.tmp 69) (by rfl) _ u1 ks.length (stepCells ((ks.zip vs).map setT)) (by rfl) HO1.out w0.heap.size 2 2 [.int .i64 3, .int .i64 x0, .int .i64 0, .slice none 0 0, .int .i64 2, .int .i64 x0, .int .i64 0, .slice none 0 0] (by rfl) ((Blk.new w0.drew _ _).bel hb1) (by rfl) (by decide) (by simp [Value.oneCell']) (by omega) (by omega) hb1.size ?_; intro g5 cap5 w5 ho5 hg5 _ _; have HJ := Lib.hid (held_sapp2 (T := [⟨3, x0, 0, []⟩, ⟨2, x0, 0, []⟩]) hbw0 hb1 HO1.out hg5 ho5 (by simp)); have hB5 := And.intro (HJ.out.2.2 hB1.1 HB.out.1.lt) (HJ.out.2.2 hB1.2 HB.out.2.lt); have k5 := And.intro (four_cells hB5.1).1 (four_cells hB5.2).1; clear ho5 hg5)
          | (go_at_call 17; refine (map_any n _ _ _ (by omega) HJ.out.2.1 (by simp [zip_len HS0.out]; omega) (stepM_script HP3.out HS1.out (by intro s hs; simp at hs; rcases hs with rfl | rfl; exact stepM_key 3 hx0 hx1; exact stepM_key 2 hx0 hx1))).mono ?_; rintro e w6 ⟨u6, rfl, hA6, hb6⟩; have HA6 := Lib.hid hA6; clear hA6; have k6 := And.intro (four_cells (hB5.1.bel hb6)).1 (four_cells (hB5.2.bel hb6)).1))
      all_goals
        have hbw6 := HJ.out.1.trans hb6
        clear k1 k5 k6 hB1 hB5 HB HO1 hb1 hb6 HJ c0 c1 c2 c3 d0 d1 d2 d3 hbw0 z1
        have hA6 := HA6.out
        obtain ⟨q0', q1', hAl⟩ := HQ.out
        obtain ⟨a6, c6, rfl, _, _, _⟩ := id hA6
        obtain ⟨b, _, _, rfl, g0, g0v, _⟩ := ansS_at hA6 q0'
        obtain ⟨b', _, _, hbb, g1, _⟩ := ansS_at hA6 q1'
        cases hbb
        clear hA6 q0' q1' HA6
        rw [hAl]
        clear hAl
        simp only [Nat.add_zero] at g0 g0v
        have m3 : (((ks.length + 2 : Nat) : Int) == (ks.length : Int) + 2) = true := by simp
        have m4 : (tb == tb) = true := eqb_self' tb
        have m5 : (dv == dv) = true := by simp
        have j2 : (ks.length : Int) < (ks.length : Int) + 2 := by omega
        go_wp2
        go_ret
        exact ⟨rfl, hbw6⟩

set_option maxHeartbeats 1000000 in
theorem mlast_out (n : Int) (v u : Value) (ks vs : List Int) (x0 : Int) (w : World) (h : IntS w v ks) (h' : IntS w u vs) (hp : plainB n ks = false ∨ smallB ks vs = false ∨ x0 < 0 ∨ n ≤ x0) :
    Calls Try.prog 5 #[.int .i64 n, v, u, .int .i64 x0] w fun e w' => e = .returned (.bool true) ∧ Bel w w' := by
  have HP := Lib.hid (plain_any n v ks w h)
  have HS := Lib.hid (small_any v u ks vs w h h')
  obtain ⟨a, c, rfl, hlc, hcm, _⟩ := h
  obtain ⟨a', c', rfl, hlc', hcm', _⟩ := h'
  by_cases hl : 2147483647 < ks.length
  · clear hp
    go_enter Try.func5, Try.ntmps5
    go_wp2_with fail
    go_wp2
    go_ret
    exact ⟨rfl, Bel.refl w⟩
  by_cases hl' : 2147483647 < vs.length
  · clear hp
    go_enter Try.func5, Try.ntmps5
    go_wp2_with fail
    go_wp2
    go_ret
    exact ⟨rfl, Bel.refl w⟩
  cases hpb : plainB n ks
  · rw [hpb] at HP
    clear hp hpb
    go_enter Try.func5, Try.ntmps5
    go_wp2_with (go_at_call 18; refine HP.out.mono ?_; rintro e w' ⟨rfl, rfl⟩)
    go_ret
    exact ⟨rfl, Bel.refl w⟩
  rw [hpb] at HP hp
  cases hsb : smallB ks vs
  · rw [hsb] at HS
    clear hp hpb hsb
    go_enter Try.func5, Try.ntmps5
    go_wp2_with fail
    refine HP.out.mono ?_
    rintro e w' ⟨rfl, rfl⟩
    go_wp2_with fail
    refine HS.out.mono ?_
    rintro e w' ⟨rfl, rfl⟩
    go_wp2
    go_ret
    exact ⟨rfl, Bel.refl w⟩
  rw [hsb] at HS hp
  clear hpb hsb
  by_cases h0 : x0 < 0
  · clear hp
    go_enter Try.func5, Try.ntmps5
    go_wp2_with fail
    refine HP.out.mono ?_
    rintro e w' ⟨rfl, rfl⟩
    go_wp2_with fail
    refine HS.out.mono ?_
    rintro e w' ⟨rfl, rfl⟩
    go_wp2
    go_ret
    exact ⟨rfl, Bel.refl w⟩
  have h1 : n ≤ x0 := by rcases hp with hp | hp | hp | hp <;> first | cases hp | omega
  clear hp
  go_enter Try.func5, Try.ntmps5
  go_wp2_with fail
  refine HP.out.mono ?_
  rintro e w' ⟨rfl, rfl⟩
  go_wp2_with fail
  refine HS.out.mono ?_
  rintro e w' ⟨rfl, rfl⟩
  go_wp2
  go_ret
  exact ⟨rfl, Bel.refl w⟩
theorem law_FnMapLast (w : World) (n : Int) (_lo : -9223372036854775808 ≤ n) (_hi : n ≤ 9223372036854775807) (v : Value) (ks : List Int) (h : IntS w v ks) (u : Value) (vs : List Int) (h' : IntS w u vs) (x0 : Int) (_lo' : -9223372036854775808 ≤ x0) (_hi' : x0 ≤ 9223372036854775807) :
    Calls Try.prog 5 #[.int .i64 n, v, u, .int .i64 x0] w fun e w' => e = .returned (.bool true) ∧ Bel w w' := by
  cases hp : plainB n ks
  · exact mlast_out n v u ks vs x0 w h h' (.inl hp)
  cases hs : smallB ks vs
  · exact mlast_out n v u ks vs x0 w h h' (.inr (.inl hs))
  by_cases h0 : x0 < 0
  · exact mlast_out n v u ks vs x0 w h h' (.inr (.inr (.inl h0)))
  by_cases h1 : n ≤ x0
  · exact mlast_out n v u ks vs x0 w h h' (.inr (.inr (.inr h1)))
  obtain ⟨k, rfl⟩ := Int.eq_ofNat_of_zero_le (a := n) (by have := (plainB_iff.1 hp).1; omega)
  exact mlast_in k v u ks vs x0 w h h' hp hs (by omega) (by omega)
end Go.Proofs.Ytdmjcgipfkhibaa
