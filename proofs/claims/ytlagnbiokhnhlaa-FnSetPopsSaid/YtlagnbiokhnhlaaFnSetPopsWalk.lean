/- The walk of FnSetPops. -/
import Derived.Test.YtlagnbiokhnhlaaLaw5
namespace Go.Proofs.Ytlagnbiokhnhlaa
open Go.RowKit

def popA (y : Pl.Ent) : Pl.Ans := ⟨true, y.1, [], []⟩
theorem pop_run (n : Int) (T : List Pl.StepD) : ∀ r : List Pl.Ent, Pl.setRun n r.reverse (List.replicate r.length (kindS 6) ++ T) = r.map popA ++ Pl.setRun n [] T
  | [] => rfl
  | y :: r => by
    have e1 : (y :: r).reverse = r.reverse ++ [y] := by simp
    have e2 : (r.reverse ++ [y])[(r.reverse ++ [y]).length - 1]? = some y := by simp
    have e3 : (r.reverse ++ [y]).take ((r.reverse ++ [y]).length - 1) = r.reverse := by simp
    have hD : Pl.setD (r.reverse ++ [y]) (kindS 6) = r.reverse := by show List.take _ _ = _; exact e3
    have hA : Pl.setA n (r.reverse ++ [y]) (kindS 6) = popA y := by
      show (match (r.reverse ++ [y])[(r.reverse ++ [y]).length - 1]? with | some y => (⟨true, y.1, [], []⟩ : Pl.Ans) | none => Pl.ans0) = _
      rw [e2]; rfl
    rw [e1, List.length_cons, List.replicate_succ, List.cons_append, List.map_cons, List.cons_append]
    show Pl.setA n _ _ :: Pl.setRun n (Pl.setD _ _) _ = _
    rw [hD, hA, pop_run n T r]

abbrev popS (l : List Int) (E : Nat) : List Pl.StepD := l.map addS ++ (List.replicate E (kindS 6) ++ [kindS 4, kindS 6])
/-- The answers: each number once, from behind. -/
theorem pops_plain (n : Nat) (l : List Int) : ∃ r : List Pl.Ent, Pl.Rep (Pl.putAll [] l) r ∧ Zero r ∧ (∀ i y, r[i]? = some y → (Pl.setRun n [] (popS l r.length))[l.length + i]? = some (popA y)) ∧
    (Pl.setRun n [] (popS l r.length))[l.length + r.length]? = some ⟨false, 0, [], []⟩ ∧ (Pl.setRun n [] (popS l r.length))[l.length + (r.length + 1)]? = some ⟨false, 0, [], []⟩ := by
  obtain ⟨hR, hZ⟩ := adds_rep l
  refine ⟨(Pl.setAt [] (l.map addS)).reverse, ⟨hR.srt, ?_, fun e => by rw [hR.mem e, List.mem_reverse]⟩, fun e he => hZ e (List.mem_reverse.1 he), ?_⟩
  · rw [List.pairwise_reverse]
    exact hR.nodup.imp (fun h => Ne.symm h)
  · generalize hr : (Pl.setAt [] (l.map addS)).reverse = r
    have hd : Pl.setAt [] (l.map addS) = r.reverse := by rw [← hr, List.reverse_reverse]
    have key : ∀ i, (Pl.setRun n [] (popS l r.length))[l.length + i]? = (r.map popA ++ [⟨false, 0, [], []⟩, Pl.ans0])[i]? := fun i => by
      rw [script_at, hd, pop_run]; rfl
    refine ⟨fun i y hy => ?_, ?_, ?_⟩
    · rw [key, List.getElem?_append_left (by have := (List.getElem?_eq_some_iff.1 hy).1; simpa using this), List.getElem?_map, hy]; rfl
    · rw [key, List.getElem?_append_right (by simp)]; simp
    · rw [key, List.getElem?_append_right (by simp)]; simp; rfl

set_option maxRecDepth 100000 in
set_option maxHeartbeats 8000000 in
theorem pops_in (n : Nat) (l : List Int) (v : Value) (w : World) (h : IntS w v l) (hp : plainB n l = true) :
    Calls Try.prog 8 #[.int .i64 n, v] w fun e w' => e = .returned (.bool true) ∧ Bel w w' := by
  have HP := Lib.hid (plain_any n v l w h)
  rw [hp] at HP
  obtain ⟨p0, p1, p2, p3⟩ := plainB_iff.1 hp
  clear hp
  have HH := Lib.hid h
  obtain ⟨a, c, rfl, hlc, hcm, _⟩ := h
  have HP3 := Lib.hid p3; clear p3
  obtain ⟨r, hR, hZ, hq0, hq1, hq2⟩ := pops_plain n l
  have hE := hR.length
  have hple := Pl.putAll_length [] l
  simp only [List.length_nil] at hple
  have HQ := Lib.hid (And.intro hq0 (And.intro hq1 hq2)); clear hq0 hq1 hq2
  have HT := Lib.hid (tells_rep hR hZ); clear hR hZ
  generalize hE0 : r.length = E at *
  have HE0 := Lib.hid hE0; clear hE0
  go_enter Try.func8, Try.ntmps8
  go_wp2_with fail
  refine HP.out.mono ?_
  rintro e w' ⟨rfl, rfl⟩
  go_wp2_with fail
  refine (entries_any HH.out (by omega)).mono ?_
  rintro e w1 ⟨u1, rfl, hE1, hb1⟩
  have HE1 := Lib.hid hE1
  obtain ⟨a1, c1, rfl, _, _, _⟩ := hE1
  rw [hE] at HE1 ⊢
  go_wp2_with fail
  refine (adds_any (HH.out.bel hb1) (by omega)).mono ?_
  rintro e w2 ⟨u2, rfl, ho2, hb2⟩
  have HO2 := Lib.hid ho2
  clear ho2
  go_wp2
  go_loopw [6, 24] (fun u i wr => ∃ j : Nat, j ≤ E ∧ i = .int .i64 j ∧ wr.ownsRow w1.heap.size 43 4 u (l.length + j) (stepCells (l.map addT ++ List.replicate j (kindS 6, nilV))) ∧ Bel w1 wr) (fun _ i _ => E - (intOf i).toNat)
  case atStart => exact ⟨0, Nat.zero_le _, rfl, by simpa using HO2.out, hb2⟩
  case round =>
    obtain ⟨j, hj, rfl, hown, hbel⟩ := hrel
    have HO := Lib.hid hown; clear hown HO2
    clear hb2
    have hbs := hbel.size
    by_cases hlt : j < E
    · go_wp2_with fail
      refine (step_any 6 _).mono ?_
      rintro e w3 ⟨rfl, hb3⟩
      have hz3 := hb3.size
      have HO3 := Lib.hid (own_bel HO.out hb3); clear HO
      go_wp2_with (at_builtin; refine wpList_push el30 rfl (.tmp 26) (.tmp 28) rfl w1.heap.size u6 (l.length + j) _ rfl HO3.out [.int .i64 6, .int .i64 0, .int .i64 0, .slice none 0 0] w3.heap.size rfl rfl rfl (by simp [Value.oneCell']) (by omega) (by omega) (by omega) ?_)
      intro u4 w4 ho4 hg4 _
      have hb4 : Bel w1 w4 := (hbel.trans hb3).grown hg4 (fun k hk => (HO3.out.lt k hk).1)
      have HO4 : Hid (w4.ownsRow w1.heap.size 43 4 u4 (l.length + (j + 1)) (stepCells (l.map addT ++ List.replicate (j + 1) (kindS 6, nilV)))) := Lib.hid (own_eq ho4 (by omega) (by rw [List.replicate_succ', ← List.append_assoc, stepCells_append (_ ++ _)]; rfl))
      clear ho4 hg4
      go_wp2
      go_roundw
      case rel => exact ⟨j + 1, by omega, by go_num, HO4.out, hb4⟩
      case measure => simp [intOf]; omega
    · obtain rfl : E = j := by omega
      clear hlt hj
      obtain ⟨s6, q6, rfl, _, _, _⟩ := own_form HO.out
      go_wp2_with fail
      refine (step_any 4 _).mono ?_
      rintro e w3 ⟨rfl, hb3⟩
      go_wp2_with fail
      refine (step_any 6 _).mono ?_
      rintro e w4 ⟨rfl, hb4⟩
      have hb14 := hbel.trans (hb3.trans hb4)
      have hs4 := hb14.size
      have HO4 := Lib.hid (own_bel HO.out (hb3.trans hb4))
      clear hb3 hb4 HO hbel hbs
      go_wp2_with (at_builtin; refine wpList_app el30 _ rfl (.tmp 32) (.tmp 35) rfl w1.heap.size _ (l.length + E) _ rfl (HO4.out.alloc _) w4.heap.size 2 2 [.int .i64 4, .int .i64 0, .int .i64 0, .slice none 0 0, .int .i64 6, .int .i64 0, .int .i64 0, .slice none 0 0] rfl (Blk.new _ _ _) rfl (by simp [Value.oneCell']) (by omega) (by omega) (by simp; omega) ?_)
      intro u5 w5 ho5 hg5 _
      have hb5 : Bel w1 w5 := (hb14.alloc _).grown hg5 (fun k hk => (HO4.out.lt k hk).1)
      have hS5 : StepS w5 u5 (popS l E) := by
        have := stepS_own (L := l.map addT ++ (List.replicate E (kindS 6, nilV) ++ [(kindS 4, nilV), (kindS 6, nilV)])) (by rw [← List.append_assoc, stepCells_append (_ ++ _)]; exact ho5) (fun p hp => by
          simp only [List.mem_append, List.mem_cons, List.mem_map, List.not_mem_nil, or_false, List.mem_replicate] at hp
          rcases hp with ⟨x, _, rfl⟩ | ⟨_, rfl⟩ | rfl | rfl <;> exact IntS.nil _)
        rw [List.map_append, addT_fst, List.map_append, List.map_replicate] at this
        exact this
      have HS5 := Lib.hid hS5
      clear ho5 hg5 hS5 hb14 HO4 hs4
      go_wp2_with fail
      refine (set_any n _ u5 w5 (by omega) HS5.out (by simp; omega) (fun s hs => by
        simp only [List.mem_append, List.mem_cons, List.mem_map, List.not_mem_nil, or_false, List.mem_replicate] at hs
        rcases hs with ⟨x, hx, rfl⟩ | ⟨_, rfl⟩ | rfl | rfl
        · exact StepIn.add (HP3.out x hx)
        · exact StepIn.kind (by omega) _
        · exact StepIn.kind (by omega) _
        · exact StepIn.kind (by omega) _)).mono ?_
      rintro e w6 ⟨u6, rfl, hA, hb6⟩
      have hb16 := hb5.trans hb6
      clear hb5 hb6 HS5
      obtain ⟨hq0, hq1, hq2⟩ := HQ.out
      have hAl : (Pl.setRun n [] (popS l E)).length = l.length + E + 2 := by rw [setRun_length]; simp; omega
      obtain ⟨a6, c6, rfl, hc6, hm6, _⟩ := id hA
      obtain ⟨b, k0, x0, rfl, _, g1, _⟩ := ansS_at hA hq1
      obtain ⟨b', k1, x1, hbb, g2, _⟩ := ansS_at hA hq2
      cases hbb
      have HA := Lib.hid hA; clear hA hq0 hq1 hq2
      rw [hAl] at HA hc6 ⊢
      clear hAl
      simp only at g1 g2
      rw [show l.length + (E + 1) = l.length + E + 1 by omega] at g2
      generalize hP : l.length + E = P at *
      have m3 : ((P : Int) + 2 != (P : Int) + 2) = false := by simp
      have m4 : ((0 : Int) != 0) = false := by simp
      have hlP : l.length ≤ P := by omega
      have hcne : ¬ c6 = l.length := by omega
      go_wp2_with fail
      rw [show P - l.length = E by omega]
      have HOK : Hid ((w6.alloc (.cells #[] 2)).ownsRow w6.heap.size 2 1 (.slice (some ⟨w6.heap.size, 0, none⟩) 0 0) 0 []) := Lib.hid (owns_empty _ _ _ _ _ rfl (Nat.le_refl _))
      clear g1 g2
      go_loopw [8, 70] (fun u i wr => ∃ j : Nat, j ≤ E ∧ i = .int .i64 j ∧ wr.ownsRow w6.heap.size 2 1 u j (((r.take j).map (·.1)).map (Value.int .i64)) ∧ Bel w6 wr) (fun _ i _ => E - (intOf i).toNat)
      case atStart => exact ⟨0, Nat.zero_le _, rfl, HOK.out, (Bel.refl _).alloc _⟩
      case round =>
        obtain ⟨j, hj, rfl, hown, hbel⟩ := hrel
        have HO := Lib.hid hown; clear hown HOK
        have hbs := hbel.size
        by_cases hlt : j < E
        · obtain ⟨y, hy⟩ : ∃ y, r[j]? = some y := ⟨_, List.getElem?_eq_getElem (by rw [HE0.out]; exact hlt)⟩
          obtain ⟨b', kk, xx, hbb, d0, d1, d2, d3, hkk, hxx⟩ := ansS_at (A := Pl.setRun n [] (popS l E)) (by rw [show (Pl.setRun n [] (popS l E)).length = P + 2 from by rw [setRun_length]; simp; omega]; exact HA.out.bel hbel) (HQ.out.1 j y hy)
          cases hbb
          obtain ⟨k1, k2, rfl, _, _, _⟩ := hkk
          obtain ⟨x1, x2, rfl, _, _, _⟩ := hxx
          rw [show (l.length + j) * 4 = l.length * 4 + j * 4 by omega] at d0 d1 d2 d3
          have HY : Hid ((r.take (j + 1)).map (·.1) = (r.take j).map (·.1) ++ [y.1]) := Lib.hid (by rw [List.take_add_one, hy, List.map_append]; rfl)
          clear hy
          simp only [popA] at d0 d1
          go_wp2_with (at_builtin; refine wpList_push el22' rfl (.tmp 77) (.tmp 80) rfl w6.heap.size u8 j _ rfl (HO.out.alloc _) [.int .i64 y.1] (wr.heap.size + 1) (by simp) rfl rfl (by simp [Value.oneCell']) (by omega) (by omega) (by omega) ?_)
          intro u4 w4 ho4 hg4 _
          have hb4 : Bel w6 w4 := (hbel.alloc _).grown hg4 (fun k hk => (HO.out.lt k hk).1)
          have HO4 : Hid (w4.ownsRow w6.heap.size 2 1 u4 (j + 1) (((r.take (j + 1)).map (·.1)).map (Value.int .i64))) := Lib.hid (by rw [HY.out, List.map_append]; simpa using ho4)
          clear ho4 hg4
          go_wp2
          go_roundw
          case rel => exact ⟨j + 1, by omega, by go_num, HO4.out, hb4⟩
          case measure => simp [intOf]; omega
        · obtain rfl : E = j := by omega
          have hK : IntS wr u8 (r.map (·.1)) := by
            have := HO.out
            rw [List.take_of_length_le (by rw [HE0.out]; exact Nat.le_refl _)] at this
            exact ints_own this
          have HK := Lib.hid hK; clear hK HO
          have HTC := Lib.hid (tells_any HK.out (HE1.out.bel (hb16.trans hbel)) (by rw [List.length_map, HE0.out]; omega) (by omega))
          rw [HT.out] at HTC
          go_wp2_with fail
          refine HTC.out.mono ?_
          rintro e w9 ⟨rfl, hb9⟩
          go_wp2
          go_ret
          exact ⟨rfl, hb1.trans (hb16.trans (hbel.trans hb9))⟩

set_option maxHeartbeats 1000000 in
theorem pops_out (n : Int) (l : List Int) (v : Value) (w : World) (h : IntS w v l) (hp : plainB n l = false) :
    Calls Try.prog 8 #[.int .i64 n, v] w fun e w' => e = .returned (.bool true) ∧ Bel w w' := by
  have HP := Lib.hid (plain_any n v l w h)
  rw [hp] at HP
  clear hp
  obtain ⟨a, c, rfl, hlc, hcm, _⟩ := h
  by_cases hl : 2147483647 < l.length
  · go_enter Try.func8, Try.ntmps8
    go_wp2_with fail
    go_wp2
    go_ret
    exact ⟨rfl, Bel.refl w⟩
  · go_enter Try.func8, Try.ntmps8
    go_wp2_with (go_at_call 20; refine HP.out.mono ?_; rintro e w' ⟨rfl, rfl⟩)
    go_ret
    exact ⟨rfl, Bel.refl w⟩
theorem law_FnSetPops (w : World) (n : Int) (_lo : -9223372036854775808 ≤ n) (_hi : n ≤ 9223372036854775807) (v : Value) (l : List Int) (h : IntS w v l) :
    Calls Try.prog 8 #[.int .i64 n, v] w fun e w' => e = .returned (.bool true) ∧ Bel w w' := by
  cases hp : plainB n l
  · exact pops_out n l v w h hp
  · obtain ⟨k, rfl⟩ := Int.eq_ofNat_of_zero_le (a := n) (by have := (plainB_iff.1 hp).1; omega)
    exact pops_in k l v w h hp
end Go.Proofs.Ytlagnbiokhnhlaa
