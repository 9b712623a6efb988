/- The walk of FnOrderFull. -/
import Derived.Test.YtbekmpmfkblgnaaFull2
namespace Go.Proofs.Ytbekmpmfkblgnaa
open Go.RowKit Go.BigFrame

/-- Both places stand in their boxes. -/
structure TwoP (w W : World) (p q : PlaceD) : Prop where
  p : PBox W w.heap.size p
  q : PBox W (w.heap.size + 1) q
  bel : Bel w W
theorem TwoP.on {w W W' : World} {p q : PlaceD} (h : TwoP w W p q) (hb : Bel W W') : TwoP w W' p q := ⟨h.p.bel hb, h.q.bel hb, h.bel.trans hb⟩
theorem TwoP.start (w : World) (p q : PlaceD) : TwoP w ((w.alloc (.cells #[.int .i64 p.file, .int .i64 p.line, .int .i64 p.col, .int .i64 p.stmt, .int .i64 p.logue] 23)).alloc (.cells #[.int .i64 q.file, .int .i64 q.line, .int .i64 q.col, .int .i64 q.stmt, .int .i64 q.logue] 23)) p q :=
  ⟨(pbox_two w p q).1, (pbox_two w p q).2, ((Bel.refl w).alloc _).alloc _⟩

theorem fullB_same (n : ByteArray) (l c m d : Int) (h2 : 1 ≤ c) (h3 : c ≤ 250) (k2 : 1 ≤ d) (k3 : d ≤ 250) : fullB n n (l * 4096 + c * 16) (m * 4096 + d * 16) = decide (l < m ∨ l = m ∧ c < d) := by
  unfold fullB
  rw [strLt_self, decide_eq_true (rfl : n = n), Bool.false_or, Bool.true_and]
  exact decide_eq_decide.2 (by omega)
theorem bb' (x : Bool) : (x == x) = true := by cases x <;> rfl

set_option maxRecDepth 100000 in
set_option maxHeartbeats 2000000 in
theorem orderFull_a (pf lp cp sp xp qf lq cq sq xq : Int) (a : Option Addr) (n cap : Nat) (ss : List ByteArray) (w : World) (h : Strs w a n ss) (hcap : n ≤ cap ∧ cap ≤ 9223372036854775807) (hA : placedB ⟨pf, lp, cp, sp, xp⟩ n = false) :
    Calls Try.prog 3 #[placeV ⟨pf, lp, cp, sp, xp⟩, placeV ⟨qf, lq, cq, sq, xq⟩, .slice a n cap] w fun e w' => e = .returned (.bool true) ∧ Bel w w' := by
  have HH := Lib.hid h; clear h
  have HT0 := Lib.hid (TwoP.start w ⟨pf, lp, cp, sp, xp⟩ ⟨qf, lq, cq, sq, xq⟩)
  have HPA := Lib.hid (fun W => placed_any ⟨pf, lp, cp, sp, xp⟩ n W)
  have HPB := Lib.hid (fun W => placed_any ⟨qf, lq, cq, sq, xq⟩ n W)
  rw [hA] at HPA
  clear hA HPB
  go_enter Try.func3, Try.ntmps3
  go_wp2_with fail
  refine (fits3_any a n cap ss _ (HH.out.bel HT0.out.bel) (by omega)).mono ?_
  rintro e w1 ⟨b1, rfl, hb1⟩
  have HT1 := Lib.hid (HT0.out.on hb1)
  clear hb1 HT0
  cases b1
  · have hbw := HT1.out.bel
    go_wp2
    go_ret
    exact ⟨rfl, hbw⟩
  go_wp2_with fail
  refine (names_any a n cap ss _ (HH.out.bel HT1.out.bel) hcap).mono ?_
  rintro e w2 ⟨b2, rfl, hP, hb2⟩
  have HT2 := Lib.hid (HT1.out.on hb2)
  clear hb2 HT1
  cases b2
  · have hbw := HT2.out.bel
    clear hP
    go_wp2
    go_ret
    exact ⟨rfl, hbw⟩
  have HNM := Lib.hid (hP rfl); clear hP
  obtain ⟨x0, x1, x2, x3, x4⟩ := HT2.out.p.all
  go_wp2_with fail
  refine (HPA.out _).mono ?_
  rintro e w3 ⟨rfl, hb3⟩
  have HT3 := Lib.hid (HT2.out.on hb3)
  clear hb3 HT2 x0 x1 x2 x3 x4 HPA
  have hbw := HT3.out.bel
  go_wp2
  go_ret
  exact ⟨rfl, hbw⟩
set_option maxRecDepth 100000 in
set_option maxHeartbeats 2000000 in
theorem orderFull_b (pf lp cp sp xp qf lq cq sq xq : Int) (a : Option Addr) (n cap : Nat) (ss : List ByteArray) (w : World) (h : Strs w a n ss) (hcap : n ≤ cap ∧ cap ≤ 9223372036854775807) (hA : placedB ⟨pf, lp, cp, sp, xp⟩ n = true) (hB : placedB ⟨qf, lq, cq, sq, xq⟩ n = false) :
    Calls Try.prog 3 #[placeV ⟨pf, lp, cp, sp, xp⟩, placeV ⟨qf, lq, cq, sq, xq⟩, .slice a n cap] w fun e w' => e = .returned (.bool true) ∧ Bel w w' := by
  have HH := Lib.hid h; clear h
  have HT0 := Lib.hid (TwoP.start w ⟨pf, lp, cp, sp, xp⟩ ⟨qf, lq, cq, sq, xq⟩)
  have HPA := Lib.hid (fun W => placed_any ⟨pf, lp, cp, sp, xp⟩ n W)
  have HPB := Lib.hid (fun W => placed_any ⟨qf, lq, cq, sq, xq⟩ n W)
  rw [hA] at HPA
  rw [hB] at HPB
  clear hA hB
  go_enter Try.func3, Try.ntmps3
  go_wp2_with fail
  refine (fits3_any a n cap ss _ (HH.out.bel HT0.out.bel) (by omega)).mono ?_
  rintro e w1 ⟨b1, rfl, hb1⟩
  have HT1 := Lib.hid (HT0.out.on hb1)
  clear hb1 HT0
  cases b1
  · have hbw := HT1.out.bel
    go_wp2
    go_ret
    exact ⟨rfl, hbw⟩
  go_wp2_with fail
  refine (names_any a n cap ss _ (HH.out.bel HT1.out.bel) hcap).mono ?_
  rintro e w2 ⟨b2, rfl, hP, hb2⟩
  have HT2 := Lib.hid (HT1.out.on hb2)
  clear hb2 HT1
  cases b2
  · have hbw := HT2.out.bel
    clear hP
    go_wp2
    go_ret
    exact ⟨rfl, hbw⟩
  have HNM := Lib.hid (hP rfl); clear hP
  obtain ⟨x0, x1, x2, x3, x4⟩ := HT2.out.p.all
  go_wp2_with fail
  refine (HPA.out _).mono ?_
  rintro e w3 ⟨rfl, hb3⟩
  have HT3 := Lib.hid (HT2.out.on hb3)
  clear hb3 HT2 x0 x1 x2 x3 x4 HPA
  obtain ⟨y0, y1, y2, y3, y4⟩ := HT3.out.q.all
  go_wp2_with fail
  refine (HPB.out _).mono ?_
  rintro e w4 ⟨rfl, hb4⟩
  have HT4 := Lib.hid (HT3.out.on hb4)
  clear hb4 HT3 y0 y1 y2 y3 y4 HPB
  have hbw := HT4.out.bel
  go_wp2
  go_ret
  exact ⟨rfl, hbw⟩
set_option maxRecDepth 100000 in
set_option maxHeartbeats 4000000 in
theorem orderFull_same (pf lp cp sp xp qf lq cq sq xq : Int) (a : Option Addr) (n cap : Nat) (ss : List ByteArray) (w : World) (h : Strs w a n ss) (hcap : n ≤ cap ∧ cap ≤ 9223372036854775807) (hA : placedB ⟨pf, lp, cp, sp, xp⟩ n = true) (hB : placedB ⟨qf, lq, cq, sq, xq⟩ n = true) (hf : pf = qf) :
    Calls Try.prog 3 #[placeV ⟨pf, lp, cp, sp, xp⟩, placeV ⟨qf, lq, cq, sq, xq⟩, .slice a n cap] w fun e w' => e = .returned (.bool true) ∧ Bel w w' := by
  subst hf
  have HH := Lib.hid h; clear h
  have HT0 := Lib.hid (TwoP.start w ⟨pf, lp, cp, sp, xp⟩ ⟨pf, lq, cq, sq, xq⟩)
  have HPA := Lib.hid (fun W => placed_any ⟨pf, lp, cp, sp, xp⟩ n W)
  have HPB := Lib.hid (fun W => placed_any ⟨pf, lq, cq, sq, xq⟩ n W)
  rw [hA] at HPA
  rw [hB] at HPB
  obtain ⟨a0, a1, h0, h1, h2, h3⟩ := placedB_true hA
  obtain ⟨b0, b1, k0, k1, k2, k3⟩ := placedB_true hB
  obtain ⟨ip, rfl⟩ := Int.eq_ofNat_of_zero_le (a := pf) a0
  simp only at a1 b1 h0 h1 h2 h3 k0 k1 k2 k3
  clear hA hB a0 b0
  go_enter Try.func3, Try.ntmps3
  go_wp2_with fail
  refine (fits3_any a n cap ss _ (HH.out.bel HT0.out.bel) (by omega)).mono ?_
  rintro e w1 ⟨b1, rfl, hb1⟩
  have HT1 := Lib.hid (HT0.out.on hb1)
  clear hb1 HT0
  cases b1
  · have hbw := HT1.out.bel
    go_wp2
    go_ret
    exact ⟨rfl, hbw⟩
  go_wp2_with fail
  refine (names_any a n cap ss _ (HH.out.bel HT1.out.bel) hcap).mono ?_
  rintro e w2 ⟨b2, rfl, hP, hb2⟩
  have HT2 := Lib.hid (HT1.out.on hb2)
  clear hb2 HT1
  cases b2
  · have hbw := HT2.out.bel
    clear hP
    go_wp2
    go_ret
    exact ⟨rfl, hbw⟩
  have HNM := Lib.hid (hP rfl); clear hP
  obtain ⟨x0, x1, x2, x3, x4⟩ := HT2.out.p.all
  go_wp2_with fail
  refine (HPA.out _).mono ?_
  rintro e w3 ⟨rfl, hb3⟩
  have HT3 := Lib.hid (HT2.out.on hb3)
  clear hb3 HT2 x0 x1 x2 x3 x4 HPA
  obtain ⟨y0, y1, y2, y3, y4⟩ := HT3.out.q.all
  go_wp2_with fail
  refine (HPB.out _).mono ?_
  rintro e w4 ⟨rfl, hb4⟩
  have HT4 := Lib.hid (HT3.out.on hb4)
  clear hb4 HT3 y0 y1 y2 y3 y4 HPB
  obtain ⟨z0, z1, z2, z3, z4⟩ := HT4.out.p.all
  obtain ⟨y0, y1, y2, y3, y4⟩ := HT4.out.q.all
  obtain ⟨mp, hmp⟩ : ∃ e, ss[ip]? = some e := ⟨_, List.getElem?_eq_getElem (by rw [HH.out.1]; omega)⟩
  obtain ⟨mq, hmq⟩ : ∃ e, ss[ip]? = some e := ⟨_, List.getElem?_eq_getElem (by rw [HH.out.1]; omega)⟩
  have HNN := Lib.hid (And.intro hmp hmq)
  have hn8 := HNM.out.1
  go_wp2_with fail
  refine (inFull_any ip ip lp cp sp xp lq cq sq xq a n cap ss mp mq _ (HH.out.bel HT4.out.bel) (by omega) hmp hmq h0 h1 h2 h3 k0 k1 k2 k3).mono ?_
  rintro e w5 ⟨rfl, hb5⟩
  have HT5 := Lib.hid (HT4.out.on hb5)
  clear hb5 HT4 z0 z1 z2 z3 z4 y0 y1 y2 y3 y4 hmp hmq
  obtain ⟨z0, z1, z2, z3, z4⟩ := HT5.out.p.all
  obtain ⟨y0, y1, y2, y3, y4⟩ := HT5.out.q.all
  obtain rfl : mq = mp := by have h1 := HNN.out.1; rw [HNN.out.2] at h1; injection h1
  rw [fullB_same mq lp cp lq cq h2 h3 k2 k3, fullB_same mq lq cq lp cp k2 k3 h2 h3]
  have HS1 := Lib.hid (fun W => specBefore_any ⟨ip, lp, cp, sp, xp⟩ ⟨ip, lq, cq, sq, xq⟩ W)
  have HS2 := Lib.hid (fun W => specBefore_any ⟨ip, lq, cq, sq, xq⟩ ⟨ip, lp, cp, sp, xp⟩ W)
  unfold befB at HS1 HS2
  simp only at HS1 HS2 z0 z1 z2 z3 z4 y0 y1 y2 y3 y4
  generalize decide (lp < lq ∨ lp = lq ∧ cp < cq) = x at *
  generalize decide (lq < lp ∨ lq = lp ∧ cq < cp) = y at *
  have n1 := bb' x
  have n2 := bb' y
  clear h0 h1 h2 h3 k0 k1 k2 k3 HNN HNM
  go_wp2_with fail
  refine (HS1.out _).mono ?_
  rintro e w6 ⟨rfl, hb6⟩
  have HT6 := Lib.hid (HT5.out.on hb6)
  clear hb6 HT5 z0 z1 z2 z3 z4 y0 y1 y2 y3 y4
  obtain ⟨z0, z1, z2, z3, z4⟩ := HT6.out.p.all
  obtain ⟨y0, y1, y2, y3, y4⟩ := HT6.out.q.all
  go_wp2_with fail
  refine (HS2.out _).mono ?_
  rintro e w7 ⟨rfl, hb7⟩
  have hbw := HT6.out.bel.trans hb7
  go_wp2
  go_ret
  exact ⟨rfl, hbw⟩
set_option maxRecDepth 100000 in
set_option maxHeartbeats 4000000 in
theorem orderFull_diff (pf lp cp sp xp qf lq cq sq xq : Int) (a : Option Addr) (n cap : Nat) (ss : List ByteArray) (w : World) (h : Strs w a n ss) (hcap : n ≤ cap ∧ cap ≤ 9223372036854775807) (hA : placedB ⟨pf, lp, cp, sp, xp⟩ n = true) (hB : placedB ⟨qf, lq, cq, sq, xq⟩ n = true) (hf : pf ≠ qf) :
    Calls Try.prog 3 #[placeV ⟨pf, lp, cp, sp, xp⟩, placeV ⟨qf, lq, cq, sq, xq⟩, .slice a n cap] w fun e w' => e = .returned (.bool true) ∧ Bel w w' := by
  have HH := Lib.hid h; clear h
  have HT0 := Lib.hid (TwoP.start w ⟨pf, lp, cp, sp, xp⟩ ⟨qf, lq, cq, sq, xq⟩)
  have HPA := Lib.hid (fun W => placed_any ⟨pf, lp, cp, sp, xp⟩ n W)
  have HPB := Lib.hid (fun W => placed_any ⟨qf, lq, cq, sq, xq⟩ n W)
  rw [hA] at HPA
  rw [hB] at HPB
  obtain ⟨a0, a1, h0, h1, h2, h3⟩ := placedB_true hA
  obtain ⟨b0, b1, k0, k1, k2, k3⟩ := placedB_true hB
  obtain ⟨ip, rfl⟩ := Int.eq_ofNat_of_zero_le (a := pf) a0
  obtain ⟨iq, rfl⟩ := Int.eq_ofNat_of_zero_le (a := qf) b0
  simp only at a1 b1 h0 h1 h2 h3 k0 k1 k2 k3
  clear hA hB a0 b0
  have hfb : ((ip : Int) == (iq : Int)) = false := by simpa using hf
  go_enter Try.func3, Try.ntmps3
  go_wp2_with fail
  refine (fits3_any a n cap ss _ (HH.out.bel HT0.out.bel) (by omega)).mono ?_
  rintro e w1 ⟨b1, rfl, hb1⟩
  have HT1 := Lib.hid (HT0.out.on hb1)
  clear hb1 HT0
  cases b1
  · have hbw := HT1.out.bel
    go_wp2
    go_ret
    exact ⟨rfl, hbw⟩
  go_wp2_with fail
  refine (names_any a n cap ss _ (HH.out.bel HT1.out.bel) hcap).mono ?_
  rintro e w2 ⟨b2, rfl, hP, hb2⟩
  have HT2 := Lib.hid (HT1.out.on hb2)
  clear hb2 HT1
  cases b2
  · have hbw := HT2.out.bel
    clear hP
    go_wp2
    go_ret
    exact ⟨rfl, hbw⟩
  have HNM := Lib.hid (hP rfl); clear hP
  obtain ⟨x0, x1, x2, x3, x4⟩ := HT2.out.p.all
  go_wp2_with fail
  refine (HPA.out _).mono ?_
  rintro e w3 ⟨rfl, hb3⟩
  have HT3 := Lib.hid (HT2.out.on hb3)
  clear hb3 HT2 x0 x1 x2 x3 x4 HPA
  obtain ⟨y0, y1, y2, y3, y4⟩ := HT3.out.q.all
  go_wp2_with fail
  refine (HPB.out _).mono ?_
  rintro e w4 ⟨rfl, hb4⟩
  have HT4 := Lib.hid (HT3.out.on hb4)
  clear hb4 HT3 y0 y1 y2 y3 y4 HPB
  obtain ⟨z0, z1, z2, z3, z4⟩ := HT4.out.p.all
  obtain ⟨y0, y1, y2, y3, y4⟩ := HT4.out.q.all
  obtain ⟨mp, hmp⟩ : ∃ e, ss[ip]? = some e := ⟨_, List.getElem?_eq_getElem (by rw [HH.out.1]; omega)⟩
  obtain ⟨mq, hmq⟩ : ∃ e, ss[iq]? = some e := ⟨_, List.getElem?_eq_getElem (by rw [HH.out.1]; omega)⟩
  have HNN := Lib.hid (And.intro hmp hmq)
  have hn8 := HNM.out.1
  go_wp2_with fail
  refine (inFull_any ip iq lp cp sp xp lq cq sq xq a n cap ss mp mq _ (HH.out.bel HT4.out.bel) (by omega) hmp hmq h0 h1 h2 h3 k0 k1 k2 k3).mono ?_
  rintro e w5 ⟨rfl, hb5⟩
  have HT5 := Lib.hid (HT4.out.on hb5)
  clear hb5 HT4 z0 z1 z2 z3 z4 y0 y1 y2 y3 y4 hmp hmq
  obtain ⟨z0, z1, z2, z3, z4⟩ := HT5.out.p.all
  obtain ⟨y0, y1, y2, y3, y4⟩ := HT5.out.q.all
  have hne : mp ≠ mq := fun e => by
    have h1 := HNN.out.1
    have h2 := HNN.out.2
    obtain ⟨i1, e1⟩ := List.getElem?_eq_some_iff.1 h1
    obtain ⟨i2, e2⟩ := List.getElem?_eq_some_iff.1 h2
    have : ip = iq := (List.getElem_inj HNM.out.2.1).1 (by rw [e1, e2, e])
    exact hf (by rw [this])
  have e1 : fullB mp mq (lp * 4096 + cp * 16) (lq * 4096 + cq * 16) = strLt mp mq := by simp [fullB, hne]
  have e2 : fullB mq mp (lq * 4096 + cq * 16) (lp * 4096 + cp * 16) = !strLt mp mq := by rw [← strLt_swap hne]; simp [fullB, Ne.symm hne]
  rw [e1, e2]
  clear e1 e2
  simp only at z0 z1 z2 z3 z4 y0 y1 y2 y3 y4
  obtain ⟨sb, so, rfl, hcell⟩ := HH.out.2 (by omega)
  have t1 := HT5.out.bel.cell (hcell ip mp HNN.out.1)
  have t2 := HT5.out.bel.cell (hcell iq mq HNN.out.2)
  have i0 : (0 : Int) ≤ (ip : Int) := by omega
  have i2 : (0 : Int) ≤ (iq : Int) := by omega
  have HBW := Lib.hid HT5.out.bel
  clear hcell h0 h1 h2 h3 k0 k1 k2 k3 HNN HNM hne hf
  go_upto_region 8 with (fail)
  go_quiet (fail)
  have HS : Hid (strLt mp mq = Op.bytesLess mp.toList mq.toList) := Lib.hid rfl
  rw [HS.out]
  cases hz : Op.bytesLess mp.toList mq.toList
  · go_wp2
    go_ret
    exact ⟨rfl, HBW.out.drewN _⟩
  · go_wp2
    go_ret
    exact ⟨rfl, HBW.out.drewN _⟩
theorem law_FnOrderFull (w : World) (p : PlaceD) (_hp : PlaceIn p) (q : PlaceD) (_hq : PlaceIn q) (a : Option Addr) (n cap : Nat) (ss : List ByteArray) (h : Strs w a n ss) (nc : n ≤ cap) (cm : cap ≤ maxLen) (_zb : ∀ s ∈ ss, s.size ≤ maxLen) :
    Calls Try.prog 3 #[placeV p, placeV q, .slice a n cap] w fun e w' => e = .returned (.bool true) ∧ Bel w w' := by
  obtain ⟨pf, lp, cp, sp, xp⟩ := p
  obtain ⟨qf, lq, cq, sq, xq⟩ := q
  have hcap : n ≤ cap ∧ cap ≤ 9223372036854775807 := ⟨nc, by unfold maxLen at cm; omega⟩
  cases hA : placedB ⟨pf, lp, cp, sp, xp⟩ n
  · exact orderFull_a pf lp cp sp xp qf lq cq sq xq a n cap ss w h hcap hA
  · cases hB : placedB ⟨qf, lq, cq, sq, xq⟩ n
    · exact orderFull_b pf lp cp sp xp qf lq cq sq xq a n cap ss w h hcap hA hB
    · by_cases hf : pf = qf
      · exact orderFull_same pf lp cp sp xp qf lq cq sq xq a n cap ss w h hcap hA hB hf
      · exact orderFull_diff pf lp cp sp xp qf lq cq sq xq a n cap ss w h hcap hA hB hf
end Go.Proofs.Ytbekmpmfkblgnaa
