/- The walk of FnLinesColumns. -/
import Derived.Test.YtangceejmjklcaaLsQ
import Derived.BigQuiet
import Derived.StillTailTactics
namespace Go.Proofs.Ytangceejmjklcaa
open Go.RowKit Go.BigFrame

/-- The values of the operations. -/
def VK22 (u14 : Value) (f l x : Int) (ab2 j q2 k lb lo nT lc q vb vo vc : Nat) (b : Nat) (v : Value) : List (Nat × Nat × Value) := [(0, 86, u14), (1, 87, .int .i64 f), (2, 88, .slice (some ⟨ab2, 0, none⟩) j q2), (3, 89, .int .i64 (k : Int)), (4, 90, .pointer (some ⟨ab2, k * 5, none⟩)), (5, 91, .pointer (some ⟨ab2, k * 5 + 3, none⟩)), (6, 92, .slice (some ⟨lb, lo, none⟩) nT lc), (7, 93, .int .i64 (q : Int)), (8, 94, .pointer (some ⟨lb, lo + q, none⟩)), (9, 95, .int .i64 l), (10, 96, .slice (some ⟨ab2, 0, none⟩) j q2), (11, 97, .int .i64 (k : Int)), (12, 98, .pointer (some ⟨ab2, k * 5, none⟩)), (13, 99, .pointer (some ⟨ab2, k * 5 + 4, none⟩)), (14, 100, .slice (some ⟨vb, vo, none⟩) nT vc), (15, 101, .int .i64 (q : Int)), (16, 102, .pointer (some ⟨vb, vo + q, none⟩)), (17, 103, .int .i64 x), (18, 104, .agg #[.int .i64 f, .int .i64 l, .int .i64 x]), (19, 105, .slice (some ⟨b, 0, none⟩) 1 1), (20, 106, v), (21, 14, v)]
theorem VK22_slots (u14 : Value) (f l x : Int) (ab2 j q2 k lb lo nT lc q vb vo vc : Nat) (b : Nat) (v : Value) : (VK22 u14 f l x ab2 j q2 k lb lo nT lc q vb vo vc b v).map (·.2.1) = [86, 87, 88, 89, 90, 91, 92, 93, 94, 95, 96, 97, 98, 99, 100, 101, 102, 103, 104, 105, 106, 14] := rfl
theorem VK22_idx (u14 : Value) (f l x : Int) (ab2 j q2 k lb lo nT lc q vb vo vc : Nat) (b : Nat) (v : Value) : (VK22 u14 f l x ab2 j q2 k lb lo nT lc q vb vo vc b v).map (·.1) = [0, 1, 2, 3, 4, 5, 6, 7, 8, 9, 10, 11, 12, 13, 14, 15, 16, 17, 18, 19, 20, 21] := rfl
theorem VK22_nd (u14 : Value) (f l x : Int) (ab2 j q2 k lb lo nT lc q vb vo vc : Nat) (b : Nat) (v : Value) : ((VK22 u14 f l x ab2 j q2 k lb lo nT lc q vb vo vc b v).map (·.2.1)).Nodup := by rw [VK22_slots]; decide
theorem VK22_nd' (u14 : Value) (f l x : Int) (ab2 j q2 k lb lo nT lc q vb vo vc : Nat) (b : Nat) (v : Value) : ((VK22 u14 f l x ab2 j q2 k lb lo nT lc q vb vo vc b v).map (·.1)).Nodup := by rw [VK22_idx]; decide
theorem VK22_not11 (u14 : Value) (f l x : Int) (ab2 j q2 k lb lo nT lc q vb vo vc : Nat) (b : Nat) (v : Value) : 11 ∉ (VK22 u14 f l x ab2 j q2 k lb lo nT lc q vb vo vc b v).map (·.2.1) := by rw [VK22_slots]; decide
theorem VK22_not12 (u14 : Value) (f l x : Int) (ab2 j q2 k lb lo nT lc q vb vo vc : Nat) (b : Nat) (v : Value) : 12 ∉ (VK22 u14 f l x ab2 j q2 k lb lo nT lc q vb vo vc b v).map (·.2.1) := by rw [VK22_slots]; decide
theorem VK22_not15 (u14 : Value) (f l x : Int) (ab2 j q2 k lb lo nT lc q vb vo vc : Nat) (b : Nat) (v : Value) : 15 ∉ (VK22 u14 f l x ab2 j q2 k lb lo nT lc q vb vo vc b v).map (·.2.1) := by rw [VK22_slots]; decide
theorem VK22_not16 (u14 : Value) (f l x : Int) (ab2 j q2 k lb lo nT lc q vb vo vc : Nat) (b : Nat) (v : Value) : 16 ∉ (VK22 u14 f l x ab2 j q2 k lb lo nT lc q vb vo vc b v).map (·.2.1) := by rw [VK22_slots]; decide
theorem ents_bel {w w' : World} {a : Option Addr} {n : Nat} {l : List Pl.Ent} (h : Ents w a n l) (hb : Bel w w') : Ents w' a n l := h.bel hb

set_option maxRecDepth 100000 in
set_option maxHeartbeats 8000000 in
theorem law_FnLinesColumns (w : World) (a1 : Option Addr) (n1 c1 : Nat) (R : List Pl.Ent) (hR : Ents w a1 n1 R) (_nc1 : n1 ≤ c1) (_cm1 : c1 ≤ maxLen) (a2 : Option Addr) (n2 c2 : Nat) (S : List Pl.LStep) (hS : LSt w a2 n2 S) (_nc2 : n2 ≤ c2) (_cm2 : c2 ≤ maxLen) (cl : Int) (_lo : -9223372036854775808 ≤ cl) (_hi : cl ≤ 9223372036854775807) :
    Calls Try.prog 4 #[.slice a1 n1 c1, .slice a2 n2 c2, .int .i64 cl] w fun e w' => e = .returned (.bool true) ∧ Bel w w' := by
  by_cases hz1 : 2147483647 < n1
  · go_enter Try.func4, Try.ntmps4
    go_wp2
    go_ret
    exact ⟨rfl, Bel.refl w⟩
  by_cases hz2 : 2147483647 < n2
  · go_enter Try.func4, Try.ntmps4
    go_wp2
    go_ret
    exact ⟨rfl, Bel.refl w⟩
  have HR := Lib.hid hR; clear hR
  have HS := Lib.hid hS; clear hS
  have H0 : Hid ((w.alloc (.cells #[] 29)).ownsRow w.heap.size 29 5 (.slice (some ⟨w.heap.size, 0, none⟩) 0 0) 0 (lsCells ((S.map (setCol cl)).take 0)) ∧ Bel w (w.alloc (.cells #[] 29))) := Lib.hid
    ⟨owns_empty w w.heap.size _ 5 _ rfl (Nat.le_refl _), (Bel.refl w).alloc _⟩
  go_enter Try.func4, Try.ntmps4
  go_wp2
  generalize w.alloc (.cells #[] 29) = w0 at H0 ⊢
  go_loopw [7, 28] (fun u i wr => ∃ j : Nat, j ≤ n2 ∧ i = .int .i64 j ∧ wr.ownsRow w.heap.size 29 5 u j (lsCells ((S.map (setCol cl)).take j)) ∧ Bel w wr) (fun _ i _ => n2 - (intOf i).toNat)
  case atStart => exact ⟨0, Nat.zero_le _, rfl, H0.out⟩
  case round =>
    obtain ⟨j, hj, rfl, hO, hbel⟩ := hrel
    have HO := Lib.hid hO; clear hO H0
    by_cases hlt : j < n2
    · obtain ⟨b2, o2, rfl, hcell⟩ := HS.out.2 (by omega)
      obtain ⟨s, hsk⟩ : ∃ s, S[j]? = some s := ⟨_, List.getElem?_eq_getElem (by rw [HS.out.1]; exact hlt)⟩
      obtain ⟨t0, t1, t2, t3, t4⟩ := hcell j s hsk
      replace t0 := hbel.cell t0
      replace t1 := hbel.cell t1
      replace t2 := hbel.cell t2
      replace t3 := hbel.cell t3
      replace t4 := hbel.cell t4
      have HT : Hid (lsCells ((S.map (setCol cl)).take (j + 1)) = lsCells ((S.map (setCol cl)).take j) ++ [.int .i64 s.kind, .int .i64 s.file, .int .i64 s.line, .int .i64 cl, .int .i64 s.val]) := Lib.hid (by
        rw [List.take_add_one, List.getElem?_map, hsk, Option.map_some, Option.toList_some, lsCells_append]; rfl)
      have hsz := hbel.size
      clear hcell hsk
      go_upto_region 7 with (fail)
      have hBb : Blk (wr.alloc (.cells #[.int .i64 s.kind, .int .i64 s.file, .int .i64 s.line, .int .i64 s.col, .int .i64 s.val] 29)) wr.heap.size 29 [.int .i64 s.kind, .int .i64 s.file, .int .i64 s.line, .int .i64 s.col, .int .i64 s.val] := Blk.new wr _ [_, _, _, _, _]
      have hba : Bel wr (wr.alloc (.cells #[.int .i64 s.kind, .int .i64 s.file, .int .i64 s.line, .int .i64 s.col, .int .i64 s.val] 29)) := (Bel.refl wr).alloc _
      have hzz : (wr.alloc (.cells #[.int .i64 s.kind, .int .i64 s.file, .int .i64 s.line, .int .i64 s.col, .int .i64 s.val] 29)).heap.size = wr.heap.size + 1 := by simp
      have HB3 := Lib.hid (And.intro hBb (And.intro hba hzz))
      clear hBb hba hzz
      generalize wr.alloc (.cells #[.int .i64 s.kind, .int .i64 s.file, .int .i64 s.line, .int .i64 s.col, .int .i64 s.val] 29) = w3 at HB3 ⊢
      have m3 : w3.cell? ⟨wr.heap.size, 3, none⟩ = some (.int .i64 s.col) := HB3.out.1.cell 3
      have f3 := HB3.out.1.frozen 3
      clear t0 t1 t2 t3 t4
      go_upto_region 8 with (fail)
      have hB4 : Blk (w3.setCell ⟨wr.heap.size, 3, none⟩ (.int .i64 cl)) wr.heap.size 29 [.int .i64 s.kind, .int .i64 s.file, .int .i64 s.line, .int .i64 cl, .int .i64 s.val] := HB3.out.1.set 3 _
      have hb4 : Bel wr (w3.setCell ⟨wr.heap.size, 3, none⟩ (.int .i64 cl)) := Below.setCell HB3.out.2.1 (p := ⟨wr.heap.size, 3, none⟩) (Nat.le_refl _) _
      have HB4 := Lib.hid (And.intro hB4 hb4)
      clear hB4 hb4 m3 f3 HB3
      generalize w3.setCell ⟨wr.heap.size, 3, none⟩ (.int .i64 cl) = w4 at HB4 ⊢
      have s0 : w4.cell? ⟨wr.heap.size, 0, none⟩ = some (.int .i64 s.kind) := HB4.out.1.cell 0
      have s1 : w4.cell? ⟨wr.heap.size, 1, none⟩ = some (.int .i64 s.file) := HB4.out.1.cell 1
      have s2 : w4.cell? ⟨wr.heap.size, 2, none⟩ = some (.int .i64 s.line) := HB4.out.1.cell 2
      have s3 : w4.cell? ⟨wr.heap.size, 3, none⟩ = some (.int .i64 cl) := HB4.out.1.cell 3
      have s4 : w4.cell? ⟨wr.heap.size, 4, none⟩ = some (.int .i64 s.val) := HB4.out.1.cell 4
      have hz4 : w.heap.size ≤ w4.heap.size := (hbel.trans HB4.out.2).size
      go_wp2_with (at_builtin; refine wpList_push elLs rfl _ _ rfl w.heap.size u7 j _ rfl (own_bel HO.out HB4.out.2) [.int .i64 s.kind, .int .i64 s.file, .int .i64 s.line, .int .i64 cl, .int .i64 s.val] w4.heap.size rfl rfl rfl (by simp [Value.oneCell']) (by omega) (by omega) hz4 ?_)
      intro u5 w5 ho5 hg5 _
      have HN : Hid (w5.ownsRow w.heap.size 29 5 u5 (j + 1) (lsCells ((S.map (setCol cl)).take (j + 1))) ∧ Bel w w5) := Lib.hid
        ⟨by rw [HT.out]; exact ho5, (hbel.trans HB4.out.2).grown hg5 (fun q hq => ((own_bel HO.out HB4.out.2).lt q hq).1)⟩
      clear ho5 hg5 s0 s1 s2 s3 s4 HB4 hbel HO
      go_wp2
      go_roundw
      case rel => exact ⟨j + 1, by omega, by go_num, HN.out⟩
      case measure => simp [intOf]; omega
    · obtain rfl : j = n2 := by omega
      obtain ⟨x7, y7, rfl, _, _, _⟩ := own_form HO.out
      have HO2 : Hid (LSt wr x7 j (S.map (setCol cl))) := Lib.hid (by
        have h := LSt.own HO.out
        rwa [List.take_of_length_le (by rw [List.length_map, HS.out.1]; exact Nat.le_refl _)] at h)
      have HBE := Lib.hid hbel
      clear hbel HO
      go_wp2_with fail
      refine (known_any a1 n1 c1 R a2 j c2 S wr (ents_bel HR.out HBE.out) (HS.out.bel HBE.out)).mono ?_
      rintro e w1 ⟨k1, rfl, hQ, hb1⟩
      cases k1
      · clear hQ
        go_wp2
        go_ret
        exact ⟨rfl, HBE.out.trans hb1⟩
      have HQ := Lib.hid (hQ rfl); clear hQ
      have HB1 := Lib.hid (And.intro (HBE.out.trans hb1) (HO2.out.bel hb1))
      clear hb1
      go_wp2_with fail
      refine (known_any a1 n1 c1 R x7 j y7 (S.map (setCol cl)) w1 (ents_bel HR.out HB1.out.1) HB1.out.2).mono ?_
      rintro e w2 ⟨k2, rfl, hQ, hb2⟩
      cases k2
      · clear hQ
        go_wp2
        go_ret
        exact ⟨rfl, HB1.out.1.trans hb2⟩
      have HQ2 := Lib.hid (hQ rfl); clear hQ
      have HB2 := Lib.hid (And.intro (HB1.out.1.trans hb2) (HB1.out.2.bel hb2))
      clear hb2 HO2 HBE HB1
      have hr1 := HR.out.1
      have hs1 := HS.out.1
      have hn1 : n1 ≤ 20 := by have := HQ.out.nr; omega
      have hn2 : j ≤ 500 := by have := HQ.out.ns; omega
      have HLI := Lib.hid (lines_any a1 n1 c1 R a2 j c2 S w2 (ents_bel HR.out HB2.out.1) (HS.out.bel HB2.out.1) HQ.out.ro (fun s hs => by rw [← hr1]; exact (HQ.out.so s hs).1) hn1 (by omega))
      have HRS := Lib.hid (And.intro hr1 hs1)
      clear hr1 hs1
      go_wp2_with fail
      refine HLI.out.mono ?_
      rintro e w3 ⟨v1, A1, rfl, hA1, hRun1, hb3⟩
      have HB3 := Lib.hid (And.intro (HB2.out.1.trans hb3) (HB2.out.2.bel hb3))
      rw [← HRS.out.1] at hRun1
      have HRUN1 := Lib.hid hRun1
      have HA1 := Lib.hid hA1
      clear hA1 hb3 HLI HB2 hRun1
      have HLI := Lib.hid (lines_any a1 n1 c1 R x7 j y7 (S.map (setCol cl)) w3 (ents_bel HR.out HB3.out.1) HB3.out.2 HQ2.out.ro (fun s hs => by rw [← HRS.out.1]; exact (HQ2.out.so s hs).1) hn1 (by omega))
      go_wp2_with fail
      refine HLI.out.mono ?_
      rintro e w4 ⟨v2, A2, rfl, hA2, hRun2, hb4⟩
      have HB4 := Lib.hid (HB3.out.1.trans hb4)
      rw [← HRS.out.1] at hRun2
      have HRUN2 := Lib.hid hRun2
      have hl1 : A1.length = j := by rw [HRUN1.out.1, HRS.out.2]
      have hl2 : A2.length = j := by rw [HRUN2.out.1, List.length_map, HRS.out.2]
      obtain ⟨x1, q1, rfl, hq1, hm1, hC1⟩ := HA1.out.bel hb4
      obtain ⟨x2, q2, rfl, hq2, hm2, hC2⟩ := hA2
      rw [hl1] at hq1 ⊢
      rw [hl2] at hq2 ⊢
      have HC := Lib.hid (And.intro hC1 hC2)
      have HLL := Lib.hid (And.intro hl1 hl2)
      clear hb4 HLI hRun2 HB3 HA1 hC1 hC2 hl1 hl2
      go_wp2
      go_loopw [69] (fun i wq => ∃ k : Nat, k ≤ j ∧ i = .int .i64 k ∧ Bel w wq ∧ Bel w4 wq) (fun i _ => j - (intOf i).toNat)
      case atStart => exact ⟨0, Nat.zero_le _, rfl, HB4.out, Bel.refl _⟩
      case round =>
        obtain ⟨k, hk, rfl, hbel, hb4⟩ := hrel
        have HBE := Lib.hid (And.intro hbel hb4)
        by_cases hlk : k < j
        · obtain ⟨s, hsk⟩ : ∃ s, S[k]? = some s := ⟨_, List.getElem?_eq_getElem (by rw [HRS.out.2]; exact hlk)⟩
          obtain ⟨a, hak⟩ : ∃ a, A1[k]? = some a := ⟨_, List.getElem?_eq_getElem (by rw [HLL.out.1]; exact hlk)⟩
          obtain ⟨b, hbk⟩ : ∃ b, A2[k]? = some b := ⟨_, List.getElem?_eq_getElem (by rw [HLL.out.2]; exact hlk)⟩
          have hP1 := run_ans HQ.out.ro HQ.out.so HRUN1.out hsk hak
          have hP2 := run_ans HQ2.out.ro HQ2.out.so HRUN2.out (show (S.map (setCol cl))[k]? = some (setCol cl s) by rw [List.getElem?_map, hsk]; rfl) hbk
          rw [runL_col] at hP2
          have hok : b.ok = a.ok := by rw [hP1.ok, hP2.ok]; rfl
          have hval : b.val = a.val := by rw [hP1.val, hP2.val]; rfl
          obtain ⟨T, e1, e2, e3, g7, g0⟩ := hP2.told
          have HSQ := Lib.hid (told_same (run_KL HQ.out.ro HQ.out.so k).nd (s := s) (s' := setCol cl s) rfl hP1 g7 g0)
          have hTl : T.length ≤ 500 := by
            by_cases k7 : (setCol cl s).kind = 7
            · rw [(g7 k7).length_eq]
              have := runL_length (fsOf R) (lsOf R) S k
              omega
            · rw [g0 k7]; simp
          obtain ⟨ab1, rfl, hc1⟩ := HC.out.1 (by rw [HLL.out.1]; omega)
          obtain ⟨ab2, rfl, hc2⟩ := HC.out.2 (by rw [HLL.out.2]; omega)
          obtain ⟨u1, u2, u3, p0, p1, p2, p3, p4, i1, i2, i3⟩ := hc1 k a hak
          obtain ⟨v1, v2, v3, r0, r1, r2, r3, r4, j1, j2, j3⟩ := hc2 k b hbk
          rw [hok] at r0
          rw [hval] at r1
          rw [e1] at j1
          rw [e2] at j2
          rw [e3] at j3
          have HIA := Lib.hid (And.intro i1 (And.intro i2 i3))
          obtain ⟨ex1, ec1, rfl, _, _, _⟩ := i1
          obtain ⟨ex2, ec2, rfl, _, _, _⟩ := i2
          obtain ⟨ex3, ec3, rfl, _, _, _⟩ := i3
          obtain ⟨na1, hna1⟩ : ∃ n, n = a.files.length := ⟨_, rfl⟩
          obtain ⟨na2, hna2⟩ : ∃ n, n = a.lines.length := ⟨_, rfl⟩
          obtain ⟨na3, hna3⟩ : ∃ n, n = a.vals.length := ⟨_, rfl⟩
          rw [← hna1] at HIA p2
          rw [← hna2] at HIA p3
          rw [← hna3] at HIA p4
          have HNA := Lib.hid (And.intro hna1 (And.intro hna2 hna3))
          clear hna1 hna2 hna3
          obtain ⟨fx, fc, rfl, hf1, hf2, hfc⟩ := j1
          obtain ⟨lx, lc, rfl, hl1, hl2, hlc⟩ := j2
          obtain ⟨vx, vc, rfl, hv1, hv2, hvc⟩ := j3
          rw [List.length_map] at hf1 hl1 hv1 hfc hlc hvc r2 r3 r4
          have HRV := Lib.hid (And.intro r0 (And.intro r1 (And.intro r2 (And.intro r3 r4))))
          have HPV := Lib.hid (And.intro p0 (And.intro p1 (And.intro p2 (And.intro p3 p4))))
          have HTC := Lib.hid (And.intro hfc (And.intro hlc hvc))
          clear hsk hak hbk hP1 hP2 hok hval e1 e2 e3 g7 g0 hc1 hc2 hfc hlc hvc r0 r1 r3 r4
          generalize a.ok = ok at HRV HPV
          generalize a.val = va at HRV HPV
          generalize hnT : T.length = nT at *
          have HNT := Lib.hid hnT; clear hnT
          replace p0 := hb4.cell HPV.out.1
          replace p1 := hb4.cell HPV.out.2.1
          replace p2 := hb4.cell HPV.out.2.2.1
          replace p3 := hb4.cell HPV.out.2.2.2.1
          replace p4 := hb4.cell HPV.out.2.2.2.2
          have r2 := hb4.cell HRV.out.2.2.1
          have hbA : Bel wr (wr.alloc (.cells #[.bool ok, .int .i64 va, .slice ex1 na1 ec1, .slice ex2 na2 ec2, .slice ex3 na3 ec3] 33)) := (Bel.refl wr).alloc _
          have hBB : Blk (wr.alloc (.cells #[.bool ok, .int .i64 va, .slice ex1 na1 ec1, .slice ex2 na2 ec2, .slice ex3 na3 ec3] 33)) wr.heap.size 33 [.bool ok, .int .i64 va, .slice ex1 na1 ec1, .slice ex2 na2 ec2, .slice ex3 na3 ec3] := Blk.new wr _ [_, _, _, _, _]
          have hE : ((wr.alloc (.cells #[.bool ok, .int .i64 va, .slice ex1 na1 ec1, .slice ex2 na2 ec2, .slice ex3 na3 ec3] 33)).alloc (.cells #[] 37)).ownsRow (wr.alloc (.cells #[.bool ok, .int .i64 va, .slice ex1 na1 ec1, .slice ex2 na2 ec2, .slice ex3 na3 ec3] 33)).heap.size 37 3 (.slice (some ⟨wr.heap.size + 1, 0, none⟩) 0 0) 0 (lnCells (T.take 0)) := owns_empty _ _ _ 3 _ (by simp) (by simp)
          have HB5 := Lib.hid (And.intro ((Bel.refl wr).alloc _ |>.alloc (.cells #[] 37) : Bel wr ((wr.alloc (.cells #[.bool ok, .int .i64 va, .slice ex1 na1 ec1, .slice ex2 na2 ec2, .slice ex3 na3 ec3] 33)).alloc (.cells #[] 37))) (And.intro (hBB.alloc (.cells #[] 37)) hE))
          have r2' := (show Bel wr ((wr.alloc (.cells #[.bool ok, .int .i64 va, .slice ex1 na1 ec1, .slice ex2 na2 ec2, .slice ex3 na3 ec3] 33)).alloc (.cells #[] 37)) from HB5.out.1).cell r2
          clear hbA hBB hE
          have HZ : Hid (w.heap.size ≤ (wr.alloc (.cells #[.bool ok, .int .i64 va, .slice ex1 na1 ec1, .slice ex2 na2 ec2, .slice ex3 na3 ec3] 33)).heap.size ∧ w4.heap.size ≤ (wr.alloc (.cells #[.bool ok, .int .i64 va, .slice ex1 na1 ec1, .slice ex2 na2 ec2, .slice ex3 na3 ec3] 33)).heap.size) := Lib.hid (by
            have h1 := HBE.out.1.size
            have h2 := HBE.out.2.size
            rw [World.size_alloc]
            omega)
          have HS6 : Hid (((wr.alloc (.cells #[.bool ok, .int .i64 va, .slice ex1 na1 ec1, .slice ex2 na2 ec2, .slice ex3 na3 ec3] 33)).alloc (.cells #[] 37)).ownsRow (wr.alloc (.cells #[.bool ok, .int .i64 va, .slice ex1 na1 ec1, .slice ex2 na2 ec2, .slice ex3 na3 ec3] 33)).heap.size 37 3 (.slice (some ⟨wr.heap.size + 1, 0, none⟩) 0 0) 0 (lnCells (T.take 0)) ∧ Blk ((wr.alloc (.cells #[.bool ok, .int .i64 va, .slice ex1 na1 ec1, .slice ex2 na2 ec2, .slice ex3 na3 ec3] 33)).alloc (.cells #[] 37)) wr.heap.size 33 [.bool ok, .int .i64 va, .slice ex1 na1 ec1, .slice ex2 na2 ec2, .slice ex3 na3 ec3] ∧ Bel w ((wr.alloc (.cells #[.bool ok, .int .i64 va, .slice ex1 na1 ec1, .slice ex2 na2 ec2, .slice ex3 na3 ec3] 33)).alloc (.cells #[] 37)) ∧ Bel w4 ((wr.alloc (.cells #[.bool ok, .int .i64 va, .slice ex1 na1 ec1, .slice ex2 na2 ec2, .slice ex3 na3 ec3] 33)).alloc (.cells #[] 37)) ∧ (wr.alloc (.cells #[.bool ok, .int .i64 va, .slice ex1 na1 ec1, .slice ex2 na2 ec2, .slice ex3 na3 ec3] 33)).heap.size ≤ ((wr.alloc (.cells #[.bool ok, .int .i64 va, .slice ex1 na1 ec1, .slice ex2 na2 ec2, .slice ex3 na3 ec3] 33)).alloc (.cells #[] 37)).heap.size) := Lib.hid
            ⟨HB5.out.2.2, HB5.out.2.1, HBE.out.1.trans HB5.out.1, HBE.out.2.trans HB5.out.1, by simp⟩
          go_wp2
          generalize (wr.alloc (.cells #[.bool ok, .int .i64 va, .slice ex1 na1 ec1, .slice ex2 na2 ec2, .slice ex3 na3 ec3] 33)).heap.size = B6 at HZ HS6
          generalize (wr.alloc (.cells #[.bool ok, .int .i64 va, .slice ex1 na1 ec1, .slice ex2 na2 ec2, .slice ex3 na3 ec3] 33)).alloc (.cells #[] 37) = w6 at HS6 ⊢
          generalize wr.heap.size = bx at HS6 ⊢
          clear r2 r2' p0 p1 p2 p3 p4 HB5 hbel hb4 HBE
          go_loopw [14, 81] (fun t i wq => ∃ q : Nat, q ≤ nT ∧ i = .int .i64 q ∧ wq.ownsRow B6 37 3 t q (lnCells (T.take q)) ∧ Blk wq bx 33 [.bool ok, .int .i64 va, .slice ex1 na1 ec1, .slice ex2 na2 ec2, .slice ex3 na3 ec3] ∧ Bel w wq ∧ Bel w4 wq ∧ B6 ≤ wq.heap.size) (fun _ i _ => nT - (intOf i).toNat)
          case atStart => exact ⟨0, Nat.zero_le _, rfl, HS6.out⟩
          case round =>
            obtain ⟨q, hq, rfl, hS⟩ := hrel
            have HS7 := Lib.hid hS; clear hS HS6
            by_cases hlq : q < nT
            · obtain ⟨hfc, hlc, hvc⟩ := HTC.out
              obtain ⟨fb, fo, rfl, kfc⟩ := hfc (by omega)
              obtain ⟨lb, lo, rfl, klc⟩ := hlc (by omega)
              obtain ⟨vb, vo, rfl, kvc⟩ := hvc (by omega)
              obtain ⟨e, he⟩ : ∃ e, T[q]? = some e := ⟨_, List.getElem?_eq_getElem (by rw [HNT.out]; exact hlq)⟩
              have d1 := HS7.out.2.2.2.1.cell (kfc q e.file (by rw [List.getElem?_map, he]; rfl))
              have d2 := HS7.out.2.2.2.1.cell (klc q e.line (by rw [List.getElem?_map, he]; rfl))
              have d3 := HS7.out.2.2.2.1.cell (kvc q e.val (by rw [List.getElem?_map, he]; rfl))
              have r3 := HS7.out.2.2.2.1.cell HRV.out.2.2.2.1
              have r4 := HS7.out.2.2.2.1.cell HRV.out.2.2.2.2
              have HTQ : Hid (lnCells (T.take (q + 1)) = lnCells (T.take q) ++ [.int .i64 e.file, .int .i64 e.line, .int .i64 e.val]) := Lib.hid (by
                rw [List.take_add_one, he, Option.toList_some, lnCells_append]; rfl)
              have j0 : (0 : Int) ≤ (q : Int) := by omega
              have j1 : (q : Int) < (nT : Int) := by omega
              have j2 : (0 : Int) ≤ (k : Int) := by omega
              have j3 : (k : Int) < (j : Int) := by omega
              clear hfc hlc hvc kfc
              go_upto_region 22 with (fail)
              obtain ⟨f, l, x⟩ := e
              simp only at d1 d2 d3 HTQ
              have HNB : Hid (∀ g, g < w4.heap.size → g ∉ u14.ownBlock.toList) := Lib.hid (fun g hg hm => by
                have h1 := (HS7.out.1.lt g (by simpa using hm)).1
                have h2 := HZ.out.2
                omega)
              have HEI : Hid (ZI 19 20 wr B6 q (lnCells (T.take q)) u14 f l x (fun _ => false) 0 (.bool false) wr.drew) := Lib.hid
                ⟨(Kept.refl _ wr).drew, fun _ => own_bel HS7.out.1 (Bel.refl wr).drew, (fun h => by cases h), (fun h => by cases h)⟩
              have HCL := Lib.hid (And.intro (World.block_lt_of_cell? w4 _ HRV.out.1) (And.intro (World.block_lt_of_cell? w4 _ (klc q l (by rw [List.getElem?_map, he]; rfl))) (World.block_lt_of_cell? w4 _ (kvc q x (by rw [List.getElem?_map, he]; rfl)))))
              clear klc kvc he
              refine act_name (fun a0 ha0 => ?_)
              have so14 : a0.eval (.tmp 14) = u14 := by rw [ha0]; rfl
              have so16 : a0.eval (.tmp 16) = .int .i64 f := by rw [ha0]; rfl
              have so11 : a0.eval (.tmp 11) = .slice (some ⟨ab2, 0, none⟩) j q2 := by rw [ha0]; rfl
              have so12 : a0.eval (.tmp 12) = .int .i64 (k : Int) := by rw [ha0]; rfl
              have so15 : a0.eval (.tmp 15) = .int .i64 (q : Int) := by rw [ha0]; rfl
              have hsz : a0.tmps.size = 133 := by rw [ha0]; rfl
              have HA0 := Lib.hid ha0; clear ha0
              refine region_obs3 (fun D a' W => ∃ (b : Nat) (v : Value), a' = frC a0 D (VK22 u14 f l x ab2 j q2 k lb lo nT lc q vb vo vc b v) ∧ ZI 19 20 wr B6 q (lnCells (T.take q)) u14 f l x D b v W) (by kernel_rfl) (by kernel_rfl) ⟨0, .bool false, (frC_none _ _).symm, HEI.out⟩ ?_ ?_
              · refine ⟨?_, ?_, ?_, ?_, ?_, ?_, ?_, ?_, ?_, ?_, ?_, ?_, ?_, ?_, ?_, ?_, ?_, ?_, ?_, ?_, ?_, ?_, trivial⟩
                · rintro D _ W hD hcl hdeps ⟨b, v, rfl, hW⟩
                  have hm21 : D 21 = false := by cases h : D 21; rfl; have := hcl 21 _ rfl h ⟨0, .phase⟩ (by simp) rfl; rw [hD] at this; cases this
                  have e14 := ev_get ((frC_wait (a0 := a0) (D := D) (t := 14) (vs := VK22 u14 f l x ab2 j q2 k lb lo nT lc q vb vo vc b v) (fun e he ht => by simp only [VK22, List.mem_cons, List.not_mem_nil, or_false] at he; rcases he with rfl | rfl | rfl | rfl | rfl | rfl | rfl | rfl | rfl | rfl | rfl | rfl | rfl | rfl | rfl | rfl | rfl | rfl | rfl | rfl | rfl | rfl <;> first | exact hm21 | (simp at ht))).trans so14)
                  refine ob_val rfl (v := u14) (by simp [execOp, go_sem, e14]) ⟨b, v, frC_put hD (by simp [VK22]) (VK22_nd _ _ _ _ _ _ _ _ _ _ _ _ _ _ _ _ _ _) (VK22_nd' _ _ _ _ _ _ _ _ _ _ _ _ _ _ _ _ _ _), hW.quiet (by decide) (by decide)⟩
                · rintro D _ W hD hcl hdeps ⟨b, v, rfl, hW⟩
                  have e16 := ev_get ((frC_out (a0 := a0) (D := D) (VK22_not16 u14 f l x ab2 j q2 k lb lo nT lc q vb vo vc b v)).trans so16)
                  refine ob_val rfl (v := .int .i64 f) (by simp [execOp, go_sem, e16]) ⟨b, v, frC_put hD (by simp [VK22]) (VK22_nd _ _ _ _ _ _ _ _ _ _ _ _ _ _ _ _ _ _) (VK22_nd' _ _ _ _ _ _ _ _ _ _ _ _ _ _ _ _ _ _), hW.quiet (by decide) (by decide)⟩
                · rintro D _ W hD hcl hdeps ⟨b, v, rfl, hW⟩
                  have e11 := ev_get ((frC_out (a0 := a0) (D := D) (VK22_not11 u14 f l x ab2 j q2 k lb lo nT lc q vb vo vc b v)).trans so11)
                  refine ob_val rfl (v := .slice (some ⟨ab2, 0, none⟩) j q2) (by simp [execOp, go_sem, e11]) ⟨b, v, frC_put hD (by simp [VK22]) (VK22_nd _ _ _ _ _ _ _ _ _ _ _ _ _ _ _ _ _ _) (VK22_nd' _ _ _ _ _ _ _ _ _ _ _ _ _ _ _ _ _ _), hW.quiet (by decide) (by decide)⟩
                · rintro D _ W hD hcl hdeps ⟨b, v, rfl, hW⟩
                  have e12 := ev_get ((frC_out (a0 := a0) (D := D) (VK22_not12 u14 f l x ab2 j q2 k lb lo nT lc q vb vo vc b v)).trans so12)
                  refine ob_val rfl (v := .int .i64 (k : Int)) (by simp [execOp, go_sem, e12]) ⟨b, v, frC_put hD (by simp [VK22]) (VK22_nd _ _ _ _ _ _ _ _ _ _ _ _ _ _ _ _ _ _) (VK22_nd' _ _ _ _ _ _ _ _ _ _ _ _ _ _ _ _ _ _), hW.quiet (by decide) (by decide)⟩
                · rintro D _ W hD hcl hdeps ⟨b, v, rfl, hW⟩
                  have hd2 : D 2 = true := hdeps ⟨2, .data⟩ (by simp) rfl
                  have e88 := ev_get (frC_in (v := .slice (some ⟨ab2, 0, none⟩) j q2) hd2 (show 88 < a0.tmps.size by rw [hsz]; decide) (vs := VK22 u14 f l x ab2 j q2 k lb lo nT lc q vb vo vc b v) (by simp [VK22]) (VK22_nd _ _ _ _ _ _ _ _ _ _ _ _ _ _ _ _ _ _))
                  have hd3 : D 3 = true := hdeps ⟨3, .data⟩ (by simp) rfl
                  have e89 := ev_get (frC_in (v := .int .i64 (k : Int)) hd3 (show 89 < a0.tmps.size by rw [hsz]; decide) (vs := VK22 u14 f l x ab2 j q2 k lb lo nT lc q vb vo vc b v) (by simp [VK22]) (VK22_nd _ _ _ _ _ _ _ _ _ _ _ _ _ _ _ _ _ _))
                  refine ob_val rfl (v := .pointer (some ⟨ab2, k * 5, none⟩)) (by simp [execOp, go_sem, e88, e89, j2, j3]) ⟨b, v, frC_put hD (by simp [VK22]) (VK22_nd _ _ _ _ _ _ _ _ _ _ _ _ _ _ _ _ _ _) (VK22_nd' _ _ _ _ _ _ _ _ _ _ _ _ _ _ _ _ _ _), hW.quiet (by decide) (by decide)⟩
                · rintro D _ W hD hcl hdeps ⟨b, v, rfl, hW⟩
                  have hd4 : D 4 = true := hdeps ⟨4, .data⟩ (by simp) rfl
                  have e90 := ev_get (frC_in (v := .pointer (some ⟨ab2, k * 5, none⟩)) hd4 (show 90 < a0.tmps.size by rw [hsz]; decide) (vs := VK22 u14 f l x ab2 j q2 k lb lo nT lc q vb vo vc b v) (by simp [VK22]) (VK22_nd _ _ _ _ _ _ _ _ _ _ _ _ _ _ _ _ _ _))
                  refine ob_val rfl (v := .pointer (some ⟨ab2, k * 5 + 3, none⟩)) (by simp [execOp, go_sem, e90]) ⟨b, v, frC_put hD (by simp [VK22]) (VK22_nd _ _ _ _ _ _ _ _ _ _ _ _ _ _ _ _ _ _) (VK22_nd' _ _ _ _ _ _ _ _ _ _ _ _ _ _ _ _ _ _), hW.quiet (by decide) (by decide)⟩
                · rintro D _ W hD hcl hdeps ⟨b, v, rfl, hW⟩
                  have hd5 : D 5 = true := hdeps ⟨5, .data⟩ (by simp) rfl
                  have e91 := ev_get (frC_in (v := .pointer (some ⟨ab2, k * 5 + 3, none⟩)) hd5 (show 91 < a0.tmps.size by rw [hsz]; decide) (vs := VK22 u14 f l x ab2 j q2 k lb lo nT lc q vb vo vc b v) (by simp [VK22]) (VK22_nd _ _ _ _ _ _ _ _ _ _ _ _ _ _ _ _ _ _))
                  have z0 := hW.kp.cell r3 (HNB.out _ HCL.out.1)
                  refine ob_val rfl (v := .slice (some ⟨lb, lo, none⟩) nT lc) (by simp [execOp, go_sem, e91, z0]) ⟨b, v, frC_put hD (by simp [VK22]) (VK22_nd _ _ _ _ _ _ _ _ _ _ _ _ _ _ _ _ _ _) (VK22_nd' _ _ _ _ _ _ _ _ _ _ _ _ _ _ _ _ _ _), hW.quiet (by decide) (by decide)⟩
                · rintro D _ W hD hcl hdeps ⟨b, v, rfl, hW⟩
                  have e15 := ev_get ((frC_out (a0 := a0) (D := D) (VK22_not15 u14 f l x ab2 j q2 k lb lo nT lc q vb vo vc b v)).trans so15)
                  refine ob_val rfl (v := .int .i64 (q : Int)) (by simp [execOp, go_sem, e15]) ⟨b, v, frC_put hD (by simp [VK22]) (VK22_nd _ _ _ _ _ _ _ _ _ _ _ _ _ _ _ _ _ _) (VK22_nd' _ _ _ _ _ _ _ _ _ _ _ _ _ _ _ _ _ _), hW.quiet (by decide) (by decide)⟩
                · rintro D _ W hD hcl hdeps ⟨b, v, rfl, hW⟩
                  have hd6 : D 6 = true := hdeps ⟨6, .data⟩ (by simp) rfl
                  have e92 := ev_get (frC_in (v := .slice (some ⟨lb, lo, none⟩) nT lc) hd6 (show 92 < a0.tmps.size by rw [hsz]; decide) (vs := VK22 u14 f l x ab2 j q2 k lb lo nT lc q vb vo vc b v) (by simp [VK22]) (VK22_nd _ _ _ _ _ _ _ _ _ _ _ _ _ _ _ _ _ _))
                  have hd7 : D 7 = true := hdeps ⟨7, .data⟩ (by simp) rfl
                  have e93 := ev_get (frC_in (v := .int .i64 (q : Int)) hd7 (show 93 < a0.tmps.size by rw [hsz]; decide) (vs := VK22 u14 f l x ab2 j q2 k lb lo nT lc q vb vo vc b v) (by simp [VK22]) (VK22_nd _ _ _ _ _ _ _ _ _ _ _ _ _ _ _ _ _ _))
                  refine ob_val rfl (v := .pointer (some ⟨lb, lo + q, none⟩)) (by simp [execOp, go_sem, e92, e93, j0, j1]) ⟨b, v, frC_put hD (by simp [VK22]) (VK22_nd _ _ _ _ _ _ _ _ _ _ _ _ _ _ _ _ _ _) (VK22_nd' _ _ _ _ _ _ _ _ _ _ _ _ _ _ _ _ _ _), hW.quiet (by decide) (by decide)⟩
                · rintro D _ W hD hcl hdeps ⟨b, v, rfl, hW⟩
                  have hd8 : D 8 = true := hdeps ⟨8, .data⟩ (by simp) rfl
                  have e94 := ev_get (frC_in (v := .pointer (some ⟨lb, lo + q, none⟩)) hd8 (show 94 < a0.tmps.size by rw [hsz]; decide) (vs := VK22 u14 f l x ab2 j q2 k lb lo nT lc q vb vo vc b v) (by simp [VK22]) (VK22_nd _ _ _ _ _ _ _ _ _ _ _ _ _ _ _ _ _ _))
                  have z0 := hW.kp.cell d2 (HNB.out _ HCL.out.2.1)
                  refine ob_val rfl (v := .int .i64 l) (by simp [execOp, go_sem, e94, z0]) ⟨b, v, frC_put hD (by simp [VK22]) (VK22_nd _ _ _ _ _ _ _ _ _ _ _ _ _ _ _ _ _ _) (VK22_nd' _ _ _ _ _ _ _ _ _ _ _ _ _ _ _ _ _ _), hW.quiet (by decide) (by decide)⟩
                · rintro D _ W hD hcl hdeps ⟨b, v, rfl, hW⟩
                  have e11 := ev_get ((frC_out (a0 := a0) (D := D) (VK22_not11 u14 f l x ab2 j q2 k lb lo nT lc q vb vo vc b v)).trans so11)
                  refine ob_val rfl (v := .slice (some ⟨ab2, 0, none⟩) j q2) (by simp [execOp, go_sem, e11]) ⟨b, v, frC_put hD (by simp [VK22]) (VK22_nd _ _ _ _ _ _ _ _ _ _ _ _ _ _ _ _ _ _) (VK22_nd' _ _ _ _ _ _ _ _ _ _ _ _ _ _ _ _ _ _), hW.quiet (by decide) (by decide)⟩
                · rintro D _ W hD hcl hdeps ⟨b, v, rfl, hW⟩
                  have e12 := ev_get ((frC_out (a0 := a0) (D := D) (VK22_not12 u14 f l x ab2 j q2 k lb lo nT lc q vb vo vc b v)).trans so12)
                  refine ob_val rfl (v := .int .i64 (k : Int)) (by simp [execOp, go_sem, e12]) ⟨b, v, frC_put hD (by simp [VK22]) (VK22_nd _ _ _ _ _ _ _ _ _ _ _ _ _ _ _ _ _ _) (VK22_nd' _ _ _ _ _ _ _ _ _ _ _ _ _ _ _ _ _ _), hW.quiet (by decide) (by decide)⟩
                · rintro D _ W hD hcl hdeps ⟨b, v, rfl, hW⟩
                  have hd10 : D 10 = true := hdeps ⟨10, .data⟩ (by simp) rfl
                  have e96 := ev_get (frC_in (v := .slice (some ⟨ab2, 0, none⟩) j q2) hd10 (show 96 < a0.tmps.size by rw [hsz]; decide) (vs := VK22 u14 f l x ab2 j q2 k lb lo nT lc q vb vo vc b v) (by simp [VK22]) (VK22_nd _ _ _ _ _ _ _ _ _ _ _ _ _ _ _ _ _ _))
                  have hd11 : D 11 = true := hdeps ⟨11, .data⟩ (by simp) rfl
                  have e97 := ev_get (frC_in (v := .int .i64 (k : Int)) hd11 (show 97 < a0.tmps.size by rw [hsz]; decide) (vs := VK22 u14 f l x ab2 j q2 k lb lo nT lc q vb vo vc b v) (by simp [VK22]) (VK22_nd _ _ _ _ _ _ _ _ _ _ _ _ _ _ _ _ _ _))
                  refine ob_val rfl (v := .pointer (some ⟨ab2, k * 5, none⟩)) (by simp [execOp, go_sem, e96, e97, j2, j3]) ⟨b, v, frC_put hD (by simp [VK22]) (VK22_nd _ _ _ _ _ _ _ _ _ _ _ _ _ _ _ _ _ _) (VK22_nd' _ _ _ _ _ _ _ _ _ _ _ _ _ _ _ _ _ _), hW.quiet (by decide) (by decide)⟩
                · rintro D _ W hD hcl hdeps ⟨b, v, rfl, hW⟩
                  have hd12 : D 12 = true := hdeps ⟨12, .data⟩ (by simp) rfl
                  have e98 := ev_get (frC_in (v := .pointer (some ⟨ab2, k * 5, none⟩)) hd12 (show 98 < a0.tmps.size by rw [hsz]; decide) (vs := VK22 u14 f l x ab2 j q2 k lb lo nT lc q vb vo vc b v) (by simp [VK22]) (VK22_nd _ _ _ _ _ _ _ _ _ _ _ _ _ _ _ _ _ _))
                  refine ob_val rfl (v := .pointer (some ⟨ab2, k * 5 + 4, none⟩)) (by simp [execOp, go_sem, e98]) ⟨b, v, frC_put hD (by simp [VK22]) (VK22_nd _ _ _ _ _ _ _ _ _ _ _ _ _ _ _ _ _ _) (VK22_nd' _ _ _ _ _ _ _ _ _ _ _ _ _ _ _ _ _ _), hW.quiet (by decide) (by decide)⟩
                · rintro D _ W hD hcl hdeps ⟨b, v, rfl, hW⟩
                  have hd13 : D 13 = true := hdeps ⟨13, .data⟩ (by simp) rfl
                  have e99 := ev_get (frC_in (v := .pointer (some ⟨ab2, k * 5 + 4, none⟩)) hd13 (show 99 < a0.tmps.size by rw [hsz]; decide) (vs := VK22 u14 f l x ab2 j q2 k lb lo nT lc q vb vo vc b v) (by simp [VK22]) (VK22_nd _ _ _ _ _ _ _ _ _ _ _ _ _ _ _ _ _ _))
                  have z0 := hW.kp.cell r4 (HNB.out _ HCL.out.1)
                  refine ob_val rfl (v := .slice (some ⟨vb, vo, none⟩) nT vc) (by simp [execOp, go_sem, e99, z0]) ⟨b, v, frC_put hD (by simp [VK22]) (VK22_nd _ _ _ _ _ _ _ _ _ _ _ _ _ _ _ _ _ _) (VK22_nd' _ _ _ _ _ _ _ _ _ _ _ _ _ _ _ _ _ _), hW.quiet (by decide) (by decide)⟩
                · rintro D _ W hD hcl hdeps ⟨b, v, rfl, hW⟩
                  have e15 := ev_get ((frC_out (a0 := a0) (D := D) (VK22_not15 u14 f l x ab2 j q2 k lb lo nT lc q vb vo vc b v)).trans so15)
                  refine ob_val rfl (v := .int .i64 (q : Int)) (by simp [execOp, go_sem, e15]) ⟨b, v, frC_put hD (by simp [VK22]) (VK22_nd _ _ _ _ _ _ _ _ _ _ _ _ _ _ _ _ _ _) (VK22_nd' _ _ _ _ _ _ _ _ _ _ _ _ _ _ _ _ _ _), hW.quiet (by decide) (by decide)⟩
                · rintro D _ W hD hcl hdeps ⟨b, v, rfl, hW⟩
                  have hd14 : D 14 = true := hdeps ⟨14, .data⟩ (by simp) rfl
                  have e100 := ev_get (frC_in (v := .slice (some ⟨vb, vo, none⟩) nT vc) hd14 (show 100 < a0.tmps.size by rw [hsz]; decide) (vs := VK22 u14 f l x ab2 j q2 k lb lo nT lc q vb vo vc b v) (by simp [VK22]) (VK22_nd _ _ _ _ _ _ _ _ _ _ _ _ _ _ _ _ _ _))
                  have hd15 : D 15 = true := hdeps ⟨15, .data⟩ (by simp) rfl
                  have e101 := ev_get (frC_in (v := .int .i64 (q : Int)) hd15 (show 101 < a0.tmps.size by rw [hsz]; decide) (vs := VK22 u14 f l x ab2 j q2 k lb lo nT lc q vb vo vc b v) (by simp [VK22]) (VK22_nd _ _ _ _ _ _ _ _ _ _ _ _ _ _ _ _ _ _))
                  refine ob_val rfl (v := .pointer (some ⟨vb, vo + q, none⟩)) (by simp [execOp, go_sem, e100, e101, j0, j1]) ⟨b, v, frC_put hD (by simp [VK22]) (VK22_nd _ _ _ _ _ _ _ _ _ _ _ _ _ _ _ _ _ _) (VK22_nd' _ _ _ _ _ _ _ _ _ _ _ _ _ _ _ _ _ _), hW.quiet (by decide) (by decide)⟩
                · rintro D _ W hD hcl hdeps ⟨b, v, rfl, hW⟩
                  have hd16 : D 16 = true := hdeps ⟨16, .data⟩ (by simp) rfl
                  have e102 := ev_get (frC_in (v := .pointer (some ⟨vb, vo + q, none⟩)) hd16 (show 102 < a0.tmps.size by rw [hsz]; decide) (vs := VK22 u14 f l x ab2 j q2 k lb lo nT lc q vb vo vc b v) (by simp [VK22]) (VK22_nd _ _ _ _ _ _ _ _ _ _ _ _ _ _ _ _ _ _))
                  have z0 := hW.kp.cell d3 (HNB.out _ HCL.out.2.2)
                  refine ob_val rfl (v := .int .i64 x) (by simp [execOp, go_sem, e102, z0]) ⟨b, v, frC_put hD (by simp [VK22]) (VK22_nd _ _ _ _ _ _ _ _ _ _ _ _ _ _ _ _ _ _) (VK22_nd' _ _ _ _ _ _ _ _ _ _ _ _ _ _ _ _ _ _), hW.quiet (by decide) (by decide)⟩
                · rintro D _ W hD hcl hdeps ⟨b, v, rfl, hW⟩
                  have hd1 : D 1 = true := hdeps ⟨1, .data⟩ (by simp) rfl
                  have e87 := ev_get (frC_in (v := .int .i64 f) hd1 (show 87 < a0.tmps.size by rw [hsz]; decide) (vs := VK22 u14 f l x ab2 j q2 k lb lo nT lc q vb vo vc b v) (by simp [VK22]) (VK22_nd _ _ _ _ _ _ _ _ _ _ _ _ _ _ _ _ _ _))
                  have hd9 : D 9 = true := hdeps ⟨9, .data⟩ (by simp) rfl
                  have e95 := ev_get (frC_in (v := .int .i64 l) hd9 (show 95 < a0.tmps.size by rw [hsz]; decide) (vs := VK22 u14 f l x ab2 j q2 k lb lo nT lc q vb vo vc b v) (by simp [VK22]) (VK22_nd _ _ _ _ _ _ _ _ _ _ _ _ _ _ _ _ _ _))
                  have hd17 : D 17 = true := hdeps ⟨17, .data⟩ (by simp) rfl
                  have e103 := ev_get (frC_in (v := .int .i64 x) hd17 (show 103 < a0.tmps.size by rw [hsz]; decide) (vs := VK22 u14 f l x ab2 j q2 k lb lo nT lc q vb vo vc b v) (by simp [VK22]) (VK22_nd _ _ _ _ _ _ _ _ _ _ _ _ _ _ _ _ _ _))
                  refine ob_val rfl (v := .agg #[.int .i64 f, .int .i64 l, .int .i64 x]) (by simp [execOp, go_sem, e87, e95, e103]) ⟨b, v, frC_put hD (by simp [VK22]) (VK22_nd _ _ _ _ _ _ _ _ _ _ _ _ _ _ _ _ _ _) (VK22_nd' _ _ _ _ _ _ _ _ _ _ _ _ _ _ _ _ _ _), hW.quiet (by decide) (by decide)⟩
                · rintro D _ W hD hcl hdeps ⟨b, v, rfl, hW⟩
                  have hd18 : D 18 = true := hdeps ⟨18, .data⟩ (by simp) rfl
                  have e104 := ev_get (frC_in (v := .agg #[.int .i64 f, .int .i64 l, .int .i64 x]) hd18 (show 104 < a0.tmps.size by rw [hsz]; decide) (vs := VK22 u14 f l x ab2 j q2 k lb lo nT lc q vb vo vc b v) (by simp [VK22]) (VK22_nd _ _ _ _ _ _ _ _ _ _ _ _ _ _ _ _ _ _))
                  refine ob_val rfl (v := .slice (some ⟨W.heap.size, 0, none⟩) 1 1) (w' := W.alloc (.cells #[.int .i64 f, .int .i64 l, .int .i64 x] 37)) (by simp [execOp, go_sem, e104]) ⟨W.heap.size, v, by rw [show frC a0 D (VK22 u14 f l x ab2 j q2 k lb lo nT lc q vb vo vc b v) = frC a0 D (VK22 u14 f l x ab2 j q2 k lb lo nT lc q vb vo vc (W.heap.size) v) from by simp only [VK22, frC, hD, Bool.false_eq_true, if_false]]; exact frC_put hD (by simp [VK22]) (VK22_nd _ _ _ _ _ _ _ _ _ _ _ _ _ _ _ _ _ _) (VK22_nd' _ _ _ _ _ _ _ _ _ _ _ _ _ _ _ _ _ _), hW.box (by decide)⟩
                · rintro D _ W hD hcl hdeps ⟨b, v, rfl, hW⟩
                  have hd0 : D 0 = true := hdeps ⟨0, .data⟩ (by simp) rfl
                  have E86 := frC_in (v := u14) hd0 (show 86 < a0.tmps.size by rw [hsz]; decide) (vs := VK22 u14 f l x ab2 j q2 k lb lo nT lc q vb vo vc b v) (by simp [VK22]) (VK22_nd _ _ _ _ _ _ _ _ _ _ _ _ _ _ _ _ _ _)
                  have hd19 : D 19 = true := hdeps ⟨19, .data⟩ (by simp) rfl
                  have E105 := frC_in (v := .slice (some ⟨b, 0, none⟩) 1 1) hd19 (show 105 < a0.tmps.size by rw [hsz]; decide) (vs := VK22 u14 f l x ab2 j q2 k lb lo nT lc q vb vo vc b v) (by simp [VK22]) (VK22_nd _ _ _ _ _ _ _ _ _ _ _ _ _ _ _ _ _ _)
                  refine step_app elLn rfl (.tmp 86) (.tmp 105) rfl B6 u14 q (lnCells (T.take q)) E86 (hW.old hD) b [.int .i64 f, .int .i64 l, .int .i64 x] E105 (hW.blk hd19 hD) rfl (by simp [Value.oneCell']) (by omega) (by omega) (Nat.le_trans HS7.out.2.2.2.2 hW.kp.size) ?_
                  intro g7 cap7 w7 ho7 hg7 _ _
                  have hn21 : D 21 = false := by cases h : D 21; rfl; have := hcl 21 _ rfl h ⟨20, .data⟩ (by simp) rfl; rw [hD] at this; cases this
                  exact ⟨b, .slice (some ⟨g7, 0, none⟩) (q + 1) cap7, by rw [show frC a0 D (VK22 u14 f l x ab2 j q2 k lb lo nT lc q vb vo vc b v) = frC a0 D (VK22 u14 f l x ab2 j q2 k lb lo nT lc q vb vo vc b (.slice (some ⟨g7, 0, none⟩) (q + 1) cap7)) from by simp only [VK22, frC, hD, hn21, Bool.false_eq_true, if_false]]; exact frC_put hD (by simp [VK22]) (VK22_nd _ _ _ _ _ _ _ _ _ _ _ _ _ _ _ _ _ _) (VK22_nd' _ _ _ _ _ _ _ _ _ _ _ _ _ _ _ _ _ _), hW.app ho7 hg7⟩
                · rintro D _ W hD hcl hdeps ⟨b, v, rfl, hW⟩
                  have hd20 : D 20 = true := hdeps ⟨20, .data⟩ (by simp) rfl
                  have e106 := ev_get (frC_in (v := v) hd20 (show 106 < a0.tmps.size by rw [hsz]; decide) (vs := VK22 u14 f l x ab2 j q2 k lb lo nT lc q vb vo vc b v) (by simp [VK22]) (VK22_nd _ _ _ _ _ _ _ _ _ _ _ _ _ _ _ _ _ _))
                  refine ob_val rfl (v := v) (by simp [execOp, go_sem, e106]) ⟨b, v, frC_put hD (by simp [VK22]) (VK22_nd _ _ _ _ _ _ _ _ _ _ _ _ _ _ _ _ _ _) (VK22_nd' _ _ _ _ _ _ _ _ _ _ _ _ _ _ _ _ _ _), hW.quiet (by decide) (by decide)⟩
              · rintro D _ w8 hall ⟨b, v, rfl, hW⟩
                rw [frC_all (fun e he => hall e.1 (by have h1 : e.1 ∈ (VK22 u14 f l x ab2 j q2 k lb lo nT lc q vb vo vc b v).map (·.1) := List.mem_map.2 ⟨e, he, rfl⟩; rw [VK22_idx] at h1; simp at h1; show e.1 < 22; omega))]
                have HN8 : Hid (w8.ownsRow B6 37 3 v (q + 1) (lnCells (T.take (q + 1))) ∧ Blk w8 bx 33 [.bool ok, .int .i64 va, .slice ex1 na1 ec1, .slice ex2 na2 ec2, .slice ex3 na3 ec3] ∧ Bel w w8 ∧ Bel w4 w8 ∧ B6 ≤ w8.heap.size) := Lib.hid (by
                  obtain ⟨h1, h2, h3, h4, h5⟩ := HS7.out
                  have hlt : ∀ q ∈ u14.ownBlock.toList, B6 ≤ q := fun q hq => (h1.lt q (by simpa using hq)).1
                  refine ⟨by rw [HTQ.out]; exact hW.new (hall 20 (by decide)), h2.kept hW.kp (fun hm => own_ne h1 h2 (by decide) (by simpa using hm)), h3.kept hW.kp (fun q hq => Nat.le_trans HZ.out.1 (hlt q hq)), h4.kept hW.kp (fun q hq => Nat.le_trans HZ.out.2 (hlt q hq)), Nat.le_trans h5 hW.kp.size⟩)
                rw [HA0.out]
                simp only [VK22, List.foldr_cons, List.foldr_nil, Act.put, List.setIfInBounds_toArray, List.set_cons_succ, List.set_cons_zero]
                clear hW hall HA0 so14 so16 so11 so12 so15 hsz HEI HNB HCL HS7 d1 d2 d3 r3 r4 j0 j1 j2 j3
                go_wp2
                go_roundw
                case rel => exact ⟨q + 1, by omega, by go_num, HN8.out⟩
                case measure => simp [intOf]; omega
            · obtain rfl : q = nT := by omega
              have HE9 : Hid (LnS wr u14 T ∧ Blk wr bx 33 [.bool ok, .int .i64 va, .slice ex1 na1 ec1, .slice ex2 na2 ec2, .slice ex3 na3 ec3] ∧ Bel w wr ∧ Bel w4 wr) := Lib.hid (by
                obtain ⟨h1, h2, h3, h4, h5⟩ := HS7.out
                rw [List.take_of_length_le (by rw [HNT.out]; exact Nat.le_refl _)] at h1
                exact ⟨LnS.own h1, h2, h3, h4⟩)
              clear HS7
              have m0 : wr.cell? ⟨bx, 0, none⟩ = some (.bool ok) := HE9.out.2.1.cell 0
              have m1 : wr.cell? ⟨bx, 1, none⟩ = some (.int .i64 va) := HE9.out.2.1.cell 1
              have m2 : wr.cell? ⟨bx, 2, none⟩ = some (.slice ex1 na1 ec1) := HE9.out.2.1.cell 2
              have m3 : wr.cell? ⟨bx, 3, none⟩ = some (.slice ex2 na2 ec2) := HE9.out.2.1.cell 3
              have m4 : wr.cell? ⟨bx, 4, none⟩ = some (.slice ex3 na3 ec3) := HE9.out.2.1.cell 4
              have r0 := HE9.out.2.2.2.cell HRV.out.1
              have r1 := HE9.out.2.2.2.cell HRV.out.2.1
              have q1 : (ok != ok) = false := by simp
              have q2 : (va != va) = false := by simp
              have j2 : (0 : Int) ≤ (k : Int) := by omega
              have j3 : (k : Int) < (j : Int) := by omega
              have HSL := Lib.hid (fun (W : World) (hb : Bel wr W) => sameLines_right u14 T (.bool ok) (.int .i64 va) (.slice ex1 na1 ec1) (.slice ex2 na2 ec2) (.slice ex3 na3 ec3) a.files a.lines a.vals W (HE9.out.1.bel hb) (HIA.out.1.bel (HE9.out.2.2.2.trans hb)) (HIA.out.2.1.bel (HE9.out.2.2.2.trans hb)) (HIA.out.2.2.bel (HE9.out.2.2.2.trans hb)) HSQ.out)
              go_upto_region 24 with (fail)
              obtain ⟨m0, m1, m2, m3, m4, r0, r1⟩ := And.intro (Later.cell m0) (And.intro (Later.cell m1) (And.intro (Later.cell m2) (And.intro (Later.cell m3) (And.intro (Later.cell m4) (And.intro (Later.cell r0) (Later.cell r1))))))
              refine region_later (by kernel_rfl) (by kernel_rfl) ?_
              repeat (go_big_quiet_step ((go_at_call 10; exact call_later _ (HSL.out _ (Later.bel _)))))
              refine wpQuiet_nil ?_
              intro _ hw'
              obtain ⟨z, hz⟩ := hw'
              subst hz
              have HBZ := Lib.hid (And.intro (HE9.out.2.2.1.trans z.bel) (HE9.out.2.2.2.trans z.bel))
              clear m0 m1 m2 m3 m4 r0 r1 q1 q2 j2 j3 HSL HE9
              generalize z.at = W2 at HBZ ⊢
              go_wp2
              go_roundw
              case rel => exact ⟨k + 1, by omega, by go_num, HBZ.out⟩
              case measure => simp [intOf]; omega
        · clear hbel hb4
          go_wp2
          go_ret
          exact ⟨rfl, HBE.out.1⟩
end Go.Proofs.Ytangceejmjklcaa
