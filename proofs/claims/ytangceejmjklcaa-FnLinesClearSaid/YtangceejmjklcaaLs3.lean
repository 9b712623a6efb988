/- spec.SameLines, where the answer is right. -/
import Derived.Test.YtangceejmjklcaaLs2
import Derived.BigQuiet
namespace Go.Proofs.Ytangceejmjklcaa
open Go.RowKit Go.BigFrame

/-- The rows fs, ls, vs tell the lines of the list l, each once. -/
structure SameQ (l : List Pl.LnE) (fs ls vs : List Int) : Prop where
  n1 : fs.length = l.length
  n2 : ls.length = l.length
  n3 : vs.length = l.length
  hit : ∀ (i : Nat) f n x, fs[i]? = some f → ls[i]? = some n → vs[i]? = some x → ∃ k e, Pl.findL l f n = some k ∧ l[k]? = some e ∧ e.val = x
  dis : ∀ (i j : Nat) f n, j < i → fs[i]? = some f → ls[i]? = some n → fs[j]? = some f → ls[j]? = some n → False

set_option maxRecDepth 100000 in
set_option maxHeartbeats 8000000 in
theorem sameLines_right (v : Value) (l : List Pl.LnE) (ok va u1 u2 u3 : Value) (fs ls vs : List Int) (w : World) (h : LnS w v l) (h1 : IntR w u1 fs) (h2 : IntR w u2 ls) (h3 : IntR w u3 vs) (hq : SameQ l fs ls vs) :
    Calls Try.prog 10 #[v, .agg #[ok, va, u1, u2, u3]] w fun e w' => e = .returned (.bool true) ∧ Bel w w' := by
  have HV := Lib.hid h
  obtain ⟨a, c, rfl, hlc, hcm, hE⟩ := h
  obtain ⟨a1, c1, rfl, hc1, hm1, hI1⟩ := h1
  obtain ⟨a2, c2, rfl, hc2, hm2, hI2⟩ := h2
  obtain ⟨a3, c3, rfl, hc3, hm3, hI3⟩ := h3
  rw [hq.n1] at hc1 hI1 ⊢
  rw [hq.n2] at hc2 hI2 ⊢
  rw [hq.n3] at hc3 hI3 ⊢
  have HE := Lib.hid hE; clear hE
  have HI := Lib.hid (And.intro hI1 (And.intro hI2 hI3)); clear hI1 hI2 hI3
  have HQ := Lib.hid hq; clear hq
  generalize hnn : l.length = n at hlc HE hc1 hc2 hc3 HI ⊢
  have HN := Lib.hid hnn; clear hnn
  have HB0 : Hid (Blk (w.alloc (.cells #[ok, va, .slice a1 n c1, .slice a2 n c2, .slice a3 n c3] 33)) w.heap.size 33 [ok, va, .slice a1 n c1, .slice a2 n c2, .slice a3 n c3] ∧ Bel w (w.alloc (.cells #[ok, va, .slice a1 n c1, .slice a2 n c2, .slice a3 n c3] 33))) := Lib.hid ⟨Blk.new w _ [_, _, _, _, _], (Bel.refl w).alloc _⟩
  go_enter Try.func10, Try.ntmps10
  go_wp2
  generalize w.alloc (.cells #[ok, va, .slice a1 n c1, .slice a2 n c2, .slice a3 n c3] 33) = w1 at HB0 ⊢
  generalize hbx : w.heap.size = bx at HB0 ⊢
  have HBX := Lib.hid hbx; clear hbx
  go_loopw [34] (fun i wr => ∃ j : Nat, j ≤ n ∧ i = .int .i64 j ∧ Blk wr bx 33 [ok, va, .slice a1 n c1, .slice a2 n c2, .slice a3 n c3] ∧ Bel w wr) (fun i _ => n - (intOf i).toNat)
  case atStart => exact ⟨0, Nat.zero_le _, rfl, HB0.out⟩
  case round =>
    obtain ⟨j, hj, rfl, hB, hbel⟩ := hrel
    have HB := Lib.hid hB
    have HBEL := Lib.hid hbel
    clear HB0
    by_cases hlt : j < n
    · obtain ⟨i1, i2, i3⟩ := HI.out
      obtain ⟨b1, o1, rfl, g1⟩ := i1 (by omega)
      obtain ⟨b2, o2, rfl, g2⟩ := i2 (by omega)
      obtain ⟨b3, o3, rfl, g3⟩ := i3 (by omega)
      have hnl := HN.out
      obtain ⟨f, hf⟩ : ∃ f, fs[j]? = some f := ⟨_, List.getElem?_eq_getElem (by rw [HQ.out.n1, hnl]; exact hlt)⟩
      obtain ⟨m, hm⟩ : ∃ m, ls[j]? = some m := ⟨_, List.getElem?_eq_getElem (by rw [HQ.out.n2, hnl]; exact hlt)⟩
      obtain ⟨x, hx⟩ : ∃ x, vs[j]? = some x := ⟨_, List.getElem?_eq_getElem (by rw [HQ.out.n3, hnl]; exact hlt)⟩
      obtain ⟨k, e, hk, hke, hex⟩ := HQ.out.hit j f m x hf hm hx
      have HJ := Lib.hid (And.intro hf hm)
      have hkl : k < n := by have := (List.getElem?_eq_some_iff.1 hke).1; omega
      obtain ⟨b, o, rfl, hcell⟩ := HE.out (by omega)
      obtain ⟨_, _, ce⟩ := hcell k e hke
      have HFL := Lib.hid (findLine_any _ l f m wr (HV.out.bel hbel))
      rw [hk] at HFL
      have HG := Lib.hid (And.intro g1 g2)
      have HC := Lib.hid (And.intro (g1 j f hf) (And.intro (g2 j m hm) (And.intro (g3 j x hx) ce)))
      subst hex
      have d1 := hbel.cell HC.out.1
      have d2 := hbel.cell HC.out.2.1
      have m2 : wr.cell? ⟨bx, 2, none⟩ = some (.slice (some ⟨b1, o1, none⟩) n c1) := hB.cell 2
      have m3 : wr.cell? ⟨bx, 3, none⟩ = some (.slice (some ⟨b2, o2, none⟩) n c2) := hB.cell 3
      clear i1 i2 i3 g1 g2 g3 hf hm hx hk hke hcell ce hnl hB hbel
      simp only [ixOf] at HFL
      rw [HN.out] at HFL
      go_wp2_with fail
      refine HFL.out.mono ?_
      rintro ex w2 ⟨rfl, hb2⟩
      clear d1 d2 m2 m3 HFL
      have HB2 := Lib.hid (HB.out.bel hb2)
      have HL2 := Lib.hid (HBEL.out.trans hb2)
      have d3 := HL2.out.cell HC.out.2.2.1
      have ce := HL2.out.cell HC.out.2.2.2
      have m4 : w2.cell? ⟨bx, 4, none⟩ = some (.slice (some ⟨b3, o3, none⟩) n c3) := HB2.out.cell 4
      have j0 : (0 : Int) ≤ (k : Int) := by omega
      have j1 : (k : Int) < (n : Int) := by omega
      have j2 : (0 : Int) ≤ (j : Int) := by omega
      have j3 : (j : Int) < (n : Int) := by omega
      have hd : ((k : Int) < 0) = False := by simp
      have hd' : decide ((k : Int) < 0) = false := by simp
      have heq : (e.val != e.val) = false := by simp
      clear hb2 HB HBEL
      go_upto_region 7 with (fail)
      go_quiet (fail)
      clear d3 ce m4 j0 j1 j2 j3 hd hd' heq
      have HB3 : Hid (Blk (w2.drewN nq) bx 33 [ok, va, .slice (some ⟨b1, o1, none⟩) n c1, .slice (some ⟨b2, o2, none⟩) n c2, .slice (some ⟨b3, o3, none⟩) n c3] ∧ Bel w (w2.drewN nq)) := Lib.hid ⟨HB2.out.drewN _, HL2.out.drewN _⟩
      clear HB2 HL2
      generalize w2.drewN nq = w3 at HB3 ⊢
      go_wp2
      go_loopw [63] (fun i wq => ∃ q : Nat, q ≤ j ∧ i = .int .i64 q ∧ Blk wq bx 33 [ok, va, .slice (some ⟨b1, o1, none⟩) n c1, .slice (some ⟨b2, o2, none⟩) n c2, .slice (some ⟨b3, o3, none⟩) n c3] ∧ Bel w wq) (fun i _ => j - (intOf i).toNat)
      case atStart => exact ⟨0, Nat.zero_le _, rfl, HB3.out⟩
      case round =>
        obtain ⟨q, hq, rfl, hB, hbel⟩ := hrel
        clear HB3
        by_cases hlq : q < j
        · have HB := Lib.hid hB
          have HBEL := Lib.hid hbel
          obtain ⟨f', hf'⟩ : ∃ f, fs[q]? = some f := ⟨_, List.getElem?_eq_getElem (by rw [HQ.out.n1, HN.out]; omega)⟩
          obtain ⟨m', hm'⟩ : ∃ m, ls[q]? = some m := ⟨_, List.getElem?_eq_getElem (by rw [HQ.out.n2, HN.out]; omega)⟩
          have d1 := hbel.cell (HG.out.1 q f' hf')
          have d2 := hbel.cell (HG.out.2 q m' hm')
          have d3 := hbel.cell HC.out.2.1
          have m2 : wr.cell? ⟨bx, 2, none⟩ = some (.slice (some ⟨b1, o1, none⟩) n c1) := hB.cell 2
          have m3 : wr.cell? ⟨bx, 3, none⟩ = some (.slice (some ⟨b2, o2, none⟩) n c2) := hB.cell 3
          have j2 : (0 : Int) ≤ (q : Int) := by omega
          have j3 : (q : Int) < (n : Int) := by omega
          have j4 : (0 : Int) ≤ (j : Int) := by omega
          have j5 : (j : Int) < (n : Int) := by omega
          by_cases e1 : f' = f
          · subst e1
            have e2 : (m' == m) = false := by
              simp only [beq_eq_false_iff_ne, ne_eq]
              rintro rfl
              exact HQ.out.dis j q f' m' hlq HJ.out.1 HJ.out.2 hf' hm'
            have e3 : (f' == f') = true := by simp
            clear hf' hm' hB hbel
            go_upto_region 12 with (fail)
            go_quiet (fail)
            have HB4 := Lib.hid (And.intro (HB.out.drewN nq) (HBEL.out.drewN nq))
            generalize wr.drewN nq = w4 at HB4 ⊢
            clear d1 d2 d3 m2 m3 j2 j3 j4 j5 e2 e3 HB HBEL
            go_wp2
            go_roundw
            case rel => exact ⟨q + 1, by omega, by go_num, HB4.out⟩
            case measure => simp [intOf]; omega
          · have e2 : (f' == f) = false := by simpa using e1
            clear hf' hm' hB hbel e1
            go_upto_region 12 with (fail)
            go_quiet (fail)
            have HB4 := Lib.hid (And.intro (HB.out.drewN nq) (HBEL.out.drewN nq))
            generalize wr.drewN nq = w4 at HB4 ⊢
            clear d1 d2 d3 m2 m3 j2 j3 j4 j5 e2 HB HBEL
            go_wp2
            go_roundw
            case rel => exact ⟨q + 1, by omega, by go_num, HB4.out⟩
            case measure => simp [intOf]; omega
        · have HB := Lib.hid (And.intro hB hbel)
          clear hB hbel
          go_wp2
          go_roundw
          case rel => exact ⟨j + 1, by omega, by go_num, HB.out⟩
          case measure => simp [intOf]; omega
    · clear HB hB hbel
      go_wp2
      go_ret
      exact ⟨rfl, HBEL.out⟩
end Go.Proofs.Ytangceejmjklcaa
