/- The walks of Rules.Follows (right answers). -/
import Derived.Test.YtdmjcgipfkhibaaSpec6
import Derived.Test.YtdmjcgipfkhibaaSpec7
import Derived.Deep.CutRange
import Derived.Test.YtdmjcgipfkhibaaLawM0
namespace Go.Proofs.Ytdmjcgipfkhibaa
open Go.RowKit Go.BigFrame
attribute [local go_sem ↓] Go.wp_at_zero Go.wp_at_succ

/-- The cells from which the call's arguments are loaded. -/
theorem fol_cells {w w' : World} {H K b o : Nat} {r0 r1 r2 r3 r4 r5 s0 s1 s2 s3 g0 g1 g2 g3 : Value} (hb : Bel w w')
    (h : w.cell? ⟨H, 0, none⟩ = some r0 ∧ w.cell? ⟨H, 1, none⟩ = some r1 ∧ w.cell? ⟨H, 2, none⟩ = some r2 ∧ w.cell? ⟨H, 3, none⟩ = some r3 ∧ w.cell? ⟨H, 4, none⟩ = some r4 ∧ w.cell? ⟨H, 5, none⟩ = some r5 ∧ w.cell? ⟨K, 0, none⟩ = some s0 ∧ w.cell? ⟨K, 1, none⟩ = some s1 ∧ w.cell? ⟨K, 2, none⟩ = some s2 ∧ w.cell? ⟨K, 3, none⟩ = some s3 ∧ w.cell? ⟨b, o, none⟩ = some g0 ∧ w.cell? ⟨b, o + 1, none⟩ = some g1 ∧ w.cell? ⟨b, o + 2, none⟩ = some g2 ∧ w.cell? ⟨b, o + 3, none⟩ = some g3) :
    w'.cell? ⟨H, 0, none⟩ = some r0 ∧ w'.cell? ⟨H, 1, none⟩ = some r1 ∧ w'.cell? ⟨H, 2, none⟩ = some r2 ∧ w'.cell? ⟨H, 3, none⟩ = some r3 ∧ w'.cell? ⟨H, 4, none⟩ = some r4 ∧ w'.cell? ⟨H, 5, none⟩ = some r5 ∧ w'.cell? ⟨K, 0, none⟩ = some s0 ∧ w'.cell? ⟨K, 1, none⟩ = some s1 ∧ w'.cell? ⟨K, 2, none⟩ = some s2 ∧ w'.cell? ⟨K, 3, none⟩ = some s3 ∧ w'.cell? ⟨b, o, none⟩ = some g0 ∧ w'.cell? ⟨b, o + 1, none⟩ = some g1 ∧ w'.cell? ⟨b, o + 2, none⟩ = some g2 ∧ w'.cell? ⟨b, o + 3, none⟩ = some g3 := by
  obtain ⟨a0, a1, a2, a3, a4, a5, a6, a7, a8, a9, b0, b1, b2, b3⟩ := h
  exact ⟨hb.cell a0, hb.cell a1, hb.cell a2, hb.cell a3, hb.cell a4, hb.cell a5, hb.cell a6, hb.cell a7, hb.cell a8, hb.cell a9, hb.cell b0, hb.cell b1, hb.cell b2, hb.cell b3⟩

theorem follows_cons {r : Pl.RulesD} {l l' : List Pl.Ent} {S : List Pl.StepD} {A : List Pl.Ans} {j : Nat} {s : Pl.StepD} {g : Pl.Ans} (h : Pl.follows r l (S.drop j) (A.drop j) = some l') (hs : S[j]? = some s) (hg : A[j]? = some g) :
    Pl.ansB r l s g = true ∧ Pl.follows r (Pl.ansList r l s g) (S.drop (j + 1)) (A.drop (j + 1)) = some l' := by
  obtain ⟨hsl, hse⟩ := List.getElem?_eq_some_iff.1 hs
  obtain ⟨hgl, hge⟩ := List.getElem?_eq_some_iff.1 hg
  rw [List.drop_eq_getElem_cons hsl, List.drop_eq_getElem_cons hgl, hse, hge] at h
  simp only [Pl.follows] at h
  split at h
  · rename_i hh; exact ⟨hh, h⟩
  · cases h

theorem ansList_length' (r : Pl.RulesD) (l : List Pl.Ent) (s : Pl.StepD) (g : Pl.Ans) (h : r.values = true ∨ s.list.length ≤ 500) : (Pl.ansList r l s g).length ≤ l.length + 501 := by
  rcases h with h | h
  · unfold Pl.ansList
    rw [h]
    have h1 := (Pl.put_length l s.key s.val).1
    have h2 := Pl.without_length l s.key
    have h3 := Pl.without_length l g.val
    simp only [if_true]
    repeat' split
    all_goals simp <;> omega
  · have := Pl.ansList_length r l s g; omega
set_option maxRecDepth 100000 in
set_option maxHeartbeats 8000000 in
theorem follows_right (r : Pl.RulesD) (v u : Value) (S : List Pl.StepD) (A : List Pl.Ans) (l' : List Pl.Ent) (w : World) (hv : StepS w v S) (hu : AnsS w u A) (hSA : A.length = S.length) (hS : S.length ≤ 500) (hL : ∀ s ∈ S, r.values = true ∨ s.list.length ≤ 500)
    (hK : ∀ g ∈ A, g.keys.length ≤ 1000000 ∧ g.vals.length ≤ 1000000) (hf : Pl.follows r [] S A = some l') :
    Calls Try.prog 16 #[rulesV r, v, u] w fun e w' => (∃ x, e = .returned (.tuple #[x, .bool true])) ∧ Bel w w' := by
  obtain ⟨a, c, rfl, hlc, hcm, hst⟩ := hv
  have HS := Lib.hid hst; clear hst
  have HA := Lib.hid hu
  obtain ⟨a2, c2, rfl, hlc2, hcm2, _⟩ := hu
  rw [hSA] at HA hlc2 ⊢
  have HSA := Lib.hid hSA; clear hSA
  have HL := Lib.hid hL; clear hL
  have HK := Lib.hid hK; clear hK
  have HF := Lib.hid hf; clear hf
  obtain ⟨r0, r1, r2, r3, r4, r5⟩ := r
  have m0 : ((S.length : Int) != (S.length : Int)) = false := by simp
  go_enter Try.func16, Try.ntmps16
  go_wp2
  have hB := Blk.new w 28 [.int .i64 r0, .int .i64 r1, .int .i64 r2, .bool r3, .int .i64 r4, .bool r5]
  have hbw0 := (Bel.refl w).alloc (.cells #[.int .i64 r0, .int .i64 r1, .int .i64 r2, .bool r3, .int .i64 r4, .bool r5] 28)
  change Blk (w.alloc (.cells #[.int .i64 r0, .int .i64 r1, .int .i64 r2, .bool r3, .int .i64 r4, .bool r5] 28)) _ _ _ at hB
  generalize w.alloc (.cells #[.int .i64 r0, .int .i64 r1, .int .i64 r2, .bool r3, .int .i64 r4, .bool r5] 28) = w0 at *
  have HB := Lib.hid hB; clear hB
  go_loopw [8, 20] (fun x i wr => ∃ j : Nat, j ≤ S.length ∧ i = .int .i64 j ∧ (∃ L, EntS wr x L ∧ L.length ≤ j * 501 ∧ Pl.follows ⟨r0, r1, r2, r3, r4, r5⟩ L (S.drop j) (A.drop j) = some l') ∧ Bel w0 wr) (fun _ i _ => S.length - (intOf i).toNat)
  case atStart => exact ⟨0, Nat.zero_le _, rfl, ⟨[], EntS.empty _ _, by simp, HF.out⟩, (Bel.refl w0).alloc _⟩
  case round =>
    obtain ⟨j, hj, rfl, ⟨L, hE, hLl, hfo⟩, hbel⟩ := hrel
    have HE := Lib.hid hE; clear hE
    have HFO := Lib.hid hfo; clear hfo
    by_cases hlt : j < S.length
    · obtain ⟨b, o, rfl, hcell⟩ := HS.out (by omega)
      obtain ⟨s, hs⟩ : ∃ s, S[j]? = some s := ⟨_, List.getElem?_eq_getElem hlt⟩
      obtain ⟨g, hg⟩ : ∃ g, A[j]? = some g := ⟨_, List.getElem?_eq_getElem (by rw [HSA.out]; exact hlt)⟩
      obtain ⟨sk, c0, c1, c2', c3, hk⟩ := hcell j s hs
      have hbw := hbw0.trans hbel
      have d0 := hbw.cell c0
      have d1 := hbw.cell c1
      have d2 := hbw.cell c2'
      have d3 := hbw.cell c3
      obtain ⟨hok, hnext⟩ := follows_cons HFO.out hs hg
      have HNX := Lib.hid hnext; clear hnext
      obtain ⟨gb, gk, gx, rfl, e0, e1, e2, e3, hgk, hgx⟩ := ansS_at (A := A) (by rw [HSA.out]; exact HA.out.bel hbw) hg
      have HR := Lib.hid (fun (W : World) (hW : Bel wr W) => answers_right' ⟨r0, r1, r2, r3, r4, r5⟩ u8 (.agg #[.int .i64 s.kind, .int .i64 s.key, .int .i64 s.val, sk]) (.agg #[.bool g.ok, .int .i64 g.val, gk, gx]) L s g W (HE.out.bel hW) ⟨sk, rfl, (hk.bel hbw).bel hW⟩ ⟨gk, gx, rfl, hgk.bel hW, hgx.bel hW⟩ (by omega) ((HL.out s (List.mem_of_getElem? hs)).imp id (fun h => Nat.le_trans h (by decide))) (HK.out g (List.mem_of_getElem? hg)).1 (HK.out g (List.mem_of_getElem? hg)).2 hok)
      have hal := ansList_length' ⟨r0, r1, r2, r3, r4, r5⟩ L s g (HL.out s (List.mem_of_getElem? hs))
      obtain ⟨k1, k2, rfl, _, _, _⟩ := hk
      obtain ⟨k3, k4, rfl, _, _, _⟩ := hgk
      obtain ⟨k5, k6, rfl, _, _, _⟩ := hgx
      obtain ⟨la, lc, rfl, _, _, _⟩ := HE.out
      clear hcell c0 c1 c2' c3 hs hg hok
      go_upto_region 8 with (fail)
      have hB1 := Blk.new wr 39 [.int .i64 s.kind, .int .i64 s.key, .int .i64 s.val, .slice k1 s.list.length k2]
      have hb1 := (Bel.refl wr).alloc (.cells #[.int .i64 s.kind, .int .i64 s.key, .int .i64 s.val, .slice k1 s.list.length k2] 39)
      change Blk (wr.alloc (.cells #[.int .i64 s.kind, .int .i64 s.key, .int .i64 s.val, .slice k1 s.list.length k2] 39)) _ _ _ at hB1
      generalize wr.alloc (.cells #[.int .i64 s.kind, .int .i64 s.key, .int .i64 s.val, .slice k1 s.list.length k2] 39) = w1 at *
      have hBw := (HB.out.bel hbel).bel hb1
      have f := And.intro (hBw.cell 0) (And.intro (hBw.cell 1) (And.intro (hBw.cell 2) (And.intro (hBw.cell 3) (And.intro (hBw.cell 4) (And.intro (hBw.cell 5) (And.intro (hB1.cell 0) (And.intro (hB1.cell 1) (And.intro (hB1.cell 2) (And.intro (hB1.cell 3) (And.intro (hb1.cell e0) (And.intro (hb1.cell e1) (And.intro (hb1.cell e2) (hb1.cell e3)))))))))))))
      simp only [List.getElem?_cons_zero, List.getElem?_cons_succ] at f
      have HFF := Lib.hid f
      obtain ⟨f0, f1, f2, f3, f4, f5, f6, f7, f8, f9, h0, h1, h2, h3⟩ := f
      clear d0 d1 d2 d3 e0 e1 e2 e3 hBw hB1
      have j1 : (0 : Int) ≤ (j : Int) := by omega
      have j2 : (j : Int) < (S.length : Int) := by omega
      go_region_held3 (fun w' => w'.cell? ⟨w.heap.size, 0, none⟩ = some (.int .i64 r0) ∧ w'.cell? ⟨w.heap.size, 1, none⟩ = some (.int .i64 r1) ∧ w'.cell? ⟨w.heap.size, 2, none⟩ = some (.int .i64 r2) ∧ w'.cell? ⟨w.heap.size, 3, none⟩ = some (.bool r3) ∧ w'.cell? ⟨w.heap.size, 4, none⟩ = some (.int .i64 r4) ∧ w'.cell? ⟨w.heap.size, 5, none⟩ = some (.bool r5) ∧ w'.cell? ⟨wr.heap.size, 0, none⟩ = some (.int .i64 s.kind) ∧ w'.cell? ⟨wr.heap.size, 1, none⟩ = some (.int .i64 s.key) ∧ w'.cell? ⟨wr.heap.size, 2, none⟩ = some (.int .i64 s.val) ∧ w'.cell? ⟨wr.heap.size, 3, none⟩ = some (.slice k1 s.list.length k2) ∧ w'.cell? ⟨gb, j * 4, none⟩ = some (.bool g.ok) ∧ w'.cell? ⟨gb, j * 4 + 1, none⟩ = some (.int .i64 g.val) ∧ w'.cell? ⟨gb, j * 4 + 2, none⟩ = some (.slice k3 g.keys.length k4) ∧ w'.cell? ⟨gb, j * 4 + 3, none⟩ = some (.slice k5 g.vals.length k6))
        (first | exact q2 | go_keep)
        (first
          | (go_at_call 35; refine (HR.out _ hb1.drew).mono ?_; rintro e w2 ⟨u2, rfl, hE2, hb2⟩; have HE2 := Lib.hid hE2; clear hE2; have q2 := fol_cells ((Bel.refl w1).drew.trans hb2) HFF.out))
      have hb12 := hb1.drew.trans hb2
      clear q2 f0 f1 f2 f3 f4 f5 f6 f7 f8 f9 h0 h1 h2 h3 hb1 hb2
      go_wp2
      go_roundw
      case rel => exact ⟨j + 1, by omega, by go_num, ⟨_, HE2.out, by omega, HNX.out⟩, hbel.trans hb12⟩
      case measure => simp [intOf]; omega
    · go_wp2
      go_ret2
      exact ⟨⟨_, rfl⟩, hbw0.trans hbel⟩
end Go.Proofs.Ytdmjcgipfkhibaa
