/- impl.renamed: the files of an answer get their places in a list. -/
import Derived.Test.YtangceejmjklcaaLn9
namespace Go.Proofs.Ytangceejmjklcaa
open Go.RowKit Go.BigFrame

def renAt (l : List Int) (j : Nat) : List Int := (l.take j).map (· - 1) ++ l.drop j
theorem renAt_length (l : List Int) (j : Nat) : (renAt l j).length = l.length := by simp [renAt]; omega
theorem renAt_get {l : List Int} {j : Nat} {x : Int} (h : l[j]? = some x) : (renAt l j)[j]? = some x := by
  have hl := (List.getElem?_eq_some_iff.1 h).1
  unfold renAt
  rw [List.getElem?_append_right (by simp; omega)]
  simp only [List.length_map, List.length_take, List.getElem?_drop]
  rw [show j + (j - min j l.length) = j by omega]
  exact h
theorem renAt_set {l : List Int} {j : Nat} {x : Int} (h : l[j]? = some x) : (renAt l j).set j (x - 1) = renAt l (j + 1) := by
  have hl := (List.getElem?_eq_some_iff.1 h).1
  unfold renAt
  rw [List.set_append_right _ _ (by simp; omega), List.take_add_one, h]
  simp only [List.length_map, List.length_take, List.map_append, Option.toList_some, List.map_cons, List.map_nil, List.append_assoc, List.cons_append, List.nil_append]
  rw [show j - min j l.length = 0 by omega, List.drop_eq_getElem_cons hl, List.set_cons_zero]
theorem renAt_all (l : List Int) : renAt l l.length = l.map (· - 1) := by simp [renAt]

structure RenI (w W : World) (B n : Nat) (u1 u2 u3 : Value) (ok : Bool) (va : Int) (l x2 x3 : List Int) (j : Nat) : Prop where
  r1 : W.ownsRow B 2 1 u1 n ((renAt l j).map (Value.int .i64))
  r2 : W.ownsRow B 2 1 u2 n (x2.map (Value.int .i64))
  r3 : W.ownsRow B 2 1 u3 n (x3.map (Value.int .i64))
  bx : Blk W w.heap.size 33 [.bool ok, .int .i64 va, u1, u2, u3]
  b4 : Blk W (w.heap.size + 1) 33 [.bool false, .int .i64 0, .slice none 0 0, .slice none 0 0, .slice none 0 0]
  kp : Kept u1.ownBlock.toList w W
theorem RenI.step {w W : World} {B n g c1 : Nat} {u2 u3 : Value} {ok : Bool} {va : Int} {l x2 x3 : List Int} {j : Nat} (h : RenI w W B n (.slice (some ⟨g, 0, none⟩) n c1) u2 u3 ok va l x2 x3 j) (d12 : Dj (.slice (some ⟨g, 0, none⟩) n c1) u2) (d13 : Dj (.slice (some ⟨g, 0, none⟩) n c1) u3) {y : Int} (hy : l[j]? = some (y + 1)) :
    RenI w (W.setCell ⟨g, j, none⟩ (.int .i64 y)) B n (.slice (some ⟨g, 0, none⟩) n c1) u2 u3 ok va l x2 x3 (j + 1) := by
  have hs := h.r1.stored j (.int .i64 y)
  have hk : Kept [g] W (W.setCell ⟨g, j, none⟩ (.int .i64 y)) := (Kept.refl _ W).setCell (p := ⟨g, j, none⟩) (.inl (by simp)) _
  have hg : (Value.slice (some ⟨g, 0, none⟩) n c1).ownBlock = some g := rfl
  refine ⟨?_, own_kept h.r2 hk (fun k hk' => by simp; rintro rfl; exact d12 _ hg hk'), own_kept h.r3 hk (fun k hk' => by simp; rintro rfl; exact d13 _ hg hk'), h.bx.kept hk ?_, h.b4.kept hk ?_, h.kp.trans hk (fun i hi => .inl (by simpa [Value.ownBlock] using hi))⟩
  · have e : ((renAt l j).map (Value.int .i64)).set j (.int .i64 y) = (renAt l (j + 1)).map (Value.int .i64) := by
      rw [← renAt_set hy, List.map_set]
      congr 1
      congr 1
      omega
    rw [← e]
    exact hs.1
  · simp; rintro rfl; exact own_ne h.r1 h.bx (by decide) rfl
  · simp; intro e; exact own_ne h.r1 h.b4 (by decide) (by rw [e]; rfl)

set_option maxRecDepth 100000 in
set_option maxHeartbeats 4000000 in
theorem renamed_any {w : World} {B B0 m : Nat} {v vf : Value} {a : Pl.LAns} (h : AnsR w B v a) (hf : w.ownsRow B0 3 1 vf m (filesV m)) (hm : m ≤ 1000000) (ha : ∀ f ∈ a.files, 1 ≤ f ∧ f ≤ m) (hlen : a.files.length ≤ 10000000000000) :
    Calls Try.prog 18 #[v, vf] w fun e w' => ∃ v', e = .returned v' ∧ AnsR w' B v' { a with files := a.files.map (· - 1) } ∧ KT outT B w w' := by
  obtain ⟨n, u1, u2, u3, rfl, r1, r2, r3, d12, d13, d23⟩ := h
  obtain ⟨ok, va, fl, ll, vl⟩ := a
  simp only at *
  have hn : fl.length = n := by have := r1.1; simpa using this
  subst hn
  obtain ⟨af, cf, rfl, _, _, hcf⟩ := own_form hf
  obtain ⟨a1, c1, rfl, _, _, hc1⟩ := own_form r1
  obtain ⟨a2, c2, rfl, _, _, _⟩ := own_form r2
  obtain ⟨a3, c3, rfl, _, _, _⟩ := own_form r3
  have hkm : ∀ q, (Value.slice a1 fl.length c1).ownBlock = some q → B ≤ q ∧ ∃ cs t m, w.heap[q]? = some (.cells cs t m) ∧ t ∈ outT := fun q hq => own_kt_mem r1 hq
  have hff : ∀ g, af = some ⟨g, 0, none⟩ → (Value.slice a1 fl.length c1).ownBlock ≠ some g := fun g hg => by
    subst hg
    rcases hf.2 with ⟨e, _⟩ | ⟨g', cap, cur, e, _, hgg, _⟩
    · cases e
    · injection e with e
      injection e with e
      injection e with e
      subst e
      exact own_ne r1 (g := g) (t := 3) (cs := cur.toList) (by unfold Blk; simpa using hgg) (by decide)
  have hb0 : Bel w ((w.alloc (.cells #[.bool ok, .int .i64 va, .slice a1 fl.length c1, .slice a2 fl.length c2, .slice a3 fl.length c3] 33)).alloc (.cells #[.bool false, .int .i64 0, .slice none 0 0, .slice none 0 0, .slice none 0 0] 33)) := ((Bel.refl w).alloc _).alloc _
  have hI : RenI w ((w.alloc (.cells #[.bool ok, .int .i64 va, .slice a1 fl.length c1, .slice a2 fl.length c2, .slice a3 fl.length c3] 33)).alloc (.cells #[.bool false, .int .i64 0, .slice none 0 0, .slice none 0 0, .slice none 0 0] 33)) B fl.length (.slice a1 fl.length c1) (.slice a2 fl.length c2) (.slice a3 fl.length c3) ok va fl ll vl 0 := by
    refine ⟨?_, own_bel r2 hb0, own_bel r3 hb0, (Blk.new w _ [_, _, _, _, _]).alloc _, ?_, Kept.of_bel hb0⟩
    · have : renAt fl 0 = fl := by simp [renAt]
      rw [this]; exact own_bel r1 hb0
    · have := Blk.new (w.alloc (.cells #[.bool ok, .int .i64 va, .slice a1 fl.length c1, .slice a2 fl.length c2, .slice a3 fl.length c3] 33)) 33 [.bool false, .int .i64 0, .slice none 0 0, .slice none 0 0, .slice none 0 0]
      rwa [World.size_alloc] at this
  have HI := Lib.hid hI
  have HC := Lib.hid (And.intro hcf hc1)
  have HD := Lib.hid (And.intro d12 (And.intro d13 d23))
  have HKM := Lib.hid (And.intro hkm hff)
  have HA := Lib.hid ha
  clear hI hb0 hcf hc1 d12 d13 d23 hkm hff ha r1 r2 r3 hf
  obtain ⟨n, hn⟩ : ∃ n, n = fl.length := ⟨_, rfl⟩
  rw [← hn] at HI HC HD HKM hlen ⊢
  have HN := Lib.hid hn; clear hn
  go_enter Try.func18, Try.ntmps18
  go_wp2_with fail
  generalize (w.alloc (.cells #[.bool ok, .int .i64 va, .slice a1 n c1, .slice a2 n c2, .slice a3 n c3] 33)).alloc (.cells #[.bool false, .int .i64 0, .slice none 0 0, .slice none 0 0, .slice none 0 0] 33) = w1 at HI ⊢
  go_loopw [5, 6, 12] (fun _ _ t wr => ∃ j : Nat, j ≤ n ∧ t = .int .i64 j ∧ RenI w wr B n (.slice a1 n c1) (.slice a2 n c2) (.slice a3 n c3) ok va fl ll vl j) (fun _ _ t _ => n - (intOf t).toNat)
  case atStart => exact ⟨0, Nat.zero_le _, rfl, HI.out⟩
  case round =>
    obtain ⟨j, hj, rfl, hR⟩ := hrel
    have HR := Lib.hid hR; clear hR HI
    by_cases hlt : j < n
    · obtain ⟨g, rfl, _⟩ := HC.out.2 (by omega)
      obtain ⟨f, hfj⟩ : ∃ f, fl[j]? = some f := ⟨_, List.getElem?_eq_getElem (by rw [← HN.out]; exact hlt)⟩
      obtain ⟨hf0, hf1⟩ := HA.out f (List.mem_of_getElem? hfj)
      obtain ⟨y, rfl⟩ : ∃ y : Nat, f = (y : Int) + 1 := ⟨(f - 1).toNat, by omega⟩
      have hym : y < m := by omega
      obtain ⟨gf, rfl, hgf⟩ := HC.out.1 (by omega)
      have ck : wr.cell? ⟨g, j, none⟩ = some (.int .i64 ((y : Int) + 1)) := by
        have := HR.out.r1.cells (g := g) rfl j (.int .i64 ((y : Int) + 1)) (by rw [List.getElem?_map, renAt_get hfj]; rfl)
        simpa [Addr.add_lit] using this
      have hfc : ∀ k : Nat, k < m → wr.cell? ⟨gf, k, none⟩ = some (.int .i64 ((k : Int) + 1)) := fun k hk => by
        have h1 : w.cell? ⟨gf, k, none⟩ = some (.int .i64 ((k : Int) + 1)) := hgf k _ (range_at _ hk)
        exact HR.out.kp.cell h1 (by simpa using fun e => HKM.out.2 gf rfl e)
      have HFC := Lib.hid hfc
      have HST := Lib.hid (HR.out.step HD.out.1 HD.out.2.1 (y := (y : Int)) hfj)
      have c2 : wr.cell? ⟨w.heap.size, 2, none⟩ = some (.slice (some ⟨g, 0, none⟩) n c1) := HR.out.bx.cell 2
      have fk : wr.frozen? ⟨g, j, none⟩ = false := HR.out.r1.frozenAt _
      have HCK := Lib.hid (And.intro ck (And.intro c2 fk))
      clear hgf hfc hfj c2 fk
      go_wp2
      clear ck
      obtain ⟨ws, hws⟩ : ∃ y, y = wr := ⟨_, rfl⟩
      rw [← hws] at HFC HCK HST HR
      have HWS := Lib.hid hws; clear hws
      go_loopw [7, 8, 19] (fun _ _ t wr2 => ∃ k : Nat, k ≤ y ∧ t = .int .i64 k ∧ wr2 = ws) (fun _ _ t _ => m - (intOf t).toNat)
      case atStart => exact ⟨0, Nat.zero_le _, rfl, HWS.out.symm⟩
      case round =>
        obtain ⟨k, hky, rfl, hww⟩ := hrel
        clear HWS
        subst hww
        have ckk := HFC.out k (by omega)
        by_cases hit : k = y
        · have c2 := HCK.out.2.1
          have fk := HCK.out.2.2
          have ck := HCK.out.1
          subst hit
          go_wp2
          go_roundw
          case rel => exact ⟨j + 1, by omega, by go_num, HST.out⟩
          case measure => simp [intOf]; omega
        · have hne : (((k : Int) + 1) == ((y : Int) + 1)) = false := by simp; omega
          go_wp2
          go_roundw
          case rel => exact ⟨k + 1, by omega, by go_num, trivial⟩
          case measure => simp [intOf]; omega
    · obtain rfl : j = n := by omega
      have o0 : wr.cell? ⟨w.heap.size, 0, none⟩ = some (.bool ok) := HR.out.bx.cell 0
      have o1 : wr.cell? ⟨w.heap.size, 1, none⟩ = some (.int .i64 va) := HR.out.bx.cell 1
      have o2 : wr.cell? ⟨w.heap.size, 2, none⟩ = some (.slice a1 j c1) := HR.out.bx.cell 2
      have o3 : wr.cell? ⟨w.heap.size, 3, none⟩ = some (.slice a2 j c2) := HR.out.bx.cell 3
      have o4 : wr.cell? ⟨w.heap.size, 4, none⟩ = some (.slice a3 j c3) := HR.out.bx.cell 4
      have hB4 := HR.out.b4
      have m0 : wr.cell? ⟨w.heap.size + 1, 0, none⟩ = some (.bool false) := hB4.cell 0
      have m1 : wr.cell? ⟨w.heap.size + 1, 1, none⟩ = some (.int .i64 0) := hB4.cell 1
      have m2 : wr.cell? ⟨w.heap.size + 1, 2, none⟩ = some (.slice none 0 0) := hB4.cell 2
      have m3 : wr.cell? ⟨w.heap.size + 1, 3, none⟩ = some (.slice none 0 0) := hB4.cell 3
      have m4 : wr.cell? ⟨w.heap.size + 1, 4, none⟩ = some (.slice none 0 0) := hB4.cell 4
      have n0 := hB4.frozen 0
      have n1 := hB4.frozen 1
      have n2 := hB4.frozen 2
      have n3 := hB4.frozen 3
      have n4 := hB4.frozen 4
      clear hB4
      go_wp2
      have HF := Lib.hid (five HR.out.b4 (.bool ok) (.int .i64 va) (.slice a1 j c1) (.slice a2 j c2) (.slice a3 j c3))
      generalize ((((wr.setCell ⟨w.heap.size + 1, 0, none⟩ (.bool ok)).setCell ⟨w.heap.size + 1, 1, none⟩ (.int .i64 va)).setCell ⟨w.heap.size + 1, 2, none⟩ (.slice a1 j c1)).setCell ⟨w.heap.size + 1, 3, none⟩ (.slice a2 j c2)).setCell ⟨w.heap.size + 1, 4, none⟩ (.slice a3 j c3) = w3 at HF ⊢
      clear m0 m1 m2 m3 m4 n0 n1 n2 n3 n4
      have m0 := HF.out.1.cell 0
      have m1 := HF.out.1.cell 1
      have m2 := HF.out.1.cell 2
      have m3 := HF.out.1.cell 3
      have m4 := HF.out.1.cell 4
      simp only [List.getElem?_cons_succ, List.getElem?_cons_zero] at m0 m1 m2 m3 m4
      refine bodyPost_ret (v := .agg #[.bool ok, .int .i64 va, .slice a1 j c1, .slice a2 j c2, .slice a3 j c3]) (by simp [results, Try.results18, go_sem, m0, m1, m2, m3, m4]) rfl ?_
      have hrow : ∀ (u : Value) (xs : List Value), wr.ownsRow B 2 1 u j xs → w3.ownsRow B 2 1 u j xs := fun u xs hr =>
        own_kept hr HF.out.2.1 (fun z hz => by simp; rintro rfl; exact own_ne hr HR.out.b4 (by decide) hz)
      have hr1 := HR.out.r1
      rw [HN.out, renAt_all, ← HN.out] at hr1
      refine ⟨_, rfl, ⟨j, _, _, _, rfl, hrow _ _ hr1, hrow _ _ HR.out.r2, hrow _ _ HR.out.r3, HD.out.1, HD.out.2.1, HD.out.2.2⟩, KT.of_kept (HR.out.kp.trans (T := [w.heap.size + 1]) HF.out.2.1 (fun i hi => .inr (by simp at hi; omega))) (fun i hi => .inr (HKM.out.1 i (by simpa using hi)))⟩
end Go.Proofs.Ytangceejmjklcaa
