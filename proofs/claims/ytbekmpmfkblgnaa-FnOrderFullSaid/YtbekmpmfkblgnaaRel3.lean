/- spec.Before, spec.Relative, the bound on a directive's name. -/
import Derived.Test.YtbekmpmfkblgnaaRel2
namespace Go.Proofs.Ytbekmpmfkblgnaa
open Go.RowKit Go.BigFrame

def befB (p q : PlaceD) : Bool := decide (p.line < q.line ∨ p.line = q.line ∧ p.col < q.col)

set_option maxHeartbeats 1000000 in
theorem specBefore_any (p q : PlaceD) (w : World) :
    Calls Try.prog 18 #[placeV p, placeV q] w fun e w' => e = .returned (.bool (befB p q)) ∧ Bel w w' := by
  obtain ⟨pf, pl, pc, ps, px⟩ := p
  obtain ⟨qf, ql, qc, qs, qx⟩ := q
  by_cases h1 : pl < ql
  · go_enter Try.func18, Try.ntmps18
    go_wp2
    go_ret
    exact ⟨ret_bool (by simp [befB, h1]), ((Bel.refl w).alloc _).alloc _⟩
  · by_cases h2 : pl = ql
    · subst h2
      go_enter Try.func18, Try.ntmps18
      go_wp2
      go_ret
      exact ⟨ret_bool (by simp [befB]), ((Bel.refl w).alloc _).alloc _⟩
    · go_enter Try.func18, Try.ntmps18
      go_wp2
      go_ret
      exact ⟨ret_bool (by simp [befB, h1, h2]), ((Bel.refl w).alloc _).alloc _⟩

set_option maxHeartbeats 1000000 in
theorem fits4_any (d : DirD) (w : World) (h : d.name.size ≤ 2147483647) :
    Calls Try.prog 22 #[dirV d] w fun e w' => e = .returned (.bool true) ∧ Bel w w' := by
  obtain ⟨dl, dc, nm, tl, tc⟩ := d
  simp only at h
  go_enter Try.func22, Try.ntmps22
  go_wp2
  go_ret
  exact ⟨rfl, (Bel.refl w).alloc _⟩
set_option maxHeartbeats 1000000 in
theorem fits4_not (d : DirD) (w : World) (h : ¬ d.name.size ≤ 2147483647) :
    Calls Try.prog 22 #[dirV d] w fun e w' => e = .returned (.bool false) ∧ Bel w w' := by
  obtain ⟨dl, dc, nm, tl, tc⟩ := d
  simp only at h
  go_enter Try.func22, Try.ntmps22
  go_wp2
  go_ret
  exact ⟨rfl, (Bel.refl w).alloc _⟩

set_option maxRecDepth 100000 in
set_option maxHeartbeats 1000000 in
theorem specRel_any (d : DirD) (l c : Int) (w : World) (h0 : 1 ≤ d.line) (h1 : d.line ≤ 1000000) (h2 : 1 ≤ d.col) (h3 : d.col ≤ 250) (h4 : 1 ≤ d.toLine) (h5 : d.toLine ≤ 1000000) (h6 : 1 ≤ d.toCol) (h7 : d.toCol ≤ 250)
    (h9 : l ≤ 1000000) (h9' : 1 ≤ l) (h10 : 1 ≤ c) (h11 : c ≤ 250) :
    Calls Try.prog 24 #[dirV d, placeV ⟨0, l, c, 0, 0⟩] w fun e w' => e = .returned (placeV ⟨0, d.toLine + (l - d.line), relC (l * 4096 + c * 16) (d.line * 4096 + d.col * 16) d.toCol, 0, 0⟩) ∧ Bel w w' := by
  obtain ⟨dl, dc, nm, tl, tc⟩ := d
  simp only at h0 h1 h2 h3 h4 h5 h6 h7 ⊢
  have a1 : (l * 4096 + c * 16) / 4096 = l := by omega
  have a2 : (l * 4096 + c * 16) / 16 % 256 = c := by omega
  have a3 : (dl * 4096 + dc * 16) / 4096 = dl := by omega
  have a4 : (dl * 4096 + dc * 16) / 16 % 256 = dc := by omega
  unfold relC
  rw [a1, a2, a3, a4]
  clear a1 a2 a3 a4
  have e1 : tl + l - dl = tl + (l - dl) := by omega
  have e2 : tc + c - dc = tc + (c - dc) := by omega
  by_cases hl : l = dl
  · rw [if_pos hl]
    go_enter Try.func24, Try.ntmps24
    go_wp2
    refine bodyPost_ret (v := placeV ⟨0, tl + (l - dl), tc + (c - dc), 0, 0⟩) (by simp [results, Try.results24, go_sem]; omega) rfl ?_
    exact ⟨rfl, ((((Bel.refl w).alloc _).alloc _).alloc _).alloc _⟩
  · rw [if_neg hl]
    go_enter Try.func24, Try.ntmps24
    go_wp2
    refine bodyPost_ret (v := placeV ⟨0, tl + (l - dl), c, 0, 0⟩) (by simp [results, Try.results24, go_sem]) rfl ?_
    exact ⟨rfl, ((((Bel.refl w).alloc _).alloc _).alloc _).alloc _⟩
end Go.Proofs.Ytbekmpmfkblgnaa
