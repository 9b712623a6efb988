/- Plain: what is due behind changes, and what a changed number tells. -/
import Derived.Test.YtbekmpmfkblgnaaPosP
namespace Go.Proofs.Ytbekmpmfkblgnaa
open Go.RowKit

/-- What the law keeps: what is due, and of which marks it speaks. -/
structure Due where
  p : PlaceD
  s : Bool
  g : Bool
def dueNext (d : Due) (c : Pl.Ent) : Due := ⟨chP d.p c.1 c.2, (d.s && c.1 != 3) || (decide (0 ≤ c.1) && decide (c.1 ≤ 2)), (d.g && c.1 != 3) || c.1 == 4⟩
def dueK (p : PlaceD) (cs : List Pl.Ent) (k : Nat) : Due := (cs.take k).foldl dueNext ⟨p, true, true⟩
theorem dueK_zero (p : PlaceD) (cs : List Pl.Ent) : dueK p cs 0 = ⟨p, true, true⟩ := by simp [dueK]
theorem dueK_succ (p : PlaceD) (cs : List Pl.Ent) (k : Nat) (c : Pl.Ent) (h : cs[k]? = some c) : dueK p cs (k + 1) = dueNext (dueK p cs k) c := by
  unfold dueK; rw [List.take_add_one, h]; simp

/-- The number tells what is due. -/
structure Tells (x : Int) (d : Due) : Prop where
  l : x / 4096 = d.p.line
  c : x / 16 % 256 = d.p.col
  s : d.s = true → x % 4 = d.p.stmt
  g : d.g = true → x / 4 % 4 = d.p.logue
theorem Tells.next {x : Int} {d : Due} {ch : Pl.Ent} (h : Tells x d) (_h0 : 4096 ≤ x) (h1 : 0 ≤ ch.2) (h2 : ch.2 ≤ 2) : Tells (chg x ch.1 ch.2) (dueNext d ch) := by
  obtain ⟨k, n⟩ := ch
  obtain ⟨⟨pf, pl, pc, ps, px⟩, s, g⟩ := d
  obtain ⟨a1, a2, a3, a4⟩ := h
  simp only at h1 h2 a1 a2 a3 a4
  by_cases k0 : k = 0
  · subst k0
    exact ⟨by show (x / 4 * 4 + 1) / 4096 = pl; omega, by show (x / 4 * 4 + 1) / 16 % 256 = pc; omega, fun _ => by show (x / 4 * 4 + 1) % 4 = 1; omega, fun hg => by
      have hg' : g = true := by simpa [dueNext] using hg
      have := a4 hg'
      show (x / 4 * 4 + 1) / 4 % 4 = px; omega⟩
  by_cases k1 : k = 1
  · subst k1
    exact ⟨by show (x / 4 * 4 + 2) / 4096 = pl; omega, by show (x / 4 * 4 + 2) / 16 % 256 = pc; omega, fun _ => by show (x / 4 * 4 + 2) % 4 = 2; omega, fun hg => by
      have hg' : g = true := by simpa [dueNext] using hg
      have := a4 hg'
      show (x / 4 * 4 + 2) / 4 % 4 = px; omega⟩
  by_cases k2 : k = 2
  · subst k2
    exact ⟨by show (x / 4 * 4) / 4096 = pl; omega, by show (x / 4 * 4) / 16 % 256 = pc; omega, fun _ => by show (x / 4 * 4) % 4 = 0; omega, fun hg => by
      have hg' : g = true := by simpa [dueNext] using hg
      have := a4 hg'
      show (x / 4 * 4) / 4 % 4 = px; omega⟩
  by_cases k3 : k = 3
  · subst k3
    exact ⟨by show (x / 4096 * 4096 + 17) / 4096 = pl; omega, by show (x / 4096 * 4096 + 17) / 16 % 256 = 1; omega, fun hs => by simp [dueNext] at hs, fun hg => by simp [dueNext] at hg⟩
  by_cases k4 : k = 4
  · subst k4
    exact ⟨by show (x / 16 * 16 + n * 4 + x % 4) / 4096 = pl; omega, by show (x / 16 * 16 + n * 4 + x % 4) / 16 % 256 = pc; omega, fun hs => by
      have hs' : s = true := by simpa [dueNext] using hs
      have := a3 hs'
      show (x / 16 * 16 + n * 4 + x % 4) % 4 = ps; omega, fun _ => by show (x / 16 * 16 + n * 4 + x % 4) / 4 % 4 = n; omega⟩
  have e1 : chg x k n = x := by simp [chg, k0, k1, k2, k3, k4]
  have e2 : chP ⟨pf, pl, pc, ps, px⟩ k n = ⟨pf, pl, pc, ps, px⟩ := by simp [chP, k0, k1, k2, k3, k4]
  have hk : ¬ (0 ≤ k ∧ k ≤ 2) := by omega
  refine ⟨?_, ?_, ?_, ?_⟩ <;> simp only [dueNext, e1, e2]
  · exact a1
  · exact a2
  · intro hs
    apply a3
    cases s
    · simp at hs; exact absurd hs hk
    · rfl
  · intro hg
    apply a4
    cases g
    · simp [k4] at hg
    · rfl
theorem tells_all (p : PlaceD) (cs : List Pl.Ent) (hc : chgOk cs) (h0 : 1 ≤ p.line) (h2 : 1 ≤ p.col) (h3 : p.col ≤ 250) (hs : p.stmt = 0) (hg : p.logue = 0) : ∀ k, k ≤ cs.length → Tells (chgs (p.line * 4096 + p.col * 16) cs k) (dueK p cs k)
  | 0, _ => by
    rw [chgs_zero, dueK_zero]
    exact ⟨by show _ = p.line; omega, by show _ = p.col; omega, fun _ => by show _ = p.stmt; omega, fun _ => by show _ = p.logue; omega⟩
  | k + 1, hk => by
    have hk' : k < cs.length := by omega
    have h1 := tells_all p cs hc h0 h2 h3 hs hg k (by omega)
    have hm := hc cs[k] (List.getElem_mem _)
    have hl := chgs_line (p.line * 4096 + p.col * 16) cs (by omega) hc k (by omega)
    rw [chgs_succ _ cs k cs[k] (List.getElem?_eq_getElem hk'), dueK_succ _ cs k cs[k] (List.getElem?_eq_getElem hk')]
    exact h1.next hl.2 hm.1 hm.2
/-- The cells of the k-th place. -/
theorem plTo_at (x : Int) (cs : List Pl.Ent) : ∀ (n k : Nat), k ≤ n → ∀ (j : Nat), j < 5 → (plTo x cs n)[k * 5 + j]? = (plCells (chgs x cs k))[j]?
  | 0, k, hk, j, _ => by
    obtain rfl : k = 0 := by omega
    rw [chgs_zero]; simp [plTo]
  | n + 1, k, hk, j, hj => by
    by_cases e : k = n + 1
    · subst e
      show (plTo x cs n ++ plCells (chgs x cs (n + 1)))[(n + 1) * 5 + j]? = _
      rw [List.getElem?_append_right (by rw [plTo_length]; omega), plTo_length]
      congr 1
      omega
    · show (plTo x cs n ++ plCells (chgs x cs (n + 1)))[k * 5 + j]? = _
      rw [List.getElem?_append_left (by rw [plTo_length]; omega)]
      exact plTo_at x cs n k (by omega) j hj
end Go.Proofs.Ytbekmpmfkblgnaa
