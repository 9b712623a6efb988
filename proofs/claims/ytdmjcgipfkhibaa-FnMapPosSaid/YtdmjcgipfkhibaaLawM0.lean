/- What the laws of maps need of the laws' helpers: steps laid out, plain, step; the cells of an answer. -/
import Derived.Test.YtdmjcgipfkhibaaSet4
namespace Go.Proofs.Ytdmjcgipfkhibaa
open Go.RowKit

theorem el30 : ElTy 22 39 4 48 := ElTy.mk' (z := .agg #[.int .i64 0, .int .i64 0, .int .i64 0, .slice none 0 0]) Try.underlying22 (by kernel_rfl) rfl (by decide)

abbrev StepT := Pl.StepD × Value
def stepCells (L : List StepT) : List Value := L.flatMap fun p => [.int .i64 p.1.kind, .int .i64 p.1.key, .int .i64 p.1.val, p.2]
theorem stepCells_append (a b : List StepT) : stepCells (a ++ b) = stepCells a ++ stepCells b := by simp [stepCells]
theorem stepCells_length (a : List StepT) : (stepCells a).length = a.length * 4 := by
  induction a with
  | nil => rfl
  | cons x r ih => simp only [stepCells, List.flatMap_cons, List.length_append, List.length_cons, List.length_nil] at ih ⊢; omega
theorem stepCells_at : ∀ (l : List StepT) (i : Nat) (p : StepT), l[i]? = some p → (stepCells l)[i * 4]? = some (.int .i64 p.1.kind) ∧ (stepCells l)[i * 4 + 1]? = some (.int .i64 p.1.key) ∧ (stepCells l)[i * 4 + 2]? = some (.int .i64 p.1.val) ∧ (stepCells l)[i * 4 + 3]? = some p.2
  | [], i, e, h => by simp at h
  | a :: r, 0, e, h => by simp at h; subst h; simp [stepCells]
  | a :: r, i + 1, e, h => by
    have := stepCells_at r i e (by simpa using h)
    have e1 : stepCells (a :: r) = .int .i64 a.1.kind :: .int .i64 a.1.key :: .int .i64 a.1.val :: a.2 :: stepCells r := rfl
    rw [e1, show (i + 1) * 4 = i * 4 + 1 + 1 + 1 + 1 by omega, show i * 4 + 1 + 1 + 1 + 1 + 1 = (i * 4 + 1) + 1 + 1 + 1 + 1 by omega, show i * 4 + 1 + 1 + 1 + 1 + 2 = (i * 4 + 2) + 1 + 1 + 1 + 1 by omega, show i * 4 + 1 + 1 + 1 + 1 + 3 = (i * 4 + 3) + 1 + 1 + 1 + 1 by omega]
    simpa using this
theorem stepS_own {w : World} {base : Nat} {v : Value} {n : Nat} {L : List StepT} (h : w.ownsRow base 39 4 v n (stepCells L)) (hL : ∀ p ∈ L, IntS w p.2 p.1.list) : StepS w v (L.map (·.1)) := by
  have hl := h.1
  rw [stepCells_length] at hl
  obtain rfl : n = L.length := by omega
  obtain ⟨a, c, rfl, h1, h2, h3⟩ := own_form h
  refine ⟨a, c, by rw [List.length_map], by rw [List.length_map]; exact h1, h2, fun hn => ?_⟩
  rw [List.length_map] at hn
  obtain ⟨g, rfl, hg⟩ := h3 hn
  refine ⟨g, 0, rfl, fun i p hp => ?_⟩
  rw [List.getElem?_map] at hp
  obtain ⟨q, hq, rfl⟩ := Option.map_eq_some_iff.1 hp
  obtain ⟨c0, c1, c2, c3⟩ := stepCells_at L i q hq
  rw [Nat.zero_add]
  exact ⟨q.2, hg _ _ c0, hg _ _ c1, hg _ _ c2, hg _ _ c3, hL q (List.mem_of_getElem? hq)⟩

def nilV : Value := .slice none 0 0
def addT (x : Int) : StepT := (⟨0, x, 0, []⟩, .slice none 0 0)

def plainB (n : Int) (l : List Int) : Bool := decide (1 ≤ n ∧ n ≤ 2000 ∧ l.length ≤ 500 ∧ ∀ x ∈ l, 0 ≤ x ∧ x < n)
theorem plainB_iff {n : Int} {l : List Int} : plainB n l = true ↔ 1 ≤ n ∧ n ≤ 2000 ∧ l.length ≤ 500 ∧ ∀ x ∈ l, 0 ≤ x ∧ x < n := by unfold plainB; exact decide_eq_true_iff
theorem plainB_false {n : Int} {l : List Int} (h : ¬ (1 ≤ n ∧ n ≤ 2000 ∧ l.length ≤ 500 ∧ ∀ x ∈ l, 0 ≤ x ∧ x < n)) : plainB n l = false := by
  cases hb : plainB n l
  · rfl
  · exact absurd (plainB_iff.1 hb) h

set_option maxHeartbeats 1000000 in
theorem plain_any (n : Int) (v : Value) (l : List Int) (w : World) (h : IntS w v l) : Calls Try.prog 18 #[.int .i64 n, v] w fun e w' => e = .returned (.bool (plainB n l)) ∧ w = w' := by
  obtain ⟨a, c, rfl, hlc, hcm, hcell⟩ := h
  have HC := Lib.hid hcell; clear hcell
  by_cases h1 : n < 1
  · rw [plainB_false (by omega)]
    go_enter Try.func18, Try.ntmps18
    go_wp2
    go_ret
    exact ⟨rfl, rfl⟩
  by_cases h2 : 2000 < n
  · rw [plainB_false (by omega)]
    go_enter Try.func18, Try.ntmps18
    go_wp2
    go_ret
    exact ⟨rfl, rfl⟩
  by_cases h3 : 500 < l.length
  · rw [plainB_false (by omega)]
    go_enter Try.func18, Try.ntmps18
    go_wp2
    go_ret
    exact ⟨rfl, rfl⟩
  go_enter Try.func18, Try.ntmps18
  go_wp2
  go_loop [20] (fun i => ∃ j : Nat, j ≤ l.length ∧ i = .int .i64 j ∧ ∀ x ∈ l.take j, 0 ≤ x ∧ x < n) (fun i => l.length - (intOf i).toNat)
  case atStart => exact ⟨0, Nat.zero_le _, rfl, by simp⟩
  case round =>
    obtain ⟨j, hj, rfl, hall⟩ := hrel
    have HA := Lib.hid hall; clear hall
    by_cases hlt : j < l.length
    · obtain ⟨b, o, rfl, hgd⟩ := HC.out (by omega)
      obtain ⟨x, he⟩ : ∃ e, l[j]? = some e := ⟨_, List.getElem?_eq_getElem hlt⟩
      have hc0 := hgd j _ he
      have HE : Hid (l.take (j + 1) = l.take j ++ [x]) := Lib.hid (by rw [List.take_add_one, he]; rfl)
      have HM := Lib.hid (List.mem_of_getElem? he)
      clear hgd he
      by_cases hx0 : x < 0
      · go_wp2
        go_ret
        refine ⟨?_, rfl⟩
        rw [plainB_false (fun hh => by have := hh.2.2.2 x HM.out; omega)]
        rfl
      by_cases hx1 : n ≤ x
      · go_wp2
        go_ret
        refine ⟨?_, rfl⟩
        rw [plainB_false (fun hh => by have := hh.2.2.2 x HM.out; omega)]
        rfl
      · go_wp2
        go_round
        case rel => exact ⟨j + 1, by omega, by go_num, by rw [HE.out]; intro y hy; rcases List.mem_append.1 hy with hy | hy; exact HA.out y hy; simp at hy; subst hy; omega⟩
        case measure => simp [intOf]; omega
    · go_wp2
      go_ret
      refine ⟨?_, rfl⟩
      have := HA.out
      rw [List.take_of_length_le (by omega)] at this
      rw [plainB_iff.2 ⟨by omega, by omega, by omega, this⟩]
      rfl

theorem step_any (k : Int) (w : World) : Calls Try.prog 22 #[.int .i64 k] w fun e w' => e = .returned (.agg #[.int .i64 k, .int .i64 0, .int .i64 0, .slice none 0 0]) ∧ Bel w w' := by
  go_enter Try.func22, Try.ntmps22
  go_wp2
  exact bodyPost_ret (v := .agg #[.int .i64 k, .int .i64 0, .int .i64 0, .slice none 0 0]) (by simp [results, Try.results22, go_sem]) rfl ⟨rfl, (Bel.refl w).alloc _⟩

theorem rep_rem {l d : List Pl.Ent} (h : Pl.Rep l d) (x : Int) : Pl.Rep (Pl.without l x) (remE d x) := by
  cases hb : inB d x
  · have hno : ∀ v, (x, v) ∉ d := fun v hv => by rw [inB_iff.2 ⟨v, hv⟩] at hb; cases hb
    rw [remE_not hno, h.stays hno]
    exact h
  · obtain ⟨v, hv⟩ := inB_iff.1 hb
    obtain ⟨i, hi, hie⟩ := List.getElem_of_mem hv
    rw [remE_at h.nodup (show d[i]? = some (x, v) by rw [List.getElem?_eq_getElem hi, hie])]
    have := h.out hi
    rwa [hie] at this
abbrev addS (x : Int) : Pl.StepD := ⟨0, x, 0, []⟩
abbrev kindS (k : Int) : Pl.StepD := ⟨k, 0, 0, []⟩
/-- The cells of an answer. -/
theorem ansS_at {w : World} {a : Option Addr} {c : Nat} {A : List Pl.Ans} (h : AnsS w (.slice a A.length c) A) {i : Nat} {p : Pl.Ans} (hp : A[i]? = some p) :
    ∃ b k x, a = some ⟨b, 0, none⟩ ∧ w.cell? ⟨b, i * 4, none⟩ = some (.bool p.ok) ∧ w.cell? ⟨b, i * 4 + 1, none⟩ = some (.int .i64 p.val) ∧ w.cell? ⟨b, i * 4 + 2, none⟩ = some k ∧ w.cell? ⟨b, i * 4 + 3, none⟩ = some x ∧ IntS w k p.keys ∧ IntS w x p.vals := by
  obtain ⟨a', c', hv, _, _, hc⟩ := h
  injection hv with h1 _ _
  subst h1
  obtain ⟨b, rfl, hb⟩ := hc (by have := (List.getElem?_eq_some_iff.1 hp).1; omega)
  obtain ⟨k, x, h⟩ := hb i p hp
  exact ⟨b, k, x, rfl, h⟩
end Go.Proofs.Ytdmjcgipfkhibaa
