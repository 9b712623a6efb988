/- The walks of the laws' helpers plain, adds, step, entries, tells. -/
import Derived.Test.YtlagnbiokhnhlaaSet4
namespace Go.Proofs.Ytlagnbiokhnhlaa
open Go.RowKit

theorem el30 : ElTy 30 43 4 48 := ElTy.mk' (z := .agg #[.int .i64 0, .int .i64 0, .int .i64 0, .slice none 0 0]) Try.underlying30 (by kernel_rfl) rfl (by decide)

abbrev StepT := Pl.StepD × Value
def stepCells (L : List StepT) : List Value := L.flatMap fun p => [.int .i64 p.1.kind, .int .i64 p.1.key, .int .i64 p.1.val, p.2]
theorem stepCells_append (a b : List StepT) : stepCells (a ++ b) = stepCells a ++ stepCells b := by simp [stepCells]
theorem stepCells_length (a : List StepT) : (stepCells a).length = a.length * 4 := by
  induction a with
  | nil => rfl
  | cons x r ih => simp only [stepCells, List.flatMap_cons, List.length_append, List.length_cons, List.length_nil] at ih ⊢; omega
theorem stepCells_at : ∀ (l : List StepT) (i : Nat) (p : StepT), l[i]? = some p → (stepCells l)[i * 4]? = some (.int .i64 p.1.kind) ∧ (stepCells l)[i * 4 + 1]? = some (.int .i64 p.1.key) ∧ (stepCells l)[i * 4 + 2]? = some (.int .i64 p.1.val) ∧ (stepCells l)[i * 4 + 3]? = some p.2
  | [], i, e, h => by simp at h
  | a :: r, 0, e, h => by simp at h; subst h; simp [stepCells]
  | a :: r, i + 1, e, h => by
    have := stepCells_at r i e (by simpa using h)
    have e1 : stepCells (a :: r) = .int .i64 a.1.kind :: .int .i64 a.1.key :: .int .i64 a.1.val :: a.2 :: stepCells r := rfl
    rw [e1, show (i + 1) * 4 = i * 4 + 1 + 1 + 1 + 1 by omega, show i * 4 + 1 + 1 + 1 + 1 + 1 = (i * 4 + 1) + 1 + 1 + 1 + 1 by omega, show i * 4 + 1 + 1 + 1 + 1 + 2 = (i * 4 + 2) + 1 + 1 + 1 + 1 by omega, show i * 4 + 1 + 1 + 1 + 1 + 3 = (i * 4 + 3) + 1 + 1 + 1 + 1 by omega]
    simpa using this
theorem stepS_own {w : World} {base : Nat} {v : Value} {n : Nat} {L : List StepT} (h : w.ownsRow base 43 4 v n (stepCells L)) (hL : ∀ p ∈ L, IntS w p.2 p.1.list) : StepS w v (L.map (·.1)) := by
  have hl := h.1
  rw [stepCells_length] at hl
  obtain rfl : n = L.length := by omega
  obtain ⟨a, c, rfl, h1, h2, h3⟩ := own_form h
  refine ⟨a, c, by rw [List.length_map], by rw [List.length_map]; exact h1, h2, fun hn => ?_⟩
  rw [List.length_map] at hn
  obtain ⟨g, rfl, hg⟩ := h3 hn
  refine ⟨g, 0, rfl, fun i p hp => ?_⟩
  rw [List.getElem?_map] at hp
  obtain ⟨q, hq, rfl⟩ := Option.map_eq_some_iff.1 hp
  obtain ⟨c0, c1, c2, c3⟩ := stepCells_at L i q hq
  rw [Nat.zero_add]
  exact ⟨q.2, hg _ _ c0, hg _ _ c1, hg _ _ c2, hg _ _ c3, hL q (List.mem_of_getElem? hq)⟩

def nilV : Value := .slice none 0 0
def addT (x : Int) : StepT := (⟨0, x, 0, []⟩, .slice none 0 0)

def plainB (n : Int) (l : List Int) : Bool := decide (1 ≤ n ∧ n ≤ 2000 ∧ l.length ≤ 500 ∧ ∀ x ∈ l, 0 ≤ x ∧ x < n)
theorem plainB_iff {n : Int} {l : List Int} : plainB n l = true ↔ 1 ≤ n ∧ n ≤ 2000 ∧ l.length ≤ 500 ∧ ∀ x ∈ l, 0 ≤ x ∧ x < n := by unfold plainB; exact decide_eq_true_iff
theorem plainB_false {n : Int} {l : List Int} (h : ¬ (1 ≤ n ∧ n ≤ 2000 ∧ l.length ≤ 500 ∧ ∀ x ∈ l, 0 ≤ x ∧ x < n)) : plainB n l = false := by
  cases hb : plainB n l
  · rfl
  · exact absurd (plainB_iff.1 hb) h

set_option maxHeartbeats 1000000 in
theorem plain_any (n : Int) (v : Value) (l : List Int) (w : World) (h : IntS w v l) : Calls Try.prog 20 #[.int .i64 n, v] w fun e w' => e = .returned (.bool (plainB n l)) ∧ w = w' := by
  obtain ⟨a, c, rfl, hlc, hcm, hcell⟩ := h
  have HC := Lib.hid hcell; clear hcell
  by_cases h1 : n < 1
  · rw [plainB_false (by omega)]
    go_enter Try.func20, Try.ntmps20
    go_wp2
    go_ret
    exact ⟨rfl, rfl⟩
  by_cases h2 : 2000 < n
  · rw [plainB_false (by omega)]
    go_enter Try.func20, Try.ntmps20
    go_wp2
    go_ret
    exact ⟨rfl, rfl⟩
  by_cases h3 : 500 < l.length
  · rw [plainB_false (by omega)]
    go_enter Try.func20, Try.ntmps20
    go_wp2
    go_ret
    exact ⟨rfl, rfl⟩
  go_enter Try.func20, Try.ntmps20
  go_wp2
  go_loop [20] (fun i => ∃ j : Nat, j ≤ l.length ∧ i = .int .i64 j ∧ ∀ x ∈ l.take j, 0 ≤ x ∧ x < n) (fun i => l.length - (intOf i).toNat)
  case atStart => exact ⟨0, Nat.zero_le _, rfl, by simp⟩
  case round =>
    obtain ⟨j, hj, rfl, hall⟩ := hrel
    have HA := Lib.hid hall; clear hall
    by_cases hlt : j < l.length
    · obtain ⟨b, o, rfl, hgd⟩ := HC.out (by omega)
      obtain ⟨x, he⟩ : ∃ e, l[j]? = some e := ⟨_, List.getElem?_eq_getElem hlt⟩
      have hc0 := hgd j _ he
      have HE : Hid (l.take (j + 1) = l.take j ++ [x]) := Lib.hid (by rw [List.take_add_one, he]; rfl)
      have HM := Lib.hid (List.mem_of_getElem? he)
      clear hgd he
      by_cases hx0 : x < 0
      · go_wp2
        go_ret
        refine ⟨?_, rfl⟩
        rw [plainB_false (fun hh => by have := hh.2.2.2 x HM.out; omega)]
        rfl
      by_cases hx1 : n ≤ x
      · go_wp2
        go_ret
        refine ⟨?_, rfl⟩
        rw [plainB_false (fun hh => by have := hh.2.2.2 x HM.out; omega)]
        rfl
      · go_wp2
        go_round
        case rel => exact ⟨j + 1, by omega, by go_num, by rw [HE.out]; intro y hy; rcases List.mem_append.1 hy with hy | hy; exact HA.out y hy; simp at hy; subst hy; omega⟩
        case measure => simp [intOf]; omega
    · go_wp2
      go_ret
      refine ⟨?_, rfl⟩
      have := HA.out
      rw [List.take_of_length_le (by omega)] at this
      rw [plainB_iff.2 ⟨by omega, by omega, by omega, this⟩]
      rfl

set_option maxHeartbeats 400000 in
theorem adds_any {w : World} {v : Value} {l : List Int} (h : IntS w v l) (hl : l.length ≤ 1000000) :
    Calls Try.prog 21 #[v] w fun e w' => ∃ u, e = .returned u ∧ w'.ownsRow w.heap.size 43 4 u l.length (stepCells (l.map addT)) ∧ Bel w w' := by
  obtain ⟨a, c, rfl, hlc, hcm, hcell⟩ := h
  have HC := Lib.hid hcell; clear hcell
  go_enter Try.func21, Try.ntmps21
  go_wp2
  go_loopw [3, 9] (fun u i wr => ∃ j : Nat, j ≤ l.length ∧ i = .int .i64 j ∧ wr.ownsRow w.heap.size 43 4 u j (stepCells ((l.take j).map addT)) ∧ Bel w wr) (fun _ i _ => l.length - (intOf i).toNat)
  case atStart => exact ⟨0, Nat.zero_le _, rfl, owns_empty _ _ _ _ _ rfl (Nat.le_refl _), (Bel.refl w).alloc _⟩
  case round =>
    obtain ⟨j, hj, rfl, hown, hbel⟩ := hrel
    have HO := Lib.hid hown; clear hown
    have hbs := hbel.size
    by_cases hlt : j < l.length
    · obtain ⟨b, o, rfl, hgd⟩ := HC.out (by omega)
      obtain ⟨x, he⟩ : ∃ e, l[j]? = some e := ⟨_, List.getElem?_eq_getElem hlt⟩
      have hc0 := hbel.cell (hgd j _ he)
      have HE : Hid ((l.take (j + 1)).map addT = (l.take j).map addT ++ [addT x]) := Lib.hid (by rw [List.take_add_one, he, List.map_append]; rfl)
      clear hgd he
      go_wp2_with (at_builtin; refine wpList_push el30 rfl (.tmp 13) (.tmp 16) rfl w.heap.size u3 j _ rfl HO.out [.int .i64 0, .int .i64 x, .int .i64 0, .slice none 0 0] wr.heap.size rfl rfl rfl (by simp [Value.oneCell']) (by omega) (by omega) (by omega) ?_)
      intro u1 w1 ho1 hg1 _
      have hb2 : Bel w w1 := hbel.grown hg1 (fun k hk => (HO.out.lt k hk).1)
      have ho2 : w1.ownsRow w.heap.size 43 4 u1 (j + 1) (stepCells ((l.take (j + 1)).map addT)) := by rw [HE.out, stepCells_append, List.map_take]; exact ho1
      clear ho1 hg1
      go_wp2
      go_roundw
      case rel => exact ⟨j + 1, by omega, by go_num, ho2, hb2⟩
      case measure => simp [intOf]; omega
    · go_wp2
      go_ret
      obtain rfl : j = l.length := by omega
      refine ⟨_, rfl, ?_, hbel⟩
      have := HO.out
      rwa [List.take_of_length_le (Nat.le_refl _)] at this

theorem step_any (k : Int) (w : World) : Calls Try.prog 22 #[.int .i64 k] w fun e w' => e = .returned (.agg #[.int .i64 k, .int .i64 0, .int .i64 0, .slice none 0 0]) ∧ Bel w w' := by
  go_enter Try.func22, Try.ntmps22
  go_wp2
  exact bodyPost_ret (v := .agg #[.int .i64 k, .int .i64 0, .int .i64 0, .slice none 0 0]) (by simp [results, Try.results22, go_sem]) rfl ⟨rfl, (Bel.refl w).alloc _⟩

set_option maxHeartbeats 400000 in
theorem entries_any {w : World} {v : Value} {l : List Int} (h : IntS w v l) (hl : l.length ≤ 1000000) :
    Calls Try.prog 23 #[v] w fun e w' => ∃ u, e = .returned u ∧ EntS w' u (Pl.putAll [] l) ∧ Bel w w' := by
  obtain ⟨a, c, rfl, hlc, hcm, hcell⟩ := h
  have HC := Lib.hid hcell; clear hcell
  go_enter Try.func23, Try.ntmps23
  go_wp2
  go_loopw [3, 9] (fun u i wr => ∃ j : Nat, j ≤ l.length ∧ i = .int .i64 j ∧ EntS wr u (Pl.putAll [] (l.take j)) ∧ Bel w wr) (fun _ i _ => l.length - (intOf i).toNat)
  case atStart => exact ⟨0, Nat.zero_le _, rfl, EntS.empty _ _, (Bel.refl w).alloc _⟩
  case round =>
    obtain ⟨j, hj, rfl, hown, hbel⟩ := hrel
    have HO := Lib.hid hown; clear hown
    by_cases hlt : j < l.length
    · obtain ⟨b, o, rfl, hgd⟩ := HC.out (by omega)
      obtain ⟨x, he⟩ : ∃ e, l[j]? = some e := ⟨_, List.getElem?_eq_getElem hlt⟩
      have hc0 := hbel.cell (hgd j _ he)
      have HE : Hid (Pl.putAll [] (l.take (j + 1)) = Pl.put (Pl.putAll [] (l.take j)) x 0) := Lib.hid (by rw [List.take_add_one, he]; simp [Pl.putAll])
      have hpl := Pl.putAll_length [] (l.take j)
      rw [List.length_take] at hpl
      simp only [List.length_nil] at hpl
      clear hgd he
      go_wp2_with (go_at_call 14; refine (put_ents _ _ x 0 _ HO.out (by omega)).mono ?_; rintro e w2 ⟨u2, rfl, hE2, hb2⟩; have HE2 := Lib.hid hE2; clear hE2)
      go_roundw
      case rel => exact ⟨j + 1, by omega, by go_num, by rw [HE.out]; exact HE2.out, hbel.trans hb2⟩
      case measure => simp [intOf]; omega
    · go_wp2
      go_ret
      obtain rfl : j = l.length := by omega
      refine ⟨_, rfl, ?_, hbel⟩
      have := HO.out
      rwa [List.take_of_length_le (Nat.le_refl _)] at this

def tellsB (ks : List Int) (l : List Pl.Ent) : Bool := match Pl.sortedOf ks (List.replicate ks.length 0) with | none => false | some t => decide (t = l)
set_option maxHeartbeats 400000 in
theorem tells_any {w : World} {v u : Value} {ks : List Int} {l : List Pl.Ent} (h : IntS w v ks) (hl : EntS w u l) (hn : ks.length ≤ 1000000) (hm : l.length ≤ 1000000) :
    Calls Try.prog 24 #[v, u] w fun e w' => e = .returned (.bool (tellsB ks l)) ∧ Bel w w' := by
  have HK := Lib.hid h
  have HL := Lib.hid hl; clear hl
  obtain ⟨ka, kc, rfl, _, _, _⟩ := h
  obtain ⟨i0, hi, hz0, hz1, hz2⟩ := eli
  have HI := Lib.hid hi; clear hi
  have HZ0 := Lib.hid hz0; clear hz0
  have HZ1 := Lib.hid hz1; clear hz1
  have HZ2 := Lib.hid hz2; clear hz2
  have HSO := Lib.hid (fun (vv : Value) (W : World) (hb : Bel w W) (h1 : IntS W vv (List.replicate ks.length 0)) => sorted_any _ _ ks (List.replicate ks.length 0) W (HK.out.bel hb) h1 hn)
  cases hs : Pl.sortedOf ks (List.replicate ks.length 0) with
  | none =>
    have e1 : tellsB ks l = false := by unfold tellsB; rw [hs]
    rw [e1]
    have HS := Lib.hid hs; clear hs e1
    go_enter Try.func24, Try.ntmps24
    go_wp2_with (refine wpList_make_full _ rfl (.tmp 10) (.tmp 10) 22 rfl w.heap.size 2 i0 (.int .i64 0) 1 Try.underlying22 HI.out HZ0.out HZ1.out .i64 .i64 ks.length ks.length ks.length rfl rfl rfl rfl (by rw [HZ2.out]; omega) (by unfold maxLen; omega) (Nat.le_refl _) ?_)
    intro w1 ho1 hg1
    rw [made_zero] at ho1
    have hb1 : Bel w w1 := (Bel.refl _).grown hg1 (by simp)
    have hI := ints_own ho1
    clear ho1 hg1
    go_wp2_with fail
    refine (HSO.out _ _ hb1 hI).mono ?_
    rw [HS.out]
    rintro e w2 ⟨u2, rfl, hu, hb2⟩
    have hb3 := hb1.trans hb2
    clear hu hb2 hI hb1
    go_wp2
    go_ret
    exact ⟨rfl, hb3⟩
  | some t =>
    have e1 : tellsB ks l = decide (t = l) := by unfold tellsB; rw [hs]
    rw [e1]
    have HS := Lib.hid hs
    have ht : t.length ≤ 1000000 := by
      unfold Pl.sortedOf at hs
      split at hs
      · have := Pl.sortedFrom_length _ _ _ hs
        simp only [List.length_nil, List.length_zip] at this
        omega
      · cases hs
    clear hs e1
    go_enter Try.func24, Try.ntmps24
    go_wp2_with (refine wpList_make_full _ rfl (.tmp 10) (.tmp 10) 22 rfl w.heap.size 2 i0 (.int .i64 0) 1 Try.underlying22 HI.out HZ0.out HZ1.out .i64 .i64 ks.length ks.length ks.length rfl rfl rfl rfl (by rw [HZ2.out]; omega) (by unfold maxLen; omega) (Nat.le_refl _) ?_)
    intro w1 ho1 hg1
    rw [made_zero] at ho1
    have hb1 : Bel w w1 := (Bel.refl _).grown hg1 (by simp)
    have hI := ints_own ho1
    clear ho1 hg1
    go_wp2_with fail
    refine (HSO.out _ _ hb1 hI).mono ?_
    rw [HS.out]
    rintro e w2 ⟨u2, rfl, hu, hb2⟩
    have hb3 := hb1.trans hb2
    have HU : Hid (EntS w2 u2 t) := Lib.hid hu
    clear hu hb2 hI hb1
    go_wp2_with fail
    refine (same_ents _ _ t l _ HU.out (HL.out.bel hb3) ht hm).mono ?_
    rintro e w4 ⟨rfl, hb4⟩
    have hb5 := hb3.trans hb4
    clear hb4 hb3
    go_wp2
    go_ret
    exact ⟨rfl, hb5⟩
end Go.Proofs.Ytlagnbiokhnhlaa
