/- The walks of laws.small, laws.sets; scripts of sets. -/
import Derived.Test.YtdmjcgipfkhibaaMapL2
namespace Go.Proofs.Ytdmjcgipfkhibaa
open Go.RowKit

instance val32Dec (x : Int) : Decidable (Val32 x) := inferInstanceAs (Decidable (_ ∧ _))
def smallB (ks vs : List Int) : Bool := decide (ks.length = vs.length ∧ ∀ x ∈ vs, Val32 x)
theorem smallB_iff {ks vs : List Int} : smallB ks vs = true ↔ ks.length = vs.length ∧ ∀ x ∈ vs, Val32 x := by unfold smallB; exact decide_eq_true_iff
theorem smallB_false {ks vs : List Int} (h : ¬ (ks.length = vs.length ∧ ∀ x ∈ vs, Val32 x)) : smallB ks vs = false := by
  cases hb : smallB ks vs
  · rfl
  · exact absurd (smallB_iff.1 hb) h
theorem val32_bounds {x : Int} (h : Val32 x) : -2147483648 ≤ x ∧ x ≤ 2147483647 := h

set_option maxHeartbeats 1000000 in
theorem small_any (v u : Value) (ks vs : List Int) (w : World) (h : IntS w v ks) (h' : IntS w u vs) : Calls Try.prog 19 #[v, u] w fun e w' => e = .returned (.bool (smallB ks vs)) ∧ w = w' := by
  obtain ⟨a, c, rfl, hlc, hcm, _⟩ := h
  obtain ⟨a', c', rfl, hlc', hcm', hcell⟩ := h'
  have HC := Lib.hid hcell; clear hcell
  by_cases h1 : ks.length = vs.length
  · have m0 : ((ks.length : Int) != (vs.length : Int)) = false := by rw [h1]; simp
    have H1 := Lib.hid h1; clear h1
    go_enter Try.func19, Try.ntmps19
    go_wp2
    go_loop [14] (fun i => ∃ j : Nat, j ≤ vs.length ∧ i = .int .i64 j ∧ ∀ x ∈ vs.take j, Val32 x) (fun i => vs.length - (intOf i).toNat)
    case atStart => exact ⟨0, Nat.zero_le _, rfl, by simp⟩
    case round =>
      obtain ⟨j, hj, rfl, hall⟩ := hrel
      have HA := Lib.hid hall; clear hall
      by_cases hlt : j < vs.length
      · obtain ⟨b, o, rfl, hgd⟩ := HC.out (by omega)
        obtain ⟨x, he⟩ : ∃ e, vs[j]? = some e := ⟨_, List.getElem?_eq_getElem hlt⟩
        have hc0 := hgd j _ he
        have HE : Hid (vs.take (j + 1) = vs.take j ++ [x]) := Lib.hid (by rw [List.take_add_one, he]; rfl)
        have HM := Lib.hid (List.mem_of_getElem? he)
        clear hgd he
        by_cases hx0 : x < -2147483648
        · go_wp2
          go_ret
          refine ⟨?_, rfl⟩
          rw [smallB_false (fun hh => by have := (hh.2 x HM.out).1; omega)]
          rfl
        by_cases hx1 : 2147483648 ≤ x
        · go_wp2
          go_ret
          refine ⟨?_, rfl⟩
          rw [smallB_false (fun hh => by have := (hh.2 x HM.out).2; omega)]
          rfl
        · go_wp2
          go_round
          case rel => exact ⟨j + 1, by omega, by go_num, by rw [HE.out]; intro y hy; rcases List.mem_append.1 hy with hy | hy; exact HA.out y hy; simp at hy; subst hy; exact ⟨by omega, by omega⟩⟩
          case measure => simp [intOf]; omega
      · go_wp2
        go_ret
        refine ⟨?_, rfl⟩
        have := HA.out
        rw [List.take_of_length_le (by omega)] at this
        rw [smallB_iff.2 ⟨H1.out, this⟩]
        rfl
  · rw [smallB_false (fun hh => h1 hh.1)]
    have m0 : ((ks.length : Int) != (vs.length : Int)) = true := by
      have : ((ks.length : Int) == (vs.length : Int)) = false := beq_eq_false_iff_ne.2 (by omega)
      unfold bne; rw [this]; rfl
    clear h1 HC
    go_enter Try.func19, Try.ntmps19
    go_wp2
    go_ret
    exact ⟨rfl, rfl⟩

abbrev setS (e : Pl.Ent) : Pl.StepD := ⟨0, e.1, e.2, []⟩
def setT (e : Pl.Ent) : StepT := (⟨0, e.1, e.2, []⟩, .slice none 0 0)
theorem setT_fst (l : List Pl.Ent) : (l.map setT).map (·.1) = l.map setS := by simp [setT, setS]

theorem zip_get {ks vs : List Int} {j : Nat} {x y : Int} (hx : ks[j]? = some x) (hy : vs[j]? = some y) : (ks.zip vs)[j]? = some (x, y) :=
  (List.getElem?_zip_eq_some (z := (x, y))).2 ⟨hx, hy⟩

set_option maxHeartbeats 1000000 in
theorem sets_any {w : World} {v u : Value} {ks vs : List Int} (h : IntS w v ks) (h' : IntS w u vs) (hkv : ks.length = vs.length) (hl : ks.length ≤ 2147483647) :
    Calls Try.prog 21 #[v, u] w fun e w' => ∃ u, e = .returned u ∧ w'.ownsRow w.heap.size 39 4 u ks.length (stepCells ((ks.zip vs).map setT)) ∧ Bel w w' := by
  obtain ⟨a, c, rfl, hlc, hcm, hcell⟩ := h
  obtain ⟨a', c', rfl, hlc', hcm', hcell'⟩ := h'
  have HC := Lib.hid hcell; clear hcell
  have HC' := Lib.hid hcell'; clear hcell'
  have HKV := Lib.hid hkv
  have hkv1 : vs.length ≤ ks.length := by omega
  have hkv2 : ks.length ≤ vs.length := by omega
  clear hkv
  go_enter Try.func21, Try.ntmps21
  go_wp2
  go_loopw [5, 11] (fun u i wr => ∃ j : Nat, j ≤ ks.length ∧ i = .int .i64 j ∧ wr.ownsRow w.heap.size 39 4 u j (stepCells (((ks.zip vs).take j).map setT)) ∧ Bel w wr) (fun _ i _ => ks.length - (intOf i).toNat)
  case atStart => exact ⟨0, Nat.zero_le _, rfl, owns_empty _ _ _ _ _ rfl (Nat.le_refl _), (Bel.refl w).alloc _⟩
  case round =>
    obtain ⟨j, hj, rfl, hown, hbel⟩ := hrel
    have HO := Lib.hid hown; clear hown
    have hbs := hbel.size
    by_cases hlt : j < ks.length
    · obtain ⟨b, o, rfl, hgd⟩ := HC.out (by omega)
      obtain ⟨b', o', rfl, hgd'⟩ := HC'.out (by omega)
      obtain ⟨x, he⟩ : ∃ e, ks[j]? = some e := ⟨_, List.getElem?_eq_getElem hlt⟩
      obtain ⟨y, he'⟩ : ∃ e, vs[j]? = some e := ⟨_, List.getElem?_eq_getElem (by omega)⟩
      have hc0 := hbel.cell (hgd j _ he)
      have hc1 := hbel.cell (hgd' j _ he')
      have HE : Hid (((ks.zip vs).take (j + 1)).map setT = ((ks.zip vs).take j).map setT ++ [setT (x, y)]) := Lib.hid (by rw [List.take_add_one, zip_get he he', List.map_append]; rfl)
      clear hgd he hgd' he'
      go_wp2_with (at_builtin; refine wpList_push el30 rfl (.tmp 16) (.tmp 23) rfl w.heap.size u5 j _ rfl HO.out [.int .i64 0, .int .i64 x, .int .i64 y, .slice none 0 0] wr.heap.size rfl rfl rfl (by simp [Value.oneCell']) (by omega) (by omega) (by omega) ?_)
      intro u1 w1 ho1 hg1 _
      have hb2 : Bel w w1 := hbel.grown hg1 (fun k hk => (HO.out.lt k hk).1)
      have ho2 : w1.ownsRow w.heap.size 39 4 u1 (j + 1) (stepCells (((ks.zip vs).take (j + 1)).map setT)) := by rw [HE.out, stepCells_append, List.map_take]; exact ho1
      clear ho1 hg1
      go_wp2
      go_roundw
      case rel => exact ⟨j + 1, by omega, by go_num, ho2, hb2⟩
      case measure => simp [intOf]; omega
    · go_wp2
      go_ret
      obtain rfl : j = ks.length := by omega
      refine ⟨_, rfl, ?_, hbel⟩
      have := HO.out
      rwa [List.take_of_length_le (by rw [List.length_zip, ← HKV.out, Nat.min_self]; exact Nat.le_refl _)] at this

def puts (m l : List Pl.Ent) : List Pl.Ent := l.foldl (fun m e => Pl.put m e.1 e.2) m
theorem puts_length (m l : List Pl.Ent) : (puts m l).length ≤ m.length + l.length := by
  unfold puts
  induction l generalizing m with
  | nil => simp
  | cons k r ih =>
    have := ih (Pl.put m k.1 k.2)
    have := (Pl.put_length m k.1 k.2).1
    simp only [List.foldl_cons, List.length_cons]; omega
theorem puts_snoc (m l : List Pl.Ent) (e : Pl.Ent) : puts m (l ++ [e]) = Pl.put (puts m l) e.1 e.2 := by simp [puts]
theorem mapAt_sets {r : Pl.RulesD} : ∀ (l m d : List Pl.Ent), (∀ e ∈ l, r.first ≤ e.1 ∧ e.1 ≤ r.last) → Pl.Rep m d → Pl.Rep (puts m l) (Pl.mapAt r d (l.map setS))
  | [], _, _, _, h => h
  | x :: l, m, d, hin, h => by
    have e : Pl.mapD r d (setS x) = putE d x.1 x.2 := by unfold Pl.mapD; rw [if_pos rfl, if_pos (hin x (by simp))]
    simp only [List.map_cons, Pl.mapAt, puts, List.foldl_cons]
    rw [e]
    exact mapAt_sets l _ _ (fun e he => hin e (by simp [he])) (rep_put h x.1 x.2)
theorem mscript_at (r : Pl.RulesD) (A T : List Pl.StepD) (i : Nat) : (Pl.mapRun r [] (A ++ T))[A.length + i]? = (Pl.mapRun r (Pl.mapAt r [] A) T)[i]? := by
  rw [mapRun_append, List.getElem?_append_right (by rw [mapRun_length]; omega), mapRun_length]
  congr 1
  omega
/-- A script of sets and of some steps more without lists, laid out. -/
theorem sscript_own {w : World} {base : Nat} {u : Value} {l : List Pl.Ent} {n : Nat} {T : List Pl.StepD} (h : w.ownsRow base 39 4 u n (stepCells (l.map setT) ++ stepCells (T.map fun s => (s, nilV)))) (hT : ∀ s ∈ T, s.list = []) : StepS w u (l.map setS ++ T) := by
  have := stepS_own (L := l.map setT ++ T.map fun s => (s, nilV)) (by rw [stepCells_append]; exact h) (fun p hp => by
    have : p.2 = .slice none 0 0 ∧ p.1.list = [] := by
      rcases List.mem_append.1 hp with hp | hp
      · obtain ⟨x, _, rfl⟩ := List.mem_map.1 hp; exact ⟨rfl, rfl⟩
      · obtain ⟨s, hs, rfl⟩ := List.mem_map.1 hp; exact ⟨rfl, hT s hs⟩
    rw [this.1, this.2]; exact IntS.nil _)
  have e : (T.map fun s => ((s, nilV) : StepT)).map (·.1) = T := by rw [List.map_map]; exact List.map_id T
  rw [List.map_append, setT_fst, e] at this
  exact this
theorem stepM_script {n : Nat} {ks vs : List Int} {T : List Pl.StepD} (hk : ∀ x ∈ ks, 0 ≤ x ∧ x < (n : Int)) (hv : ∀ x ∈ vs, Val32 x) (hT : ∀ s ∈ T, StepM n s) : ∀ s ∈ (ks.zip vs).map setS ++ T, StepM n s := fun s hs => by
  rcases List.mem_append.1 hs with hs | hs
  · obtain ⟨x, hx, rfl⟩ := List.mem_map.1 hs
    have := List.of_mem_zip (a := x.1) (b := x.2) hx
    exact ⟨(hk _ this.1).1, (hk _ this.1).2, hv _ this.2⟩
  · exact hT s hs
theorem stepM_key {n : Nat} {x : Int} (k : Int) (h0 : 0 ≤ x) (h1 : x < n) : StepM n ⟨k, x, 0, []⟩ := ⟨h0, h1, by show Val32 0; exact ⟨by decide, by decide⟩⟩
theorem stepM_kind {n : Nat} (hn : 1 ≤ n) (k : Int) : StepM n (kindS k) := stepM_key k (Int.le_refl 0) (by omega)
/-- The script's list. -/
theorem sets_rep {n : Nat} {ks vs : List Int} (hk : ∀ x ∈ ks, 0 ≤ x ∧ x < (n : Int)) : Pl.Rep (puts [] (ks.zip vs)) (Pl.mapAt (Pl.ofMap n) [] ((ks.zip vs).map setS)) :=
  mapAt_sets _ _ _ (fun e he => by
    have := hk e.1 (List.of_mem_zip (a := e.1) (b := e.2) he).1
    exact ⟨this.1, by show e.1 ≤ (n : Int) - 1; omega⟩) Pl.Rep.nil
theorem zip_len {ks vs : List Int} (h : ks.length = vs.length) : (ks.zip vs).length = ks.length := by rw [List.length_zip, ← h, Nat.min_self]
end Go.Proofs.Ytdmjcgipfkhibaa
