/- Lists of lines: spec.FindLine, spec.WithoutLine. -/
import Derived.Test.YtangceejmjklcaaLn12
namespace Go.Proofs.Ytangceejmjklcaa
open Go.RowKit Go.BigFrame

namespace Pl
structure LnE where
  file : Int
  line : Int
  val : Int
/-- The place of a line in a list. -/
def findL (l : List LnE) (f n : Int) : Option Nat := l.findIdx? fun e => decide (e.file = f ∧ e.line = n)
def withoutL (l : List LnE) (f n : Int) : List LnE := l.filter fun e => !decide (e.file = f ∧ e.line = n)
def putL (l : List LnE) (x : LnE) : List LnE := withoutL l x.file x.line ++ [x]
theorem withoutL_take {l : List LnE} {f n : Int} {j : Nat} {e : LnE} (h : l[j]? = some e) : withoutL (l.take (j + 1)) f n = withoutL (l.take j) f n ++ if e.file = f ∧ e.line = n then [] else [e] := by
  unfold withoutL
  rw [List.take_add_one, h, List.filter_append]
  congr 1
  by_cases hc : e.file = f ∧ e.line = n
  · simp [hc]
  · have hd : decide (e.file = f ∧ e.line = n) = false := decide_eq_false hc
    rw [if_neg hc]
    simp only [Option.toList_some, List.filter_cons, hd]
    rfl
theorem withoutL_length (l : List LnE) (f n : Int) : (withoutL l f n).length ≤ l.length := List.length_filter_le _ _
theorem findL_at {l : List LnE} {f n : Int} {j : Nat} {e : LnE} (h : l[j]? = some e) (hc : e.file = f ∧ e.line = n) (hb : ∀ (i : Nat) (e' : LnE), i < j → l[i]? = some e' → ¬ (e'.file = f ∧ e'.line = n)) : findL l f n = some j := by
  unfold findL
  rw [List.findIdx?_eq_some_iff_getElem]
  have hj := (List.getElem?_eq_some_iff.1 h).1
  refine ⟨hj, ?_, fun i hi => ?_⟩
  · have := (List.getElem?_eq_some_iff.1 h).2
    rw [this]; simpa using hc
  · have := hb i l[i] hi (List.getElem?_eq_getElem (by omega))
    simpa using this
theorem findL_none {l : List LnE} {f n : Int} (hb : ∀ (i : Nat) (e' : LnE), l[i]? = some e' → ¬ (e'.file = f ∧ e'.line = n)) : findL l f n = none := by
  unfold findL
  rw [List.findIdx?_eq_none_iff]
  intro e he
  obtain ⟨i, hi, hie⟩ := List.getElem_of_mem he
  have := hb i e (by rw [List.getElem?_eq_getElem hi, hie])
  simpa using this
end Pl
/-- The slice with address a reads as the lines l. -/
def Lns (w : World) (a : Option Addr) (l : List Pl.LnE) : Prop :=
  0 < l.length → ∃ b o, a = some ⟨b, o, none⟩ ∧ ∀ i e, l[i]? = some e → w.cell? ⟨b, o + i * 3, none⟩ = some (.int .i64 e.file) ∧ w.cell? ⟨b, o + i * 3 + 1, none⟩ = some (.int .i64 e.line) ∧ w.cell? ⟨b, o + i * 3 + 2, none⟩ = some (.int .i64 e.val)
def LnS (w : World) (v : Value) (l : List Pl.LnE) : Prop := ∃ a c, v = .slice a l.length c ∧ l.length ≤ c ∧ c ≤ 9223372036854775807 ∧ Lns w a l
theorem Lns.bel {w w' : World} {a : Option Addr} {l : List Pl.LnE} (h : Lns w a l) (hb : Bel w w') : Lns w' a l := fun hn => by
  obtain ⟨b, o, ha, hc⟩ := h hn
  exact ⟨b, o, ha, fun i e he => by
    obtain ⟨c0, c1, c2⟩ := hc i e he
    exact ⟨hb.cell c0, hb.cell c1, hb.cell c2⟩⟩
theorem LnS.bel {w w' : World} {v : Value} {l : List Pl.LnE} (h : LnS w v l) (hb : Bel w w') : LnS w' v l := by
  obtain ⟨a, c, h1, h2, h3, h4⟩ := h
  exact ⟨a, c, h1, h2, h3, h4.bel hb⟩
theorem LnS.nil (w : World) : LnS w (.slice none 0 0) [] := ⟨none, 0, rfl, Nat.le_refl _, Nat.zero_le _, fun h => absurd h (by simp)⟩
def lnCells (l : List Pl.LnE) : List Value := l.flatMap fun e => [.int .i64 e.file, .int .i64 e.line, .int .i64 e.val]
theorem lnCells_append (l m : List Pl.LnE) : lnCells (l ++ m) = lnCells l ++ lnCells m := by simp [lnCells]
theorem lnCells_length (l : List Pl.LnE) : (lnCells l).length = l.length * 3 := by
  induction l with
  | nil => rfl
  | cons a r ih => simp only [lnCells, List.flatMap_cons, List.length_append, List.length_cons, List.length_nil] at ih ⊢; omega
theorem lnCells_at : ∀ (l : List Pl.LnE) (i : Nat) (e : Pl.LnE), l[i]? = some e → (lnCells l)[i * 3]? = some (.int .i64 e.file) ∧ (lnCells l)[i * 3 + 1]? = some (.int .i64 e.line) ∧ (lnCells l)[i * 3 + 2]? = some (.int .i64 e.val)
  | [], i, e, h => by simp at h
  | a :: r, 0, e, h => by simp at h; subst h; simp [lnCells]
  | a :: r, i + 1, e, h => by
    have := lnCells_at r i e (by simpa using h)
    have e1 : lnCells (a :: r) = .int .i64 a.file :: .int .i64 a.line :: .int .i64 a.val :: lnCells r := rfl
    rw [e1, show (i + 1) * 3 = i * 3 + 1 + 1 + 1 by omega, show i * 3 + 1 + 1 + 1 + 1 = (i * 3 + 1) + 1 + 1 + 1 by omega, show i * 3 + 1 + 1 + 1 + 2 = (i * 3 + 2) + 1 + 1 + 1 by omega]
    simpa using this
theorem LnS.own {w : World} {base n : Nat} {e : TypeId} {v : Value} {l : List Pl.LnE} (h : w.ownsRow base e 3 v n (lnCells l)) : LnS w v l := by
  obtain ⟨a, c, rfl, h1, h2, hc⟩ := own_form h
  have hl : l.length = n := by have := h.1; rw [lnCells_length] at this; omega
  subst hl
  refine ⟨a, c, rfl, h1, h2, fun h0 => ?_⟩
  obtain ⟨g, rfl, hg⟩ := hc h0
  exact ⟨g, 0, rfl, fun i e he => by
    obtain ⟨h1, h2, h3⟩ := lnCells_at l i e he
    exact ⟨by simpa using hg _ _ h1, by simpa using hg _ _ h2, by simpa using hg _ _ h3⟩⟩
theorem elLn : ElTy 27 37 3 24 := ElTy.mk' (z := .agg #[.int .i64 0, .int .i64 0, .int .i64 0]) Try.underlying27 (by kernel_rfl) rfl (by decide)

/-- What FindLine tells. -/
def ixOf : Option Nat → Int
  | some k => (k : Int)
  | none => -1

set_option maxHeartbeats 2000000 in
theorem findLine_any (v : Value) (l : List Pl.LnE) (f n : Int) (w : World) (h : LnS w v l) :
    Calls Try.prog 19 #[v, .int .i64 f, .int .i64 n] w fun e w' => e = .returned (.int .i64 (ixOf (Pl.findL l f n))) ∧ Bel w w' := by
  obtain ⟨a, c, rfl, hlc, hcm, hE⟩ := h
  have HH := Lib.hid hE; clear hE
  go_enter Try.func19, Try.ntmps19
  go_wp2
  go_loopw [11] (fun i wr => ∃ j : Nat, j ≤ l.length ∧ i = .int .i64 j ∧ (∀ q e, q < j → l[q]? = some e → ¬ (e.file = f ∧ e.line = n)) ∧ Bel w wr) (fun i _ => l.length - (intOf i).toNat)
  case atStart => exact ⟨0, Nat.zero_le _, rfl, by intro q e hq; omega, Bel.refl w⟩
  case round =>
    obtain ⟨j, hj, rfl, hno, hbel⟩ := hrel
    have HNO := Lib.hid hno; clear hno
    by_cases hlt : j < l.length
    · obtain ⟨b, o, rfl, hcell⟩ := (HH.out.bel hbel) (by omega)
      obtain ⟨e, he⟩ : ∃ e, l[j]? = some e := ⟨_, List.getElem?_eq_getElem hlt⟩
      obtain ⟨c0, c1, c2⟩ := hcell j e he
      have HE := Lib.hid he; clear he hcell
      by_cases h1 : e.file = f
      · by_cases h2 : e.line = n
        · have HF : Hid (ixOf (Pl.findL l f n) = (j : Int)) := Lib.hid (by rw [Pl.findL_at HE.out ⟨h1, h2⟩ HNO.out]; rfl)
          clear HNO HE
          obtain ⟨ef, el, ev⟩ := e
          simp only at h1 h2 c0 c1 c2
          subst h1 h2
          go_wp2
          go_ret
          exact ⟨congrArg (fun x => Ending.returned (.int .i64 x)) HF.out.symm, hbel.alloc _⟩
        · have e1 : (e.file == f) = true := by simpa using h1
          have e2 : (e.line == n) = false := by simpa using h2
          have HN : Hid (∀ q e, q < j + 1 → l[q]? = some e → ¬ (e.file = f ∧ e.line = n)) := Lib.hid (fun q e' hq he' => by
            by_cases hqj : q < j
            · exact HNO.out q e' hqj he'
            · obtain rfl : q = j := by omega
              rw [HE.out] at he'; cases he'
              exact fun hh => h2 hh.2)
          clear HNO HE h1 h2
          go_wp2
          go_roundw
          case rel => exact ⟨j + 1, by omega, by go_num, HN.out, hbel.alloc _⟩
          case measure => simp [intOf]; omega
      · have e1 : (e.file == f) = false := by simpa using h1
        have HN : Hid (∀ q e, q < j + 1 → l[q]? = some e → ¬ (e.file = f ∧ e.line = n)) := Lib.hid (fun q e' hq he' => by
          by_cases hqj : q < j
          · exact HNO.out q e' hqj he'
          · obtain rfl : q = j := by omega
            rw [HE.out] at he'; cases he'
            exact fun hh => h1 hh.1)
        clear HNO HE h1
        go_wp2
        go_roundw
        case rel => exact ⟨j + 1, by omega, by go_num, HN.out, hbel.alloc _⟩
        case measure => simp [intOf]; omega
    · have HF : Hid (ixOf (Pl.findL l f n) = -1) := Lib.hid (by
        rw [Pl.findL_none (fun i e he => HNO.out i e (by have := (List.getElem?_eq_some_iff.1 he).1; omega) he)]; rfl)
      go_wp2
      go_ret
      exact ⟨congrArg (fun x => Ending.returned (.int .i64 x)) HF.out.symm, hbel⟩

set_option maxHeartbeats 2000000 in
theorem withoutLine_any (v : Value) (l : List Pl.LnE) (f n : Int) (w : World) (h : LnS w v l) (hn : l.length ≤ 1000000) :
    Calls Try.prog 21 #[v, .int .i64 f, .int .i64 n] w fun e w' => ∃ u, e = .returned u ∧ w'.ownsRow w.heap.size 37 3 u (Pl.withoutL l f n).length (lnCells (Pl.withoutL l f n)) ∧ Bel w w' := by
  obtain ⟨a, c, rfl, hlc, hcm, hE⟩ := h
  have HH := Lib.hid hE; clear hE
  generalize hnn : l.length = m at hn hlc
  have HN := Lib.hid hnn; clear hnn
  go_enter Try.func21, Try.ntmps21
  go_wp2
  go_loopw [7, 13] (fun u i wr => ∃ j : Nat, j ≤ m ∧ i = .int .i64 j ∧ (∃ q, q ≤ j ∧ wr.ownsRow w.heap.size 37 3 u q (lnCells (Pl.withoutL (l.take j) f n))) ∧ Bel w wr) (fun _ i _ => m - (intOf i).toNat)
  case atStart => exact ⟨0, Nat.zero_le _, rfl, ⟨0, Nat.le_refl _, owns_empty _ _ _ _ _ rfl (Nat.le_refl _)⟩, (Bel.refl w).alloc _⟩
  case round =>
    obtain ⟨j, hj, rfl, ⟨q, hq, hown⟩, hbel⟩ := hrel
    have HO := Lib.hid hown; clear hown
    by_cases hlt : j < m
    · obtain ⟨b, o, rfl, hcell⟩ := (HH.out.bel hbel) (by have := HN.out; omega)
      obtain ⟨e, he⟩ : ∃ e, l[j]? = some e := ⟨_, List.getElem?_eq_getElem (by rw [HN.out]; exact hlt)⟩
      obtain ⟨hc0, hc1, hc2⟩ := hcell j e he
      have hbs := hbel.size
      have HE := Lib.hid (Pl.withoutL_take (f := f) (n := n) he); clear he
      clear hcell
      by_cases h1 : e.file = f
      · by_cases h2 : e.line = n
        · have e1 : (e.file != f) = false := by simp [h1]
          have e2 : (e.line != n) = false := by simp [h2]
          have HK := Lib.hid (And.intro h1 h2); clear h1 h2
          go_wp2
          go_roundw
          case rel => exact ⟨j + 1, by omega, by go_num, ⟨q, by omega, by rw [HE.out, if_pos HK.out, List.append_nil]; exact HO.out.alloc _⟩, hbel.alloc _⟩
          case measure => simp [intOf]; omega
        · have e1 : (e.file != f) = false := by simp [h1]
          have e2 : (e.line != n) = true := by simp [h2]
          have HK : Hid (¬ (e.file = f ∧ e.line = n)) := Lib.hid (fun h => h2 h.2); clear h1 h2
          go_wp2_with (at_builtin; refine wpList_push elLn rfl (.tmp 27) (.tmp 29) rfl w.heap.size u7 q _ rfl (HO.out.alloc _) [.int .i64 e.file, .int .i64 e.line, .int .i64 e.val] (wr.heap.size + 1) (by simp) rfl rfl (by simp [Value.oneCell']) (by omega) (by omega) (by omega) ?_)
          intro u1 w1 ho1 hg1 _
          have hb2 : Bel w w1 := (hbel.alloc _).grown hg1 (fun k hk => (HO.out.lt k hk).1)
          have ho2 : w1.ownsRow w.heap.size 37 3 u1 (q + 1) (lnCells (Pl.withoutL (l.take (j + 1)) f n)) := by
            rw [HE.out, if_neg HK.out, lnCells_append]; exact ho1
          clear ho1 hg1
          go_wp2
          go_roundw
          case rel => exact ⟨j + 1, by omega, by go_num, ⟨q + 1, by omega, ho2⟩, hb2⟩
          case measure => simp [intOf]; omega
      · have e1 : (e.file != f) = true := by simp [h1]
        have HK : Hid (¬ (e.file = f ∧ e.line = n)) := Lib.hid (fun h => h1 h.1); clear h1
        go_wp2_with (at_builtin; refine wpList_push elLn rfl (.tmp 27) (.tmp 29) rfl w.heap.size u7 q _ rfl (HO.out.alloc _) [.int .i64 e.file, .int .i64 e.line, .int .i64 e.val] (wr.heap.size + 1) (by simp) rfl rfl (by simp [Value.oneCell']) (by omega) (by omega) (by omega) ?_)
        intro u1 w1 ho1 hg1 _
        have hb2 : Bel w w1 := (hbel.alloc _).grown hg1 (fun k hk => (HO.out.lt k hk).1)
        have ho2 : w1.ownsRow w.heap.size 37 3 u1 (q + 1) (lnCells (Pl.withoutL (l.take (j + 1)) f n)) := by
          rw [HE.out, if_neg HK.out, lnCells_append]; exact ho1
        clear ho1 hg1
        go_wp2
        go_roundw
        case rel => exact ⟨j + 1, by omega, by go_num, ⟨q + 1, by omega, ho2⟩, hb2⟩
        case measure => simp [intOf]; omega
    · obtain rfl : j = m := by omega
      have hr := HO.out
      rw [List.take_of_length_le (by rw [HN.out]; exact Nat.le_refl _)] at hr
      have hql : q = (Pl.withoutL l f n).length := by have := hr.1; rw [lnCells_length] at this; omega
      have HR : Hid (wr.ownsRow w.heap.size 37 3 u7 (Pl.withoutL l f n).length (lnCells (Pl.withoutL l f n))) := Lib.hid (by rw [← hql]; exact hr)
      clear hr hql HO
      go_wp2
      go_ret
      exact ⟨_, rfl, HR.out, hbel⟩
end Go.Proofs.Ytangceejmjklcaa
