/- Words for slices of entries and numbers; the walks of the reference's Without, Get, Same, Sorted. -/
import Derived.Test.YtdmjcgipfkhibaaSpec2
import Derived.Test.YtdmjcgipfkhibaaPlainSet
namespace Go.Proofs.Ytdmjcgipfkhibaa
open Go.RowKit

/-- The slice v reads as the entries l. -/
def EntS (w : World) (v : Value) (l : List Pl.Ent) : Prop := ∃ a c, v = .slice a l.length c ∧ l.length ≤ c ∧ c ≤ 9223372036854775807 ∧ Ents w a l.length l
theorem EntS.bel {w w' : World} {v : Value} {l : List Pl.Ent} (h : EntS w v l) (hb : Bel w w') : EntS w' v l := by
  obtain ⟨a, c, h1, h2, h3, h4⟩ := h
  exact ⟨a, c, h1, h2, h3, h4.bel hb⟩
theorem EntS.nil (w : World) : EntS w (.slice none 0 0) [] := ⟨none, 0, rfl, Nat.le_refl _, by omega, rfl, fun h => absurd h (by simp)⟩
theorem EntS.empty (w : World) (g : Nat) : EntS w (.slice (some ⟨g, 0, none⟩) 0 0) [] := ⟨_, 0, rfl, Nat.le_refl _, by omega, rfl, fun h => absurd h (by simp)⟩
theorem ents_own {w : World} {base : Nat} {e : TypeId} {u : Value} {n : Nat} {l : List Pl.Ent} (h : w.ownsRow base e 2 u n (entCells l)) : EntS w u l := by
  obtain ⟨a, c, rfl, h1, h2, _⟩ := own_form h
  have hl := h.1
  rw [entCells_length] at hl
  obtain rfl : n = l.length := by omega
  exact ⟨a, c, rfl, h1, h2, ents_of_own h⟩

/-- The slice with address a reads as the numbers l. -/
def Ints (w : World) (a : Option Addr) (l : List Int) : Prop :=
  0 < l.length → ∃ b o, a = some ⟨b, o, none⟩ ∧ ∀ (i : Nat) (x : Int), l[i]? = some x → w.cell? ⟨b, o + i, none⟩ = some (.int .i64 x)
def IntS (w : World) (v : Value) (l : List Int) : Prop := ∃ a c, v = .slice a l.length c ∧ l.length ≤ c ∧ c ≤ 9223372036854775807 ∧ Ints w a l
theorem Ints.bel {w w' : World} {a : Option Addr} {l : List Int} (h : Ints w a l) (hb : Bel w w') : Ints w' a l := fun hn => by
  obtain ⟨b, o, ha, hc⟩ := h hn
  exact ⟨b, o, ha, fun i x hx => hb.cell (hc i x hx)⟩
theorem IntS.bel {w w' : World} {v : Value} {l : List Int} (h : IntS w v l) (hb : Bel w w') : IntS w' v l := by
  obtain ⟨a, c, h1, h2, h3, h4⟩ := h
  exact ⟨a, c, h1, h2, h3, h4.bel hb⟩
theorem IntS.nil (w : World) : IntS w (.slice none 0 0) [] := ⟨none, 0, rfl, Nat.le_refl _, by omega, fun h => absurd h (by simp)⟩
theorem ints_own {w : World} {base : Nat} {e : TypeId} {u : Value} {n : Nat} {l : List Int} (h : w.ownsRow base e 1 u n (l.map (Value.int .i64))) : IntS w u l := by
  obtain ⟨a, c, rfl, h1, h2, h3⟩ := own_form h
  have hl := h.1
  rw [List.length_map] at hl
  obtain rfl : n = l.length := by omega
  refine ⟨a, c, rfl, h1, h2, fun hn => ?_⟩
  obtain ⟨g, rfl, hg⟩ := h3 hn
  exact ⟨g, 0, rfl, fun i x hx => by rw [Nat.zero_add]; exact hg i _ (by rw [List.getElem?_map, hx]; rfl)⟩

set_option maxHeartbeats 400000 in
theorem without_any (v : Value) (l : List Pl.Ent) (k : Int) (w : World) (h : EntS w v l) (hn : l.length ≤ 1000000) :
    Calls Try.prog 25 #[v, .int .i64 k] w fun e w' => ∃ u, e = .returned u ∧ EntS w' u (Pl.without l k) ∧ Bel w w' := by
  obtain ⟨a, c, rfl, hlc, hc, hE⟩ := h
  have HH := Lib.hid hE; clear hE
  generalize hnn : l.length = n at hn hlc HH
  have HN := Lib.hid hnn; clear hnn
  go_enter Try.func25, Try.ntmps25
  go_wp2
  go_loopw [5, 11] (fun u i wr => ∃ j : Nat, j ≤ n ∧ i = .int .i64 j ∧ (∃ m, m ≤ j ∧ wr.ownsRow w.heap.size 65 2 u m (entCells (Pl.without (l.take j) k))) ∧ Bel w wr) (fun _ i _ => n - (intOf i).toNat)
  case atStart => exact ⟨0, Nat.zero_le _, rfl, ⟨0, Nat.le_refl _, owns_empty _ _ _ _ _ rfl (Nat.le_refl _)⟩, (Bel.refl w).alloc _⟩
  case round =>
    obtain ⟨j, hj, rfl, ⟨m, hm, hown⟩, hbel⟩ := hrel
    have HO := Lib.hid hown; clear hown
    by_cases hlt : j < n
    · obtain ⟨b, o, rfl, hcell⟩ := (HH.out.bel hbel).2 (by omega)
      obtain ⟨e, he⟩ : ∃ e, l[j]? = some e := ⟨_, List.getElem?_eq_getElem (by rw [HN.out]; exact hlt)⟩
      obtain ⟨hc0, hc1⟩ := hcell j e he
      have hbs := hbel.size
      have HE := Lib.hid (Pl.without_take_succ l k j e he); clear he
      clear hcell
      by_cases hk : e.1 = k
      · have hk1 : (e.1 != k) = false := by simp [hk]
        have HK := Lib.hid hk; clear hk
        go_wp2
        go_roundw
        case rel => exact ⟨j + 1, by omega, by go_num, ⟨m, by omega, by rw [HE.out, if_pos HK.out, List.append_nil]; exact HO.out.alloc _⟩, hbel.alloc _⟩
        case measure => simp [intOf]; omega
      · have hk1 : (e.1 != k) = true := by simp [hk]
        have HK := Lib.hid hk; clear hk
        go_wp2_with (at_builtin; refine wpList_push el25 rfl (.tmp 19) (.tmp 21) rfl w.heap.size u5 m _ rfl (HO.out.alloc _) [.int .i64 e.1, .int .i64 e.2] (wr.heap.size + 1) (by simp) rfl rfl (by simp [Value.oneCell']) (by omega) (by omega) (by omega) ?_)
        intro u1 w1 ho1 hg1 _
        have hb2 : Bel w w1 := (hbel.alloc _).grown hg1 (fun k hk => (HO.out.lt k hk).1)
        have ho2 : w1.ownsRow w.heap.size 65 2 u1 (m + 1) (entCells (Pl.without (l.take (j + 1)) k)) := by
          rw [HE.out, if_neg HK.out, entCells_append]; exact ho1
        clear ho1 hg1
        go_wp2
        go_roundw
        case rel => exact ⟨j + 1, by omega, by go_num, ⟨m + 1, by omega, ho2⟩, hb2⟩
        case measure => simp [intOf]; omega
    · go_wp2
      go_ret
      obtain rfl : j = n := by omega
      refine ⟨_, rfl, ?_, hbel⟩
      have := ents_own HO.out
      rwa [List.take_of_length_le (by rw [HN.out]; exact Nat.le_refl _)] at this

set_option maxHeartbeats 400000 in
theorem get_any' (v : Value) (l : List Pl.Ent) (k : Int) (w : World) (h : EntS w v l) (hn : l.length ≤ 1000000) :
    Calls Try.prog 45 #[v, .int .i64 k] w fun e w' => e = .returned (.tuple #[.int .i64 (Pl.valOf l k), .bool (Pl.there l k)]) ∧ Bel w w' := by
  obtain ⟨a, c, rfl, hlc, hc, hE⟩ := h
  have HP := Lib.hid (place_any a l.length c l k w hE hn)
  have HH := Lib.hid hE; clear hE
  cases ht : Pl.there l k
  · rw [ht] at HP
    rw [Pl.valOf_not ht]
    clear ht
    go_enter Try.func45, Try.ntmps45
    go_wp2_with (go_at_call 38; refine HP.out.mono ?_; rintro e w' ⟨rfl, hb1⟩)
    go_ret2
    exact ⟨rfl, hb1⟩
  · rw [ht] at HP
    have hpl := Pl.place_there_lt ht
    obtain ⟨b, o, rfl, hcell⟩ := HH.out.2 (by omega)
    obtain ⟨e, he⟩ : ∃ e, l[Pl.place l k]? = some e := ⟨_, List.getElem?_eq_getElem hpl⟩
    have hc1 := (hcell _ e he).2
    have hv : Pl.valOf l k = e.2 := by simp [Pl.valOf, ht, he]
    rw [hv]
    clear hv hcell
    have HE := Lib.hid he; clear he
    have HT := Lib.hid ht; clear ht
    generalize Pl.place l k = p at *
    generalize l.length = n at *
    go_enter Try.func45, Try.ntmps45
    go_wp2_with (go_at_call 38; refine HP.out.mono ?_; rintro e w' ⟨rfl, hb1⟩; have hc2 := hb1.cell hc1)
    go_ret2
    exact ⟨rfl, hb1⟩

/-- Entries are one just if both parts are. -/
theorem neq_ent (w : World) (a b c d : Int) : (binOp .neq 65 (.agg #[.int .i64 a, .int .i64 b]) (.agg #[.int .i64 c, .int .i64 d])).run Try.prog w = .ok (.bool (!decide (a = c ∧ b = d))) w := by
  simp [go_sem]
  by_cases h1 : a = c <;> by_cases h2 : b = d <;> simp [h1, h2]

theorem take_same_succ {l m : List Pl.Ent} {j : Nat} {e f : Pl.Ent} (h : l.take j = m.take j) (hl : l[j]? = some e) (hm : m[j]? = some f) (he : e.1 = f.1 ∧ e.2 = f.2) : l.take (j + 1) = m.take (j + 1) := by
  rw [List.take_add_one, List.take_add_one, h, hl, hm, Prod.ext he.1 he.2]

attribute [local go_sem ↓] neq_ent
set_option maxHeartbeats 400000 in
theorem same_ents (v u : Value) (l m : List Pl.Ent) (w : World) (h : EntS w v l) (h' : EntS w u m) (hn : l.length ≤ 1000000) (hm : m.length ≤ 1000000) :
    Calls Try.prog 24 #[v, u] w fun e w' => e = .returned (.bool (decide (l = m))) ∧ Bel w w' := by
  obtain ⟨a, c, rfl, hlc, hc, hE⟩ := h
  obtain ⟨a', c', rfl, hlc', hc', hE'⟩ := h'
  have HH := Lib.hid hE; clear hE
  have HH' := Lib.hid hE'; clear hE'
  by_cases hne : l.length = m.length
  · have hne1 : ((l.length : Int) != (l.length : Int)) = false := by simp
    rw [← hne] at HH' hlc' ⊢
    have HL := Lib.hid hne; clear hne hm
    generalize hnn : l.length = n at *
    have HN := Lib.hid hnn; clear hnn
    go_enter Try.func24, Try.ntmps24
    go_wp2
    go_loopw [14] (fun i wr => ∃ j : Nat, j ≤ n ∧ i = .int .i64 j ∧ l.take j = m.take j ∧ Bel w wr) (fun i _ => n - (intOf i).toNat)
    case atStart => exact ⟨0, Nat.zero_le _, rfl, rfl, Bel.refl w⟩
    case round =>
      obtain ⟨j, hj, rfl, htk, hbel⟩ := hrel
      have HT := Lib.hid htk; clear htk
      by_cases hlt : j < n
      · obtain ⟨b, o, rfl, hcell⟩ := (HH.out.bel hbel).2 (by omega)
        obtain ⟨b', o', rfl, hcell'⟩ := (HH'.out.bel hbel).2 (by omega)
        obtain ⟨e, he⟩ : ∃ e, l[j]? = some e := ⟨_, List.getElem?_eq_getElem (by rw [HN.out]; exact hlt)⟩
        obtain ⟨f, hf⟩ : ∃ f, m[j]? = some f := ⟨_, List.getElem?_eq_getElem (by have := HL.out; omega)⟩
        obtain ⟨hc0, hc1⟩ := hcell j e he
        obtain ⟨hd0, hd1⟩ := hcell' j f hf
        have hlt0 : b < wr.heap.size := World.block_lt_of_cell? wr _ hc0
        have hlt1 : b' < wr.heap.size := World.block_lt_of_cell? wr _ hd0
        have HE := Lib.hid he; clear he
        have HF := Lib.hid hf; clear hf
        clear hcell hcell'
        by_cases hef : e.1 = f.1 ∧ e.2 = f.2
        · have hd : decide (e.1 = f.1 ∧ e.2 = f.2) = true := by simp [hef]
          have HEF := Lib.hid hef; clear hef
          go_wp2
          go_quiet (fail)
          go_wp2
          go_roundw
          case rel => exact ⟨j + 1, by omega, by go_num, take_same_succ HT.out HE.out HF.out HEF.out, (hbel.alloc _).drewN _⟩
          case measure => simp [intOf]; omega
        · have hd : decide (e.1 = f.1 ∧ e.2 = f.2) = false := by simp only [decide_eq_false_iff_not]; exact hef
          have HEF := Lib.hid hef; clear hef
          go_wp2
          go_quiet (fail)
          go_wp2
          go_ret
          refine ⟨?_, (hbel.alloc _).drewN _⟩
          have : l ≠ m := by rintro rfl; rw [HE.out] at HF; cases HF.out; exact HEF.out ⟨rfl, rfl⟩
          simp [this]
      · go_wp2
        go_ret
        refine ⟨?_, hbel⟩
        obtain rfl : j = n := by omega
        have := HT.out
        rw [List.take_of_length_le (by rw [HN.out]; exact Nat.le_refl _), List.take_of_length_le (by rw [← HL.out]; exact Nat.le_refl _)] at this
        simp [this]
  · have hne1 : ((l.length : Int) != (m.length : Int)) = true := by simp; omega
    have hlm : l ≠ m := by rintro rfl; exact hne rfl
    have e1 : decide (l = m) = false := by simp [hlm]
    rw [e1]
    clear e1 hlm hne
    generalize l.length = n at *
    generalize m.length = n' at *
    go_enter Try.func24, Try.ntmps24
    go_wp2
    go_ret
    exact ⟨rfl, Bel.refl w⟩
end Go.Proofs.Ytdmjcgipfkhibaa
