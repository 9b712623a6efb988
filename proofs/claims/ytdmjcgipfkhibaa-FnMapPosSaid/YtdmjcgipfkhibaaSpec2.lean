/- The walks of the reference's Put, Without, Get. -/
import Derived.Test.YtdmjcgipfkhibaaSpec1
namespace Go.Proofs.Ytdmjcgipfkhibaa
open Go.RowKit

theorem el25 : ElTy 25 65 2 16 := ElTy.mk' (z := .agg #[.int .i64 0, .int .i64 0]) Try.underlying25 (by kernel_rfl) rfl (by decide)

theorem put_end (l : List Pl.Ent) (k v : Int) (q j : Nat) (hq : q = Pl.place l k + (if Pl.there l k then 1 else 0)) (hj : (l.drop q).length ≤ j) :
    l.take (Pl.place l k) ++ [(k, v)] ++ (l.drop q).take j = Pl.put l k v := by
  rw [List.take_of_length_le hj, hq]; simp [Pl.put]

set_option maxHeartbeats 400000 in
theorem put_any (a : Option Addr) (n c : Nat) (l : List Pl.Ent) (k v : Int) (w : World) (h : Ents w a n l) (hn : n ≤ 1000000) (hnc : n ≤ c) (hc : c ≤ 9223372036854775807) :
    Calls Try.prog 20 #[.slice a n c, .int .i64 k, .int .i64 v] w fun e w' => ∃ u, e = .returned u ∧ w'.ownsRow w.heap.size 65 2 u (Pl.put l k v).length (entCells (Pl.put l k v)) ∧ Bel w w' := by
  have hp := Pl.place_le l k
  rw [h.1] at hp
  have hpt : Pl.there l k = true → Pl.place l k + 1 ≤ n := by
    intro ht
    rcases Nat.lt_or_ge (Pl.place l k) l.length with h' | h'
    · have := h.1; omega
    · exfalso; unfold Pl.there at ht; rw [List.getElem?_eq_none h'] at ht; cases ht
  have hpl := place_any a n c l k w h hn
  have HP := Lib.hid hpl; clear hpl
  have HH := Lib.hid h; clear h
  go_enter Try.func20, Try.ntmps20
  go_wp2_with (go_at_call 38; refine HP.out.mono ?_; rintro e w' ⟨rfl, hb1⟩)
  have hs1 := hb1.size
  go_loopw [9, 25] (fun u i wr => ∃ j : Nat, j ≤ Pl.place l k ∧ i = .int .i64 j ∧ wr.ownsRow w.heap.size 65 2 u j (entCells (l.take j)) ∧ Bel w wr) (fun _ i _ => Pl.place l k - (intOf i).toNat)
  case atStart => exact ⟨0, Nat.zero_le _, rfl, owns_empty _ _ _ _ _ rfl hs1, hb1.alloc _⟩
  case round =>
    obtain ⟨j, hj, rfl, hown, hbel⟩ := hrel
    by_cases hlt : j < Pl.place l k
    · obtain ⟨b, o, rfl, hcell⟩ := (HH.out.bel hbel).2 (by omega)
      obtain ⟨e, he⟩ : ∃ e, l[j]? = some e := ⟨_, List.getElem?_eq_getElem (by rw [HH.out.1]; omega)⟩
      obtain ⟨hc0, hc1⟩ := hcell j e he
      have hbs := hbel.size
      have HO := Lib.hid hown; clear hown
      have HE := Lib.hid he; clear he
      have HCE := Lib.hid hcell; clear hcell
      go_wp2_with (at_builtin; refine wpList_push el25 rfl (.tmp 29) (.tmp 31) rfl w.heap.size u9 j (entCells (l.take j)) rfl (HO.out.alloc _) [.int .i64 e.1, .int .i64 e.2] (wr.heap.size + 1) (by simp) rfl rfl (by simp [Value.oneCell']) (by omega) (by omega) (by omega) ?_)
      intro u1 w1 ho1 hg1 _
      have hb2 : Bel w w1 := (hbel.alloc _).grown hg1 (fun k hk => (HO.out.lt k hk).1)
      have ho2 : w1.ownsRow w.heap.size 65 2 u1 (j + 1) (entCells (l.take (j + 1))) := by
        rw [List.take_add_one, HE.out, entCells_append]; exact ho1
      clear ho1 hg1
      go_wp2
      go_roundw
      case rel => exact ⟨j + 1, by omega, by go_num, ho2, hb2⟩
      case measure => simp [intOf]; omega
    · have hjp : j = Pl.place l k := by omega
      subst hjp
      have HO := Lib.hid hown; clear hown
      have hbs := hbel.size
      by_cases ht : Pl.there l k = true
      · have hpn := hpt ht
        go_wp2_with (at_builtin; refine wpList_push el25 rfl (.tmp 34) (.tmp 38) rfl w.heap.size u9 _ (entCells (l.take (Pl.place l k))) rfl HO.out [.int .i64 k, .int .i64 v] wr.heap.size rfl rfl rfl (by simp [Value.oneCell']) (by omega) (by omega) (by omega) ?_)
        intro u1 w1 ho1 hg1 _
        have hb2 : Bel w w1 := hbel.grown hg1 (fun k hk => (HO.out.lt k hk).1)
        have ho2 : w1.ownsRow w.heap.size 65 2 u1 (Pl.place l k + 1) (entCells (l.take (Pl.place l k) ++ [(k, v)])) := by rw [entCells_append]; exact ho1
        clear ho1 hg1
        have HO2 := Lib.hid ho2; clear ho2
        obtain ⟨a2, hA, hcut⟩ : ∃ a2, (if c = Pl.place l k + 1 then a else Option.map (fun x => x.add ((Pl.place l k + 1) * 2)) a) = a2 ∧ Ents w a2 (n - (Pl.place l k + 1)) (l.drop (Pl.place l k + 1)) := ⟨_, rfl, HH.out.cut (by omega) hnc⟩
        have HCUT := Lib.hid hcut; clear hcut
        go_wp2
        clear hA
        go_loopw [9, 47] (fun u i wr => ∃ j : Nat, j ≤ n - (Pl.place l k + 1) ∧ i = .int .i64 j ∧ wr.ownsRow w.heap.size 65 2 u (Pl.place l k + 1 + j) (entCells (l.take (Pl.place l k) ++ [(k, v)] ++ (l.drop (Pl.place l k + 1)).take j)) ∧ Bel w wr) (fun _ i _ => n - (Pl.place l k + 1) - (intOf i).toNat)
        case atStart => exact ⟨0, Nat.zero_le _, rfl, by simpa using HO2.out, hb2⟩
        case round =>
          obtain ⟨j, hj, rfl, hown, hbel3⟩ := hrel
          by_cases hlt2 : j < n - (Pl.place l k + 1)
          · obtain ⟨b, o, rfl, hcell⟩ := (HCUT.out.bel hbel3).2 (by omega)
            obtain ⟨e, he⟩ : ∃ e, (l.drop (Pl.place l k + 1))[j]? = some e := ⟨_, List.getElem?_eq_getElem (by rw [HCUT.out.1]; omega)⟩
            obtain ⟨hc0, hc1⟩ := hcell j e he
            have hbs3 := hbel3.size
            have HO := Lib.hid hown; clear hown
            have HE := Lib.hid he; clear he
            have HCE := Lib.hid hcell; clear hcell
            go_wp2_with (at_builtin; refine wpList_push el25 rfl (.tmp 51) (.tmp 53) rfl w.heap.size u9 _ _ rfl (HO.out.alloc _) [.int .i64 e.1, .int .i64 e.2] (wr.heap.size + 1) (by simp) rfl rfl (by simp [Value.oneCell']) (by omega) (by omega) (by omega) ?_)
            intro u4 w4 ho4 hg4 _
            have hb4 : Bel w w4 := (hbel3.alloc _).grown hg4 (fun k hk => (HO.out.lt k hk).1)
            have ho5 : w4.ownsRow w.heap.size 65 2 u4 (Pl.place l k + 1 + (j + 1)) (entCells (l.take (Pl.place l k) ++ [(k, v)] ++ (l.drop (Pl.place l k + 1)).take (j + 1))) := by
              refine own_eq ho4 (by omega) ?_
              rw [List.take_add_one (l := List.drop _ _), HE.out]
              simp [entCells]
            clear ho4 hg4
            go_wp2
            go_roundw
            case rel => exact ⟨j + 1, by omega, by go_num, ho5, hb4⟩
            case measure => simp [intOf]; omega
          · have HO := Lib.hid hown; clear hown
            go_wp2
            go_ret
            have hlen := HCUT.out.1
            have hj2 : j = n - (Pl.place l k + 1) := by omega
            refine ⟨_, rfl, ?_, hbel3⟩
            have e1 : l.take (Pl.place l k) ++ [(k, v)] ++ (l.drop (Pl.place l k + 1)).take j = Pl.put l k v := put_end l k v _ j (by simp [ht]) (by omega)
            have := HO.out
            rw [e1] at this
            have hl2 := this.1
            rw [entCells_length] at hl2
            rw [show (Pl.put l k v).length = Pl.place l k + 1 + j by omega]
            exact this
      · have ht : Pl.there l k = false := by simpa using ht
        go_wp2_with (at_builtin; refine wpList_push el25 rfl (.tmp 34) (.tmp 38) rfl w.heap.size u9 _ (entCells (l.take (Pl.place l k))) rfl HO.out [.int .i64 k, .int .i64 v] wr.heap.size rfl rfl rfl (by simp [Value.oneCell']) (by omega) (by omega) (by omega) ?_)
        intro u1 w1 ho1 hg1 _
        have hb2 : Bel w w1 := hbel.grown hg1 (fun k hk => (HO.out.lt k hk).1)
        have ho2 : w1.ownsRow w.heap.size 65 2 u1 (Pl.place l k + 1) (entCells (l.take (Pl.place l k) ++ [(k, v)])) := by rw [entCells_append]; exact ho1
        clear ho1 hg1
        have HO2 := Lib.hid ho2; clear ho2
        obtain ⟨a2, hA, hcut⟩ : ∃ a2, (if c = Pl.place l k then a else Option.map (fun x => x.add ((Pl.place l k) * 2)) a) = a2 ∧ Ents w a2 (n - (Pl.place l k)) (l.drop (Pl.place l k)) := ⟨_, rfl, HH.out.cut (by omega) hnc⟩
        have HCUT := Lib.hid hcut; clear hcut
        go_wp2
        clear hA
        go_loopw [9, 47] (fun u i wr => ∃ j : Nat, j ≤ n - (Pl.place l k) ∧ i = .int .i64 j ∧ wr.ownsRow w.heap.size 65 2 u (Pl.place l k + 1 + j) (entCells (l.take (Pl.place l k) ++ [(k, v)] ++ (l.drop (Pl.place l k)).take j)) ∧ Bel w wr) (fun _ i _ => n - (Pl.place l k) - (intOf i).toNat)
        case atStart => exact ⟨0, Nat.zero_le _, rfl, by simpa using HO2.out, hb2⟩
        case round =>
          obtain ⟨j, hj, rfl, hown, hbel3⟩ := hrel
          by_cases hlt2 : j < n - (Pl.place l k)
          · obtain ⟨b, o, rfl, hcell⟩ := (HCUT.out.bel hbel3).2 (by omega)
            obtain ⟨e, he⟩ : ∃ e, (l.drop (Pl.place l k))[j]? = some e := ⟨_, List.getElem?_eq_getElem (by rw [HCUT.out.1]; omega)⟩
            obtain ⟨hc0, hc1⟩ := hcell j e he
            have hbs3 := hbel3.size
            have HO := Lib.hid hown; clear hown
            have HE := Lib.hid he; clear he
            have HCE := Lib.hid hcell; clear hcell
            go_wp2_with (at_builtin; refine wpList_push el25 rfl (.tmp 51) (.tmp 53) rfl w.heap.size u9 _ _ rfl (HO.out.alloc _) [.int .i64 e.1, .int .i64 e.2] (wr.heap.size + 1) (by simp) rfl rfl (by simp [Value.oneCell']) (by omega) (by omega) (by omega) ?_)
            intro u4 w4 ho4 hg4 _
            have hb4 : Bel w w4 := (hbel3.alloc _).grown hg4 (fun k hk => (HO.out.lt k hk).1)
            have ho5 : w4.ownsRow w.heap.size 65 2 u4 (Pl.place l k + 1 + (j + 1)) (entCells (l.take (Pl.place l k) ++ [(k, v)] ++ (l.drop (Pl.place l k)).take (j + 1))) := by
              refine own_eq ho4 (by omega) ?_
              rw [List.take_add_one (l := List.drop _ _), HE.out]
              simp [entCells]
            clear ho4 hg4
            go_wp2
            go_roundw
            case rel => exact ⟨j + 1, by omega, by go_num, ho5, hb4⟩
            case measure => simp [intOf]; omega
          · have HO := Lib.hid hown; clear hown
            go_wp2
            go_ret
            have hlen := HCUT.out.1
            have hj2 : j = n - (Pl.place l k) := by omega
            refine ⟨_, rfl, ?_, hbel3⟩
            have e1 : l.take (Pl.place l k) ++ [(k, v)] ++ (l.drop (Pl.place l k)).take j = Pl.put l k v := put_end l k v _ j (by simp [ht]) (by omega)
            have := HO.out
            rw [e1] at this
            have hl2 := this.1
            rw [entCells_length] at hl2
            rw [show (Pl.put l k v).length = Pl.place l k + 1 + j by omega]
            exact this
end Go.Proofs.Ytdmjcgipfkhibaa
