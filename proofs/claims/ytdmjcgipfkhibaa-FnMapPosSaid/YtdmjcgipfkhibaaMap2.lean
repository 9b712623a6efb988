/- The walks of a sparse map's methods, on. -/
import Derived.Test.YtdmjcgipfkhibaaMap1
namespace Go.Proofs.Ytdmjcgipfkhibaa
open Go.RowKit

/-- The dense slice shrinks to its first m entries. -/
theorem MapW.shrunk {w : World} {base n g gs gd cap : Nat} {d : List Pl.Ent} {sp : List Int} (h : MapW w base n g gs (.slice (some ⟨gd, 0, none⟩) d.length cap) d sp) {m : Nat} (hm : m ≤ d.length) :
    MapTo w (w.setCell ⟨g, 0, none⟩ (.slice (some ⟨gd, 0, none⟩) m cap)) base n g gs (.slice (some ⟨gd, 0, none⟩) d.length cap) (d.take m) := by
  have hgs : g ≠ gs := h.hg.ne h.hs (by decide)
  have hne : gd ≠ g := fun e => own_ne h.hd h.hg (by decide) (by rw [← e]; rfl)
  refine ⟨.slice (some ⟨gd, 0, none⟩) m cap, sp, ⟨h.hg.set 0 _, h.hs.far (p := ⟨g, 0, none⟩) (by simpa using hgs.symm) _, ?_, h.hi.pop m, fun e he => h.hz e (List.mem_of_mem_take he), h.hb⟩, (Kept.refl _ w).setCell (p := ⟨g, 0, none⟩) (.inl (by simp [mfoot])) _, fun b hb => .inl hb⟩
  have h3 := own_shrink2 (ownsRow_setCell_other h.hd (a := ⟨g, 0, none⟩) (by simp [Value.ownBlock]; exact hne) (.slice (some ⟨gd, 0, none⟩) m cap)) (m := m) hm
  rw [List.length_take, Nat.min_eq_left hm]
  have e1 : (mapCells d).take (m * 2) = mapCells (d.take m) := mapCells_take d m
  rw [e1] at h3
  exact h3
set_option maxHeartbeats 1000000 in
theorem mclear_any {w : World} {base n g gs : Nat} {vd : Value} {d : List Pl.Ent} {sp : List Int} (h : MapW w base n g gs vd d sp) :
    Calls Try.prog 54 #[mptr g] w fun e w' => (∃ v, e = .returned v) ∧ MapTo w w' base n g gs vd [] := by
  have c0 : w.cell? ⟨g, 0, none⟩ = some vd := h.hg.cell 0
  have f0 : w.frozen? ⟨g, 0, none⟩ = false := h.hg.frozen 0
  have H := Lib.hid h
  rcases h.hd.2 with ⟨rfl, hd0⟩ | ⟨gd, cap, cur, rfl, _, _, hc, _⟩
  · clear h
    have hd1 : d = [] := List.length_eq_zero_iff.1 hd0
    subst hd1
    have hB := H.out.hg.set 0 (.slice none 0 0)
    have hgs : g ≠ gs := H.out.hg.ne H.out.hs (by decide)
    have HR : Hid (MapTo w (w.setCell ⟨g, 0, none⟩ (.slice none 0 0)) base n g gs (.slice none 0 0) []) := Lib.hid ⟨.slice none 0 0, sp, ⟨hB, H.out.hs.far (p := ⟨g, 0, none⟩) (by simpa using hgs.symm) _, World.ownsRow_nil _ _ _ _, H.out.hi, by simp, H.out.hb⟩, (Kept.refl _ w).setCell (p := ⟨g, 0, none⟩) (.inl (by simp [mfoot])) _, fun b hb => .inl hb⟩
    clear hB H
    go_enter Try.func54, Try.ntmps54
    go_wp2
    go_end0
    exact ⟨⟨_, rfl⟩, HR.out⟩
  · have HR := Lib.hid (h.shrunk (m := 0) (Nat.zero_le _))
    clear h H
    go_enter Try.func54, Try.ntmps54
    go_wp2
    go_end0
    exact ⟨⟨_, rfl⟩, HR.out⟩

theorem msize_any {w : World} {base n g gs : Nat} {vd : Value} {d : List Pl.Ent} {sp : List Int} (h : MapW w base n g gs vd d sp) :
    Calls Try.prog 53 #[mptr g] w fun e w' => e = .returned (.int .i64 d.length) ∧ w = w' := by
  have c0 : w.cell? ⟨g, 0, none⟩ = some vd := h.hg.cell 0
  obtain ⟨a, c, rfl, _, _, _⟩ := own_form h.hd
  clear h
  go_enter Try.func53, Try.ntmps53
  go_wp2
  go_ret
  exact ⟨rfl, rfl⟩
theorem mcap_any {w : World} {base n g gs : Nat} {vd : Value} {d : List Pl.Ent} {sp : List Int} (h : MapW w base n g gs vd d sp) :
    Calls Try.prog 58 #[mptr g] w fun e w' => e = .returned (.int .i64 n) ∧ w = w' := by
  have c1 : w.cell? ⟨g, 1, none⟩ = some (.slice (some ⟨gs, 0, none⟩) n n) := h.hg.cell 1
  clear h
  go_enter Try.func58, Try.ntmps58
  go_wp2
  go_ret
  exact ⟨rfl, rfl⟩
theorem mcontents_any {w : World} {base n g gs : Nat} {vd : Value} {d : List Pl.Ent} {sp : List Int} (h : MapW w base n g gs vd d sp) :
    Calls Try.prog 97 #[mptr g] w fun e w' => e = .returned vd ∧ w = w' := by
  have c0 : w.cell? ⟨g, 0, none⟩ = some vd := h.hg.cell 0
  clear h
  go_enter Try.func97, Try.ntmps97
  go_wp2
  go_ret
  exact ⟨rfl, rfl⟩

theorem mSet_any {w : World} {base n g gs : Nat} {vd : Value} {d : List Pl.Ent} {sp : List Int} (h : MapW w base n g gs vd d sp) (hn : n ≤ 1000000) (hbase : base ≤ w.heap.size) (k : Nat) (hk : k < n) (x : Int) (hx : Val32 x) :
    Calls Try.prog 49 #[mptr g, .int .i32 k, .int .i32 x] w fun e w' => (∃ v, e = .returned v) ∧ MapTo w w' base n g gs vd (putE d k x) := by
  have H := Lib.hid (mset_any h hn hbase k hk x hx)
  clear h
  go_enter Try.func49, Try.ntmps49
  go_wp2_with (go_at_call 91; refine H.out.mono ?_; rintro e w' ⟨⟨v, rfl⟩, hs⟩)
  go_end0
  exact ⟨⟨_, rfl⟩, hs⟩
theorem mGet_any {w : World} {base n g gs : Nat} {vd : Value} {d : List Pl.Ent} {sp : List Int} (h : MapW w base n g gs vd d sp) (hn : n ≤ 1000000) (k : Nat) (hk : k < n) :
    Calls Try.prog 52 #[mptr g, .int .i32 k] w fun e w' => e = .returned (.tuple #[.int .i32 (getV d k), .bool (hasB d k)]) ∧ Bel w w' := by
  have H := Lib.hid (mget_any h hn k hk)
  clear h
  go_enter Try.func52, Try.ntmps52
  go_wp2_with (go_at_call 94; refine H.out.mono ?_; rintro e w' ⟨rfl, hs⟩)
  go_ret2
  exact ⟨rfl, hs⟩
end Go.Proofs.Ytdmjcgipfkhibaa
