/- The walks of a sparse map's methods, with positions. -/
import Derived.Test.YtdmjcgipfkhibaaMap3
namespace Go.Proofs.Ytdmjcgipfkhibaa
open Go.RowKit

theorem elEpo : ElTy 129 136 4 16 := ElTy.mk' (z := .agg #[.int .i32 0, .int .i32 0, .int .i32 0, .int .u32 0]) Try.underlying129 (by kernel_rfl) rfl (by decide)

/-- The cells of an entry: the key, the value, and the position at the line of the value. -/
def posE (e : Pl.Ent) : List Value := [.int .i32 e.1, .int .i32 e.2, .int .i32 0, .int .u32 (e.2 * 4096 + 16)]
def posCells (d : List Pl.Ent) : List Value := d.flatMap posE
theorem posCells_cons (a : Pl.Ent) (r : List Pl.Ent) : posCells (a :: r) = posE a ++ posCells r := rfl
theorem posE_length (e : Pl.Ent) : (posE e).length = 4 := rfl
theorem posCells_length (l : List Pl.Ent) : (posCells l).length = l.length * 4 := by
  induction l with
  | nil => rfl
  | cons a r ih => rw [posCells_cons, List.length_append, posE_length, ih, List.length_cons]; omega
theorem posCells_append (l m : List Pl.Ent) : posCells (l ++ m) = posCells l ++ posCells m := by simp [posCells]
theorem posCells_at : ∀ {l : List Pl.Ent} {i : Nat} {e : Pl.Ent}, l[i]? = some e → ∀ j, j < 4 → (posCells l)[i * 4 + j]? = (posE e)[j]?
  | [], i, e, h, _, _ => by simp at h
  | a :: r, 0, e, h, j, hj => by
    simp at h; subst h
    rw [posCells_cons, Nat.zero_mul, Nat.zero_add, List.getElem?_append_left (by rw [posE_length]; exact hj)]
  | a :: r, i + 1, e, h, j, hj => by
    rw [posCells_cons, List.getElem?_append_right (by rw [posE_length]; omega), posE_length, show (i + 1) * 4 + j - 4 = i * 4 + j by omega]
    exact posCells_at (by simpa using h) j hj
/-- Writing an entry's four cells. -/
def putE4 (xs : List Value) (i : Nat) (e : Pl.Ent) : List Value := (((xs.set (i * 4) (.int .i32 e.1)).set (i * 4 + 1) (.int .i32 e.2)).set (i * 4 + 2) (.int .i32 0)).set (i * 4 + 3) (.int .u32 (e.2 * 4096 + 16))
theorem posCells_set (l : List Pl.Ent) (i : Nat) (e : Pl.Ent) (h : i < l.length) : posCells (l.set i e) = putE4 (posCells l) i e := by
  apply List.ext_getElem?
  intro q
  by_cases hq : q < l.length * 4
  · obtain ⟨k, j, hj, rfl⟩ : ∃ k j, j < 4 ∧ q = k * 4 + j := ⟨q / 4, q % 4, Nat.mod_lt _ (by omega), by omega⟩
    have hk : k < l.length := by omega
    unfold putE4
    by_cases e1 : k = i
    · subst e1
      rw [posCells_at (e := e) (by rw [List.getElem?_set_self hk]) j hj]
      have hl := posCells_length l
      have : j = 0 ∨ j = 1 ∨ j = 2 ∨ j = 3 := by omega
      rcases this with rfl | rfl | rfl | rfl <;> simp [posE, List.getElem?_set, hl] <;> omega
    · rw [posCells_at (e := l[k]) (by rw [List.getElem?_set_ne (Ne.symm e1), List.getElem?_eq_getElem hk]) j hj, ← posCells_at (List.getElem?_eq_getElem hk) j hj]
      rw [List.getElem?_set_ne (by omega), List.getElem?_set_ne (by omega), List.getElem?_set_ne (by omega), List.getElem?_set_ne (by omega)]
  · have h1 := posCells_length l
    have h2 := posCells_length (l.set i e)
    rw [List.length_set] at h2
    rw [List.getElem?_eq_none (by omega), List.getElem?_eq_none (by simp [putE4]; omega)]
theorem posCells_take : ∀ (l : List Pl.Ent) (m : Nat), (posCells l).take (m * 4) = posCells (l.take m)
  | [], m => by simp [posCells]
  | a :: r, 0 => by simp [posCells]
  | a :: r, m + 1 => by
    rw [posCells_cons, List.take_succ_cons, posCells_cons, ← posCells_take r m, show (m + 1) * 4 = (posE a).length + m * 4 by rw [posE_length]; omega, List.take_length_add_append]

/-- A value with a position. -/
def PosV (x : Int) : Prop := 1 ≤ x ∧ x ≤ 1000000
/-- A map in memory: its block, the sparse block, the dense slice. -/
structure PpW (w : World) (base n g gs : Nat) (vd : Value) (d : List Pl.Ent) (sp : List Int) : Prop where
  hg : Blk w g 131 [vd, .slice (some ⟨gs, 0, none⟩) n n]
  hs : Blk w gs 21 (sp.map (Value.int .i32))
  hd : w.ownsRow base 136 4 vd d.length (posCells d)
  hi : Pl.SI n d sp
  hz : ∀ e ∈ d, PosV e.2
  hb : base ≤ g ∧ base ≤ gs

theorem PpW.bel {w w' : World} {base n g gs : Nat} {vd : Value} {d : List Pl.Ent} {sp : List Int} (h : PpW w base n g gs vd d sp) (hb : Bel w w') : PpW w' base n g gs vd d sp :=
  ⟨h.hg.bel hb, h.hs.bel hb, own_bel h.hd hb, h.hi, h.hz, h.hb⟩

/-- The blocks that a map takes up. -/
def ppfoot (g gs : Nat) (vd : Value) : List Nat := g :: gs :: vd.ownBlock.toList
theorem PpW.foot_ge {w : World} {base n g gs : Nat} {vd : Value} {d : List Pl.Ent} {sp : List Int} (h : PpW w base n g gs vd d sp) : ∀ k ∈ ppfoot g gs vd, base ≤ k ∧ k < w.heap.size := by
  intro k hk
  unfold ppfoot at hk
  rcases List.mem_cons.1 hk with rfl | hk
  · exact ⟨h.hb.1, h.hg.lt⟩
  · rcases List.mem_cons.1 hk with rfl | hk
    · exact ⟨h.hb.2, h.hs.lt⟩
    · have : vd.ownBlock = some k := by cases hv : vd.ownBlock <;> rw [hv] at hk <;> simp at hk; rw [hk]
      exact h.hd.lt k this

def PpTo (w w' : World) (base n g gs : Nat) (vd : Value) (d' : List Pl.Ent) : Prop :=
  ∃ vd' sp', PpW w' base n g gs vd' d' sp' ∧ Kept (ppfoot g gs vd) w w' ∧ ∀ b, vd'.ownBlock = some b → vd.ownBlock = some b ∨ w.heap.size ≤ b
theorem PpTo.refl {w : World} {base n g gs : Nat} {vd : Value} {d : List Pl.Ent} {sp : List Int} (h : PpW w base n g gs vd d sp) : PpTo w w base n g gs vd d := ⟨vd, sp, h, Kept.refl _ _, fun _ h => .inl h⟩
theorem PpTo.drew {w w' : World} {base n g gs : Nat} {vd : Value} {d : List Pl.Ent} (h : PpTo w w' base n g gs vd d) : PpTo w w'.drew base n g gs vd d := by
  obtain ⟨vd', sp', h1, h2, h3⟩ := h
  exact ⟨vd', sp', h1.bel (Bel.refl w').drew, h2.drew, h3⟩
theorem PpTo.of_bel {w w1 w' : World} {base n g gs : Nat} {vd : Value} {d : List Pl.Ent} (hb : Bel w w1) (h : PpTo w1 w' base n g gs vd d) : PpTo w w' base n g gs vd d := by
  obtain ⟨vd', sp', h1, h2, h3⟩ := h
  exact ⟨vd', sp', h1, (Kept.of_bel hb).trans h2 (fun i hi => .inl hi), fun b hb' => (h3 b hb').imp id (fun hx => Nat.le_trans hb.size hx)⟩

theorem own_shrink4 {w : World} {base : Nat} {e : TypeId} {g cap n m : Nat} {xs : List Value} (h : w.ownsRow base e 4 (.slice (some ⟨g, 0, none⟩) n cap) n xs) (hm : m ≤ n) : w.ownsRow base e 4 (.slice (some ⟨g, 0, none⟩) m cap) m (xs.take (m * 4)) := by
  obtain ⟨hl, h | ⟨g', cap', cur, hv, hb, hh, hn, hc, hs, ht⟩⟩ := h
  · cases h.1
  · injection hv with h1 h2 h3
    injection h1 with h1
    injection h1 with h1 _ _
    subst h1 h3
    refine ⟨by rw [List.length_take]; omega, .inr ⟨g, cap, cur, rfl, hb, hh, by omega, hc, hs, ?_⟩⟩
    rw [← ht, List.take_take]
    congr 1
    omega

/-- What the look-up needs: where the key's place lies. -/
theorem PpW.look {w : World} {base n g gs : Nat} {vd : Value} {d : List Pl.Ent} {sp : List Int} (h : PpW w base n g gs vd d sp) {k : Nat} (hk : k < n) :
    ∃ s : Nat, w.cell? ⟨gs, k, none⟩ = some (.int .i32 s) ∧ ((∃ v, d[s]? = some ((k : Int), v)) ∨ ((∀ v, ((k : Int), v) ∉ d) ∧ (d.length ≤ s ∨ ∃ e, d[s]? = some e ∧ e.1 ≠ (k : Int)))) := by
  obtain ⟨s, hs, hr⟩ := h.hi.find (x := (k : Int)) (by omega) (by omega)
  refine ⟨s, ?_, hr⟩
  rw [h.hs.cell k, List.getElem?_map]
  rw [Int.toNat_natCast] at hs
  rw [hs]; rfl

set_option maxHeartbeats 400000 in
theorem pcontains_any {w : World} {base n g gs : Nat} {vd : Value} {d : List Pl.Ent} {sp : List Int} (h : PpW w base n g gs vd d sp) (hn : n ≤ 1000000) (k : Nat) (hk : k < n) :
    Calls Try.prog 64 #[mptr g, .int .i32 k] w fun e w' => e = .returned (.bool (hasB d k)) ∧ w = w' := by
  obtain ⟨s, hcs, hfind⟩ := h.look hk
  have c0 : w.cell? ⟨g, 0, none⟩ = some vd := h.hg.cell 0
  have c1 : w.cell? ⟨g, 1, none⟩ = some (.slice (some ⟨gs, 0, none⟩) n n) := h.hg.cell 1
  obtain ⟨a, c, rfl, hlc, hcm, hcell⟩ := own_form h.hd
  have hle := h.hi.le
  have H := Lib.hid h; clear h
  rcases hfind with ⟨v, hv⟩ | ⟨hno, hs | ⟨e, he, hne⟩⟩
  · have hsl : s < d.length := (List.getElem?_eq_some_iff.1 hv).1
    obtain ⟨gd, rfl, hgd⟩ := hcell (by omega)
    have c2 := hgd _ _ (posCells_at hv 0 (by omega))
    rw [Nat.add_zero] at c2
    rw [hasB_iff.2 ⟨v, List.mem_of_getElem? hv⟩]
    clear hgd hv
    generalize d.length = dl at *
    go_enter Try.func64, Try.ntmps64
    go_wp2
    go_ret
    exact ⟨rfl, rfl⟩
  · rw [hasB_false hno]
    have hd : decide ((s : Int) < (d.length : Int)) = false := by simp; omega
    clear hcell hno
    generalize d.length = dl at *
    go_enter Try.func64, Try.ntmps64
    go_wp2
    go_ret
    exact ⟨rfl, rfl⟩
  · have hsl : s < d.length := (List.getElem?_eq_some_iff.1 he).1
    obtain ⟨gd, rfl, hgd⟩ := hcell (by omega)
    have c2 := hgd _ _ (posCells_at he 0 (by omega))
    rw [Nat.add_zero] at c2
    rw [hasB_false hno]
    have hne' : (e.1 == (k : Int)) = false := by simpa using hne
    clear hgd he hno hne
    generalize d.length = dl at *
    go_enter Try.func64, Try.ntmps64
    go_wp2
    go_ret
    exact ⟨rfl, rfl⟩

set_option maxHeartbeats 400000 in
theorem pget_any {w : World} {base n g gs : Nat} {vd : Value} {d : List Pl.Ent} {sp : List Int} (h : PpW w base n g gs vd d sp) (hn : n ≤ 1000000) (k : Nat) (hk : k < n) :
    Calls Try.prog 104 #[mptr g, .int .i32 k] w fun e w' => e = .returned (.int .i32 (if hasB d k then getV d k else -1)) ∧ Bel w w' := by
  obtain ⟨s, hcs, hfind⟩ := h.look hk
  have c0 : w.cell? ⟨g, 0, none⟩ = some vd := h.hg.cell 0
  have c1 : w.cell? ⟨g, 1, none⟩ = some (.slice (some ⟨gs, 0, none⟩) n n) := h.hg.cell 1
  obtain ⟨a, c, rfl, hlc, hcm, hcell⟩ := own_form h.hd
  have hle := h.hi.le
  have H := Lib.hid h; clear h
  rcases hfind with ⟨v, hv⟩ | ⟨hno, hs | ⟨e, he, hne⟩⟩
  · have hsl : s < d.length := (List.getElem?_eq_some_iff.1 hv).1
    obtain ⟨gd, rfl, hgd⟩ := hcell (by omega)
    have c2 := hgd _ _ (posCells_at hv 0 (by omega))
    rw [Nat.add_zero] at c2
    have c3 := hgd _ _ (posCells_at hv 1 (by omega))
    rw [hasB_iff.2 ⟨v, List.mem_of_getElem? hv⟩, getV_at H.out.hi.nodup hv]
    clear hgd hv
    generalize d.length = dl at *
    go_enter Try.func104, Try.ntmps104
    go_wp2
    go_ret
    exact ⟨rfl, Bel.refl w⟩
  · rw [hasB_false hno]
    have hd : decide ((s : Int) < (d.length : Int)) = false := by simp; omega
    clear hcell hno
    generalize d.length = dl at *
    go_enter Try.func104, Try.ntmps104
    go_wp2
    go_ret
    exact ⟨rfl, Bel.refl w⟩
  · have hsl : s < d.length := (List.getElem?_eq_some_iff.1 he).1
    obtain ⟨gd, rfl, hgd⟩ := hcell (by omega)
    have c2 := hgd _ _ (posCells_at he 0 (by omega))
    rw [Nat.add_zero] at c2
    rw [hasB_false hno]
    have hne' : (e.1 == (k : Int)) = false := by simpa using hne
    clear hgd he hno hne
    generalize d.length = dl at *
    go_enter Try.func104, Try.ntmps104
    go_wp2
    go_ret
    exact ⟨rfl, Bel.refl w⟩

end Go.Proofs.Ytdmjcgipfkhibaa
