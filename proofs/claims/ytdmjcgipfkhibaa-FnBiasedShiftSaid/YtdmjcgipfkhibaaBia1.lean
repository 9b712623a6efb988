/- The walks of a biased map's methods. -/
import Derived.Test.YtdmjcgipfkhibaaMapL1
import Derived.Deep.RegionHeld3
import Derived.Deep.DrawnRows
import Derived.WalkSpells
namespace Go.Proofs.Ytdmjcgipfkhibaa
open Go.RowKit
attribute [local go_sem ↓] Go.wp_at_zero Go.wp_at_succ

set_option maxHeartbeats 400000 in
theorem mcontains0 {w : World} {base n g gs : Nat} {vd : Value} {d : List Pl.Ent} {sp : List Int} (h : MapW w base n g gs vd d sp) (hn : n ≤ 1000000) (k : Nat) (hk : k < n) :
    Calls Try.prog 93 #[mptr g, .int .i32 k] w fun e w' => e = .returned (.bool (hasB d k)) ∧ w = w' := by
  obtain ⟨s, hcs, hfind⟩ := h.look hk
  have c0 : w.cell? ⟨g, 0, none⟩ = some vd := h.hg.cell 0
  have c1 : w.cell? ⟨g, 1, none⟩ = some (.slice (some ⟨gs, 0, none⟩) n n) := h.hg.cell 1
  obtain ⟨a, c, rfl, hlc, hcm, hcell⟩ := own_form h.hd
  have hle := h.hi.le
  have H := Lib.hid h; clear h
  rcases hfind with ⟨v, hv⟩ | ⟨hno, hs | ⟨e, he, hne⟩⟩
  · have hsl : s < d.length := (List.getElem?_eq_some_iff.1 hv).1
    obtain ⟨gd, rfl, hgd⟩ := hcell (by omega)
    have c2 := hgd _ _ (mapCells_at hv).1
    rw [hasB_iff.2 ⟨v, List.mem_of_getElem? hv⟩]
    clear hgd hv
    generalize d.length = dl at *
    go_enter Try.func93, Try.ntmps93
    go_wp2
    go_ret
    exact ⟨rfl, rfl⟩
  · rw [hasB_false hno]
    have hd : decide ((s : Int) < (d.length : Int)) = false := by simp; omega
    clear hcell hno
    generalize d.length = dl at *
    go_enter Try.func93, Try.ntmps93
    go_wp2
    go_ret
    exact ⟨rfl, rfl⟩
  · have hsl : s < d.length := (List.getElem?_eq_some_iff.1 he).1
    obtain ⟨gd, rfl, hgd⟩ := hcell (by omega)
    have c2 := hgd _ _ (mapCells_at he).1
    rw [hasB_false hno]
    have hne' : (e.1 == (k : Int)) = false := by simpa using hne
    clear hgd he hno hne
    generalize d.length = dl at *
    go_enter Try.func93, Try.ntmps93
    go_wp2
    go_ret
    exact ⟨rfl, rfl⟩

set_option maxHeartbeats 1000000 in
theorem mclear0 {w : World} {base n g gs : Nat} {vd : Value} {d : List Pl.Ent} {sp : List Int} (h : MapW w base n g gs vd d sp) :
    Calls Try.prog 96 #[mptr g] w fun e w' => (∃ v, e = .returned v) ∧ MapTo w w' base n g gs vd [] := by
  have c0 : w.cell? ⟨g, 0, none⟩ = some vd := h.hg.cell 0
  have f0 : w.frozen? ⟨g, 0, none⟩ = false := h.hg.frozen 0
  have H := Lib.hid h
  rcases h.hd.2 with ⟨rfl, hd0⟩ | ⟨gd, cap, cur, rfl, _, _, hc, _⟩
  · clear h
    have hd1 : d = [] := List.length_eq_zero_iff.1 hd0
    subst hd1
    have hB := H.out.hg.set 0 (.slice none 0 0)
    have hgs : g ≠ gs := H.out.hg.ne H.out.hs (by decide)
    have HR : Hid (MapTo w (w.setCell ⟨g, 0, none⟩ (.slice none 0 0)) base n g gs (.slice none 0 0) []) := Lib.hid ⟨.slice none 0 0, sp, ⟨hB, H.out.hs.far (p := ⟨g, 0, none⟩) (by simpa using hgs.symm) _, World.ownsRow_nil _ _ _ _, H.out.hi, by simp, H.out.hb⟩, (Kept.refl _ w).setCell (p := ⟨g, 0, none⟩) (.inl (by simp [mfoot])) _, fun b hb => .inl hb⟩
    clear hB H
    go_enter Try.func96, Try.ntmps96
    go_wp2
    go_end0
    exact ⟨⟨_, rfl⟩, HR.out⟩
  · have HR := Lib.hid (h.shrunk (m := 0) (Nat.zero_le _))
    clear h H
    go_enter Try.func96, Try.ntmps96
    go_wp2
    go_end0
    exact ⟨⟨_, rfl⟩, HR.out⟩

theorem msize0 {w : World} {base n g gs : Nat} {vd : Value} {d : List Pl.Ent} {sp : List Int} (h : MapW w base n g gs vd d sp) :
    Calls Try.prog 95 #[mptr g] w fun e w' => e = .returned (.int .i64 d.length) ∧ w = w' := by
  have c0 : w.cell? ⟨g, 0, none⟩ = some vd := h.hg.cell 0
  obtain ⟨a, c, rfl, _, _, _⟩ := own_form h.hd
  clear h
  go_enter Try.func95, Try.ntmps95
  go_wp2
  go_ret
  exact ⟨rfl, rfl⟩
theorem mcap0 {w : World} {base n g gs : Nat} {vd : Value} {d : List Pl.Ent} {sp : List Int} (h : MapW w base n g gs vd d sp) :
    Calls Try.prog 98 #[mptr g] w fun e w' => e = .returned (.int .i64 n) ∧ w = w' := by
  have c1 : w.cell? ⟨g, 1, none⟩ = some (.slice (some ⟨gs, 0, none⟩) n n) := h.hg.cell 1
  clear h
  go_enter Try.func98, Try.ntmps98
  go_wp2
  go_ret
  exact ⟨rfl, rfl⟩

/-- The keys moved by f. -/
def shE (f : Int) (d : List Pl.Ent) : List Pl.Ent := d.map fun e => (e.1 + f, e.2)

/-- A biased map in memory. -/
structure BiaW (w : World) (base n g gs gb : Nat) (f : Int) (vd : Value) (d : List Pl.Ent) (sp : List Int) : Prop where
  hb : Blk w gb 138 [mptr g, .int .i64 f]
  hm : MapW w base n g gs vd d sp
  hg : base ≤ gb
theorem BiaW.bel {w w' : World} {base n g gs gb : Nat} {f : Int} {vd : Value} {d : List Pl.Ent} {sp : List Int} (h : BiaW w base n g gs gb f vd d sp) (hb : Bel w w') : BiaW w' base n g gs gb f vd d sp := ⟨h.hb.bel hb, h.hm.bel hb, h.hg⟩
def BiaTo (w w' : World) (base n g gs gb : Nat) (f : Int) (vd : Value) (d' : List Pl.Ent) : Prop :=
  ∃ vd' sp', BiaW w' base n g gs gb f vd' d' sp' ∧ Kept (mfoot g gs vd) w w' ∧ ∀ b, vd'.ownBlock = some b → vd.ownBlock = some b ∨ w.heap.size ≤ b
theorem BiaW.far {w : World} {base n g gs gb : Nat} {f : Int} {vd : Value} {d : List Pl.Ent} {sp : List Int} (h : BiaW w base n g gs gb f vd d sp) : gb ∉ mfoot g gs vd := by
  intro hm
  unfold mfoot at hm
  rcases List.mem_cons.1 hm with rfl | hm
  · exact h.hb.ne h.hm.hg (by decide) rfl
  · rcases List.mem_cons.1 hm with rfl | hm
    · exact h.hb.ne h.hm.hs (by decide) rfl
    · have : vd.ownBlock = some gb := by cases hv : vd.ownBlock <;> rw [hv] at hm <;> simp at hm; rw [hm]
      exact own_ne h.hm.hd h.hb (by decide) this
theorem BiaTo.of {w w1 w' : World} {base n g gs gb : Nat} {f : Int} {vd : Value} {d d' : List Pl.Ent} {sp : List Int} (h : BiaW w base n g gs gb f vd d sp) (hb : Bel w w1) (hm : MapTo w1 w' base n g gs vd d') : BiaTo w w' base n g gs gb f vd d' := by
  obtain ⟨vd', sp', h1, h2, h3⟩ := MapTo.of_bel hb hm
  exact ⟨vd', sp', ⟨h.hb.kept h2 h.far, h1, h.hg⟩, h2, h3⟩
theorem BiaTo.same {w w' : World} {base n g gs gb : Nat} {f : Int} {vd : Value} {d : List Pl.Ent} {sp : List Int} (h : BiaW w base n g gs gb f vd d sp) (hb : Bel w w') : BiaTo w w' base n g gs gb f vd d := ⟨vd, sp, h.bel hb, Kept.of_bel hb, fun _ h => .inl h⟩
theorem BiaTo.of_bel {w w1 w' : World} {base n g gs gb : Nat} {f : Int} {vd : Value} {d : List Pl.Ent} (hb : Bel w w1) (h : BiaTo w1 w' base n g gs gb f vd d) : BiaTo w w' base n g gs gb f vd d := by
  obtain ⟨vd', sp', h1, h2, h3⟩ := h
  exact ⟨vd', sp', h1, (Kept.of_bel hb).trans h2 (fun i hi => .inl hi), fun b hb' => (h3 b hb').imp id (fun hx => Nat.le_trans hb.size hx)⟩
theorem BiaTo.drew {w w' : World} {base n g gs gb : Nat} {f : Int} {vd : Value} {d : List Pl.Ent} (h : BiaTo w w' base n g gs gb f vd d) : BiaTo w w'.drew base n g gs gb f vd d := by
  obtain ⟨vd', sp', h1, h2, h3⟩ := h
  exact ⟨vd', sp', h1.bel (Bel.refl w').drew, h2.drew, h3⟩

theorem hasB_sh (f : Int) (d : List Pl.Ent) (x : Int) : hasB (shE f d) x = hasB d (x - f) := by
  unfold hasB shE
  rw [List.any_map]
  congr 1
  funext e
  simp only [Function.comp]
  exact decide_eq_decide.2 (by omega)
theorem getV_sh (f : Int) (d : List Pl.Ent) (x : Int) : getV (shE f d) x = getV d (x - f) := by
  unfold getV shE
  rw [List.find?_map]
  have e : ((fun e : Pl.Ent => decide (e.1 = x)) ∘ fun e : Pl.Ent => (e.1 + f, e.2)) = fun e => decide (e.1 = x - f) := by
    funext e; simp only [Function.comp]; exact decide_eq_decide.2 (by omega)
  rw [e]
  cases d.find? (fun e => decide (e.1 = x - f)) <;> rfl
theorem idx_sh (f : Int) (d : List Pl.Ent) (x : Int) : (shE f d).findIdx? (fun e => decide (e.1 = x)) = d.findIdx? (fun e => decide (e.1 = x - f)) := by
  unfold shE
  rw [List.findIdx?_map]
  congr 1
  funext e; simp only [Function.comp]; exact decide_eq_decide.2 (by omega)
theorem putE_sh (f : Int) (d : List Pl.Ent) (x v : Int) : putE (shE f d) x v = shE f (putE d (x - f) v) := by
  unfold putE
  rw [idx_sh]
  cases d.findIdx? (fun e => decide (e.1 = x - f)) with
  | none => simp [shE]
  | some i => simp [shE, List.map_set]
theorem swapOut_sh (f : Int) (d : List Pl.Ent) (i : Nat) (hi : i < d.length) : Pl.swapOut (shE f d) i = shE f (Pl.swapOut d i) := by
  unfold Pl.swapOut shE
  rw [List.map_take, List.map_set, List.length_map]
  congr 2
  rw [List.getD_eq_getElem?_getD, List.getD_eq_getElem?_getD, List.getElem?_map, List.getElem?_eq_getElem (by omega)]
  rfl
theorem outE_sh (f : Int) (d : List Pl.Ent) (x : Int) : outE (shE f d) x = shE f (outE d (x - f)) := by
  unfold outE
  rw [idx_sh]
  cases h : d.findIdx? (fun e => decide (e.1 = x - f)) with
  | none => rfl
  | some i =>
    obtain ⟨hi, _⟩ := List.findIdx?_eq_some_iff_getElem.1 h
    exact swapOut_sh f d i hi
theorem MapW.keys {w : World} {base n g gs : Nat} {vd : Value} {d : List Pl.Ent} {sp : List Int} (h : MapW w base n g gs vd d sp) : ∀ e ∈ d, 0 ≤ e.1 ∧ e.1 < n := fun e he => by
  obtain ⟨i, hi, rfl⟩ := List.getElem_of_mem he
  have := h.hi.ix i _ (List.getElem?_eq_getElem hi)
  omega
theorem hasB_out {d : List Pl.Ent} {n : Nat} (h : ∀ e ∈ d, 0 ≤ e.1 ∧ e.1 < (n : Int)) {f x : Int} (hx : x < f ∨ f + n ≤ x) : hasB (shE f d) x = false := by
  rw [hasB_sh]
  exact hasB_false (fun v hv => by have := h _ hv; simp at this; omega)
theorem getV_out {d : List Pl.Ent} {x : Int} (h : hasB d x = false) : getV d x = 0 := getV_not (fun v hv => by rw [hasB_iff.2 ⟨v, hv⟩] at h; cases h)

theorem bcap0 {w : World} {base n g gs gb : Nat} {f : Int} {vd : Value} {d : List Pl.Ent} {sp : List Int} (h : BiaW w base n g gs gb f vd d sp) (hn : n ≤ 1000000) (f0 : 0 ≤ f) (f1 : f ≤ 1073741824) :
    Calls Try.prog 115 #[mptr gb] w fun e w' => e = .returned (.int .i64 ((n : Int) + f)) ∧ Bel w w' := by
  have H := Lib.hid h
  have c0 : w.cell? ⟨gb, 0, none⟩ = some (mptr g) := h.hb.cell 0
  have c1 : w.cell? ⟨gb, 1, none⟩ = some (.int .i64 f) := h.hb.cell 1
  clear h
  have i1 : IntKind.i64.wrap ((n : Int) + f) = (n : Int) + f := IntWalk.i64_in _ (by omega)
  go_enter Try.func115, Try.ntmps115
  go_wp2
  go_region_held3 (fun w' => w'.cell? ⟨gb, 0, none⟩ = some (mptr g) ∧ w'.cell? ⟨gb, 1, none⟩ = some (.int .i64 f)) (go_keep)
    (first | (go_at_call 98; refine (mcap0 (H.out.hm.bel (Bel.refl w).drew)).mono ?_; rintro e w' ⟨rfl, rfl⟩))
  go_wp2
  go_ret
  exact ⟨rfl, (Bel.refl w).drew⟩
end Go.Proofs.Ytdmjcgipfkhibaa
