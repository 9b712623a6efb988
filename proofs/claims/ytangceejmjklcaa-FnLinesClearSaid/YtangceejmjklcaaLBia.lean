/- Joined: XSet2, XMap4, XBia1, XBia2. -/
import Derived.Test.YtangceejmjklcaaLMap
import Derived.Deep.RegionHeld3
import Derived.Deep.DrawnRows
import Derived.WalkSpells
namespace Go.Proofs.Ytangceejmjklcaa
open Go.RowKit

theorem eli32 : ∃ i, Try.prog.info? 21 = some i ∧ i.zero = some (.int .i32 0) ∧ i.size = 1 ∧ i.bytes = 4 := info_parts (by kernel_rfl)
theorem made_zero32 (n : Nat) : (madeCells #[Value.int .i32 0] n).toList = (List.replicate n (0 : Int)).map (Value.int .i32) := by
  apply List.ext_getElem?
  intro i
  by_cases h : i < n <;> simp [madeCells, h, Nat.mod_one]

/-- A row that is known whole, as a block. -/
theorem blk_of_full {w : World} {base : Nat} {e : TypeId} {g n : Nat} {xs : List Value} (h : w.ownsRow base e 1 (.slice (some ⟨g, 0, none⟩) n n) n xs) : Blk w g e xs := by
  obtain ⟨hl, h | ⟨g', cap', cur, hv, hb, hh, hn, hc, hs, ht⟩⟩ := h
  · cases h.1
  · injection hv with h1 h2 h3
    injection h1 with h1
    injection h1 with h1 _ _
    subst h1 h3
    unfold Blk
    rw [hh, ← ht, List.take_of_length_le (by simp; omega)]

set_option maxHeartbeats 400000 in
theorem mnew0 (n : Nat) (w : World) (hn : n ≤ 1000000) :
    Calls Try.prog 52 #[.int .i64 n] w fun e w' => ∃ g gs, e = .returned (mptr g) ∧ MapW w' w.heap.size n g gs (.slice none 0 0) [] (List.replicate n 0) ∧ Bel w w' := by
  obtain ⟨i0, hi, hz0, hz1, hz2⟩ := eli32
  have HI := Lib.hid hi; clear hi
  have HZ0 := Lib.hid hz0; clear hz0
  have HZ1 := Lib.hid hz1; clear hz1
  have HZ2 := Lib.hid hz2; clear hz2
  go_enter Try.func52, Try.ntmps52
  go_wp2_with (refine wpList_make_full _ rfl (.tmp 3) (.tmp 3) 115 rfl w.heap.size 21 i0 (.int .i32 0) 1 Try.underlying115 HI.out HZ0.out HZ1.out .i64 .i64 n n n rfl rfl rfl rfl (by rw [HZ2.out]; omega) (by unfold maxLen; omega) (Nat.le_refl _) ?_)
  intro w1 ho1 hg1
  rw [made_zero32] at ho1
  have hb1 : Bel w w1 := (Bel.refl _).grown hg1 (by simp)
  have hS := blk_of_full ho1
  have hlt := hS.lt
  clear ho1 hg1
  go_wp2
  go_ret
  exact ⟨w1.heap.size, w.heap.size, rfl, ⟨Blk.new w1 _ [_, _], hS.alloc _, World.ownsRow_nil _ _ _ _, Pl.SI.new n, by simp, ⟨by omega, Nat.le_refl _⟩⟩, hb1.alloc _⟩
theorem mnew1 (n : Nat) (w : World) (hn : n ≤ 1000000) :
    Calls Try.prog 42 #[.int .i64 n] w fun e w' => ∃ g gs, e = .returned (mptr g) ∧ MapW w' w.heap.size n g gs (.slice none 0 0) [] (List.replicate n 0) ∧ Bel w w' := by
  have H := Lib.hid (mnew0 n w hn)
  go_enter Try.func42, Try.ntmps42
  go_wp2_with (go_at_call 52; refine H.out.mono ?_; rintro e w' ⟨g, gs, rfl, hs, hb⟩)
  go_ret
  exact ⟨g, gs, rfl, hs, hb⟩
open Go.RowKit
attribute [local go_sem ↓] Go.wp_at_zero Go.wp_at_succ

set_option maxHeartbeats 400000 in
theorem mcontains0 {w : World} {base n g gs : Nat} {vd : Value} {d : List Pl.Ent} {sp : List Int} (h : MapW w base n g gs vd d sp) (hn : n ≤ 1000000) (k : Nat) (hk : k < n) :
    Calls Try.prog 56 #[mptr g, .int .i32 k] w fun e w' => e = .returned (.bool (hasB d k)) ∧ w = w' := by
  obtain ⟨s, hcs, hfind⟩ := h.look hk
  have c0 : w.cell? ⟨g, 0, none⟩ = some vd := h.hg.cell 0
  have c1 : w.cell? ⟨g, 1, none⟩ = some (.slice (some ⟨gs, 0, none⟩) n n) := h.hg.cell 1
  obtain ⟨a, c, rfl, hlc, hcm, hcell⟩ := own_form h.hd
  have hle := h.hi.le
  have H := Lib.hid h; clear h
  rcases hfind with ⟨v, hv⟩ | ⟨hno, hs | ⟨e, he, hne⟩⟩
  · have hsl : s < d.length := (List.getElem?_eq_some_iff.1 hv).1
    obtain ⟨gd, rfl, hgd⟩ := hcell (by omega)
    have c2 := hgd _ _ (mapCells_at hv).1
    rw [hasB_iff.2 ⟨v, List.mem_of_getElem? hv⟩]
    clear hgd hv
    generalize d.length = dl at *
    go_enter Try.func56, Try.ntmps56
    go_wp2
    go_ret
    exact ⟨rfl, rfl⟩
  · rw [hasB_false hno]
    have hd : decide ((s : Int) < (d.length : Int)) = false := by simp; omega
    clear hcell hno
    generalize d.length = dl at *
    go_enter Try.func56, Try.ntmps56
    go_wp2
    go_ret
    exact ⟨rfl, rfl⟩
  · have hsl : s < d.length := (List.getElem?_eq_some_iff.1 he).1
    obtain ⟨gd, rfl, hgd⟩ := hcell (by omega)
    have c2 := hgd _ _ (mapCells_at he).1
    rw [hasB_false hno]
    have hne' : (e.1 == (k : Int)) = false := by simpa using hne
    clear hgd he hno hne
    generalize d.length = dl at *
    go_enter Try.func56, Try.ntmps56
    go_wp2
    go_ret
    exact ⟨rfl, rfl⟩

set_option maxHeartbeats 1000000 in
theorem mclear0 {w : World} {base n g gs : Nat} {vd : Value} {d : List Pl.Ent} {sp : List Int} (h : MapW w base n g gs vd d sp) :
    Calls Try.prog 58 #[mptr g] w fun e w' => (∃ v, e = .returned v) ∧ MapTo w w' base n g gs vd [] := by
  have c0 : w.cell? ⟨g, 0, none⟩ = some vd := h.hg.cell 0
  have f0 : w.frozen? ⟨g, 0, none⟩ = false := h.hg.frozen 0
  have H := Lib.hid h
  rcases h.hd.2 with ⟨rfl, hd0⟩ | ⟨gd, cap, cur, rfl, _, _, hc, _⟩
  · clear h
    have hd1 : d = [] := List.length_eq_zero_iff.1 hd0
    subst hd1
    have hB := H.out.hg.set 0 (.slice none 0 0)
    have hgs : g ≠ gs := H.out.hg.ne H.out.hs (by decide)
    have HR : Hid (MapTo w (w.setCell ⟨g, 0, none⟩ (.slice none 0 0)) base n g gs (.slice none 0 0) []) := Lib.hid ⟨.slice none 0 0, sp, ⟨hB, H.out.hs.far (p := ⟨g, 0, none⟩) (by simpa using hgs.symm) _, World.ownsRow_nil _ _ _ _, H.out.hi, by simp, H.out.hb⟩, (Kept.refl _ w).setCell (p := ⟨g, 0, none⟩) (.inl (by simp [mfoot])) _, fun b hb => .inl hb⟩
    clear hB H
    go_enter Try.func58, Try.ntmps58
    go_wp2
    go_end0
    exact ⟨⟨_, rfl⟩, HR.out⟩
  · have HR := Lib.hid (h.shrunk (m := 0) (Nat.zero_le _))
    clear h H
    go_enter Try.func58, Try.ntmps58
    go_wp2
    go_end0
    exact ⟨⟨_, rfl⟩, HR.out⟩

theorem msize0 {w : World} {base n g gs : Nat} {vd : Value} {d : List Pl.Ent} {sp : List Int} (h : MapW w base n g gs vd d sp) :
    Calls Try.prog 59 #[mptr g] w fun e w' => e = .returned (.int .i64 d.length) ∧ w = w' := by
  have c0 : w.cell? ⟨g, 0, none⟩ = some vd := h.hg.cell 0
  obtain ⟨a, c, rfl, _, _, _⟩ := own_form h.hd
  clear h
  go_enter Try.func59, Try.ntmps59
  go_wp2
  go_ret
  exact ⟨rfl, rfl⟩
theorem mcap0 {w : World} {base n g gs : Nat} {vd : Value} {d : List Pl.Ent} {sp : List Int} (h : MapW w base n g gs vd d sp) :
    Calls Try.prog 61 #[mptr g] w fun e w' => e = .returned (.int .i64 n) ∧ w = w' := by
  have c1 : w.cell? ⟨g, 1, none⟩ = some (.slice (some ⟨gs, 0, none⟩) n n) := h.hg.cell 1
  clear h
  go_enter Try.func61, Try.ntmps61
  go_wp2
  go_ret
  exact ⟨rfl, rfl⟩

/-- The keys moved by f. -/
def shE (f : Int) (d : List Pl.Ent) : List Pl.Ent := d.map fun e => (e.1 + f, e.2)

/-- A biased map in memory. -/
structure BiaW (w : World) (base n g gs gb : Nat) (f : Int) (vd : Value) (d : List Pl.Ent) (sp : List Int) : Prop where
  hb : Blk w gb 95 [mptr g, .int .i64 f]
  hm : MapW w base n g gs vd d sp
  hg : base ≤ gb
theorem BiaW.bel {w w' : World} {base n g gs gb : Nat} {f : Int} {vd : Value} {d : List Pl.Ent} {sp : List Int} (h : BiaW w base n g gs gb f vd d sp) (hb : Bel w w') : BiaW w' base n g gs gb f vd d sp := ⟨h.hb.bel hb, h.hm.bel hb, h.hg⟩
def BiaTo (w w' : World) (base n g gs gb : Nat) (f : Int) (vd : Value) (d' : List Pl.Ent) : Prop :=
  ∃ vd' sp', BiaW w' base n g gs gb f vd' d' sp' ∧ Kept (mfoot g gs vd) w w' ∧ ∀ b, vd'.ownBlock = some b → vd.ownBlock = some b ∨ w.heap.size ≤ b
theorem BiaW.far {w : World} {base n g gs gb : Nat} {f : Int} {vd : Value} {d : List Pl.Ent} {sp : List Int} (h : BiaW w base n g gs gb f vd d sp) : gb ∉ mfoot g gs vd := by
  intro hm
  unfold mfoot at hm
  rcases List.mem_cons.1 hm with rfl | hm
  · exact h.hb.ne h.hm.hg (by decide) rfl
  · rcases List.mem_cons.1 hm with rfl | hm
    · exact h.hb.ne h.hm.hs (by decide) rfl
    · have : vd.ownBlock = some gb := by cases hv : vd.ownBlock <;> rw [hv] at hm <;> simp at hm; rw [hm]
      exact own_ne h.hm.hd h.hb (by decide) this
theorem BiaTo.of {w w1 w' : World} {base n g gs gb : Nat} {f : Int} {vd : Value} {d d' : List Pl.Ent} {sp : List Int} (h : BiaW w base n g gs gb f vd d sp) (hb : Bel w w1) (hm : MapTo w1 w' base n g gs vd d') : BiaTo w w' base n g gs gb f vd d' := by
  obtain ⟨vd', sp', h1, h2, h3⟩ := MapTo.of_bel hb hm
  exact ⟨vd', sp', ⟨h.hb.kept h2 h.far, h1, h.hg⟩, h2, h3⟩
theorem BiaTo.same {w w' : World} {base n g gs gb : Nat} {f : Int} {vd : Value} {d : List Pl.Ent} {sp : List Int} (h : BiaW w base n g gs gb f vd d sp) (hb : Bel w w') : BiaTo w w' base n g gs gb f vd d := ⟨vd, sp, h.bel hb, Kept.of_bel hb, fun _ h => .inl h⟩
theorem BiaTo.of_bel {w w1 w' : World} {base n g gs gb : Nat} {f : Int} {vd : Value} {d : List Pl.Ent} (hb : Bel w w1) (h : BiaTo w1 w' base n g gs gb f vd d) : BiaTo w w' base n g gs gb f vd d := by
  obtain ⟨vd', sp', h1, h2, h3⟩ := h
  exact ⟨vd', sp', h1, (Kept.of_bel hb).trans h2 (fun i hi => .inl hi), fun b hb' => (h3 b hb').imp id (fun hx => Nat.le_trans hb.size hx)⟩
theorem BiaTo.drew {w w' : World} {base n g gs gb : Nat} {f : Int} {vd : Value} {d : List Pl.Ent} (h : BiaTo w w' base n g gs gb f vd d) : BiaTo w w'.drew base n g gs gb f vd d := by
  obtain ⟨vd', sp', h1, h2, h3⟩ := h
  exact ⟨vd', sp', h1.bel (Bel.refl w').drew, h2.drew, h3⟩

theorem hasB_sh (f : Int) (d : List Pl.Ent) (x : Int) : hasB (shE f d) x = hasB d (x - f) := by
  unfold hasB shE
  rw [List.any_map]
  congr 1
  funext e
  simp only [Function.comp]
  exact decide_eq_decide.2 (by omega)
theorem getV_sh (f : Int) (d : List Pl.Ent) (x : Int) : getV (shE f d) x = getV d (x - f) := by
  unfold getV shE
  rw [List.find?_map]
  have e : ((fun e : Pl.Ent => decide (e.1 = x)) ∘ fun e : Pl.Ent => (e.1 + f, e.2)) = fun e => decide (e.1 = x - f) := by
    funext e; simp only [Function.comp]; exact decide_eq_decide.2 (by omega)
  rw [e]
  cases d.find? (fun e => decide (e.1 = x - f)) <;> rfl
theorem idx_sh (f : Int) (d : List Pl.Ent) (x : Int) : (shE f d).findIdx? (fun e => decide (e.1 = x)) = d.findIdx? (fun e => decide (e.1 = x - f)) := by
  unfold shE
  rw [List.findIdx?_map]
  congr 1
  funext e; simp only [Function.comp]; exact decide_eq_decide.2 (by omega)
theorem putE_sh (f : Int) (d : List Pl.Ent) (x v : Int) : putE (shE f d) x v = shE f (putE d (x - f) v) := by
  unfold putE
  rw [idx_sh]
  cases d.findIdx? (fun e => decide (e.1 = x - f)) with
  | none => simp [shE]
  | some i => simp [shE, List.map_set]
theorem swapOut_sh (f : Int) (d : List Pl.Ent) (i : Nat) (hi : i < d.length) : Pl.swapOut (shE f d) i = shE f (Pl.swapOut d i) := by
  unfold Pl.swapOut shE
  rw [List.map_take, List.map_set, List.length_map]
  congr 2
  rw [List.getD_eq_getElem?_getD, List.getD_eq_getElem?_getD, List.getElem?_map, List.getElem?_eq_getElem (by omega)]
  rfl
theorem outE_sh (f : Int) (d : List Pl.Ent) (x : Int) : outE (shE f d) x = shE f (outE d (x - f)) := by
  unfold outE
  rw [idx_sh]
  cases h : d.findIdx? (fun e => decide (e.1 = x - f)) with
  | none => rfl
  | some i =>
    obtain ⟨hi, _⟩ := List.findIdx?_eq_some_iff_getElem.1 h
    exact swapOut_sh f d i hi
theorem MapW.keys {w : World} {base n g gs : Nat} {vd : Value} {d : List Pl.Ent} {sp : List Int} (h : MapW w base n g gs vd d sp) : ∀ e ∈ d, 0 ≤ e.1 ∧ e.1 < n := fun e he => by
  obtain ⟨i, hi, rfl⟩ := List.getElem_of_mem he
  have := h.hi.ix i _ (List.getElem?_eq_getElem hi)
  omega
theorem hasB_out {d : List Pl.Ent} {n : Nat} (h : ∀ e ∈ d, 0 ≤ e.1 ∧ e.1 < (n : Int)) {f x : Int} (hx : x < f ∨ f + n ≤ x) : hasB (shE f d) x = false := by
  rw [hasB_sh]
  exact hasB_false (fun v hv => by have := h _ hv; simp at this; omega)
theorem getV_out {d : List Pl.Ent} {x : Int} (h : hasB d x = false) : getV d x = 0 := getV_not (fun v hv => by rw [hasB_iff.2 ⟨v, hv⟩] at h; cases h)

theorem bcap0 {w : World} {base n g gs gb : Nat} {f : Int} {vd : Value} {d : List Pl.Ent} {sp : List Int} (h : BiaW w base n g gs gb f vd d sp) (hn : n ≤ 1000000) (f0 : 0 ≤ f) (f1 : f ≤ 1073741824) :
    Calls Try.prog 53 #[mptr gb] w fun e w' => e = .returned (.int .i64 ((n : Int) + f)) ∧ Bel w w' := by
  have H := Lib.hid h
  have c0 : w.cell? ⟨gb, 0, none⟩ = some (mptr g) := h.hb.cell 0
  have c1 : w.cell? ⟨gb, 1, none⟩ = some (.int .i64 f) := h.hb.cell 1
  clear h
  have i1 : IntKind.i64.wrap ((n : Int) + f) = (n : Int) + f := IntWalk.i64_in _ (by omega)
  go_enter Try.func53, Try.ntmps53
  go_wp2
  go_region_held3 (fun w' => w'.cell? ⟨gb, 0, none⟩ = some (mptr g) ∧ w'.cell? ⟨gb, 1, none⟩ = some (.int .i64 f)) (go_keep)
    (first | (go_at_call 61; refine (mcap0 (H.out.hm.bel (Bel.refl w).drew)).mono ?_; rintro e w' ⟨rfl, rfl⟩))
  go_wp2
  go_ret
  exact ⟨rfl, (Bel.refl w).drew⟩

attribute [local go_sem ↓] Go.wp_at_zero Go.wp_at_succ

theorem bsize0 {w : World} {base n g gs gb : Nat} {f : Int} {vd : Value} {d : List Pl.Ent} {sp : List Int} (h : BiaW w base n g gs gb f vd d sp) :
    Calls Try.prog 50 #[mptr gb] w fun e w' => e = .returned (.int .i64 d.length) ∧ w = w' := by
  have H := Lib.hid h
  have c0 : w.cell? ⟨gb, 0, none⟩ = some (mptr g) := h.hb.cell 0
  clear h
  go_enter Try.func50, Try.ntmps50
  go_wp2_with (go_at_call 59; refine (msize0 H.out.hm).mono ?_; rintro e w' ⟨rfl, rfl⟩)
  go_ret
  exact ⟨rfl, rfl⟩
/-- The bounds of a key. -/
structure KeyIn (x : Int) : Prop where
  x0 : 0 ≤ x
  x1 : x ≤ 1099511627776

set_option maxHeartbeats 1000000 in
theorem bcontains0 {w : World} {base n g gs gb : Nat} {f : Int} {vd : Value} {d : List Pl.Ent} {sp : List Int} (h : BiaW w base n g gs gb f vd d sp) (hn : n ≤ 1000000) (f0 : 0 ≤ f) (f1 : f ≤ 1073741824) {x : Int} (hx : KeyIn x) :
    Calls Try.prog 47 #[mptr gb, .int .u64 x] w fun e w' => e = .returned (.bool (hasB (shE f d) x)) ∧ Bel w w' := by
  have H := Lib.hid h
  have c0 : w.cell? ⟨gb, 0, none⟩ = some (mptr g) := h.hb.cell 0
  have c1 : w.cell? ⟨gb, 1, none⟩ = some (.int .i64 f) := h.hb.cell 1
  clear h
  obtain ⟨x0, x1⟩ := hx
  by_cases hlt : x < f
  · rw [hasB_out H.out.hm.keys (.inl hlt)]
    go_enter Try.func47, Try.ntmps47
    go_wp2
    go_ret
    exact ⟨rfl, Bel.refl w⟩
  by_cases hge : (n : Int) + f ≤ x
  · rw [hasB_out H.out.hm.keys (.inr (by omega))]
    go_enter Try.func47, Try.ntmps47
    go_wp2_with (go_at_call 53; refine (bcap0 H.out hn f0 f1).mono ?_; rintro e w1 ⟨rfl, hb1⟩)
    go_ret
    exact ⟨rfl, hb1⟩
  rw [hasB_sh]
  obtain ⟨k, hk⟩ := Int.eq_ofNat_of_zero_le (a := x - f) (by omega)
  rw [hk]
  have hkn : k < n := by omega
  have i0 : IntKind.i64.wrap x = x := IntWalk.i64_in _ (by omega)
  have i1 : IntKind.i64.wrap (x - f) = (k : Int) := by rw [hk]; exact IntWalk.i64_in _ (by omega)
  have i2 : IntKind.i32.wrap (k : Int) = (k : Int) := IntWalk.i32_in _ (by omega)
  have HKK := Lib.hid hk; clear hk
  go_enter Try.func47, Try.ntmps47
  go_wp2_with (go_at_call 53; refine (bcap0 H.out hn f0 f1).mono ?_; rintro e w1 ⟨rfl, hb1⟩)
  have d0 := hb1.cell c0
  have d1 := hb1.cell c1
  clear c0 c1
  have H1 := Lib.hid (H.out.bel hb1)
  go_region_held3 (fun w' => w'.cell? ⟨gb, 0, none⟩ = some (mptr g) ∧ w'.cell? ⟨gb, 1, none⟩ = some (.int .i64 f)) (go_keep)
    (first | (go_at_call 56; refine (mcontains0 (H1.out.hm.bel (Bel.refl w1).drew) hn k hkn).mono ?_; rintro e w' ⟨rfl, rfl⟩))
  go_wp2
  go_ret
  exact ⟨rfl, hb1.drew⟩
set_option maxHeartbeats 1000000 in
theorem bget0 {w : World} {base n g gs gb : Nat} {f : Int} {vd : Value} {d : List Pl.Ent} {sp : List Int} (h : BiaW w base n g gs gb f vd d sp) (hn : n ≤ 1000000) (f0 : 0 ≤ f) (f1 : f ≤ 1073741824) {x : Int} (hx : KeyIn x) :
    Calls Try.prog 48 #[mptr gb, .int .u64 x] w fun e w' => e = .returned (.tuple #[.int .i32 (getV (shE f d) x), .bool (hasB (shE f d) x)]) ∧ Bel w w' := by
  have H := Lib.hid h
  have c0 : w.cell? ⟨gb, 0, none⟩ = some (mptr g) := h.hb.cell 0
  have c1 : w.cell? ⟨gb, 1, none⟩ = some (.int .i64 f) := h.hb.cell 1
  clear h
  obtain ⟨x0, x1⟩ := hx
  by_cases hlt : x < f
  · have ho := hasB_out H.out.hm.keys (.inl hlt)
    rw [getV_out ho, ho]
    clear ho
    go_enter Try.func48, Try.ntmps48
    go_wp2
    go_ret2
    exact ⟨rfl, Bel.refl w⟩
  by_cases hge : (n : Int) + f ≤ x
  · have ho := hasB_out (x := x) (f := f) H.out.hm.keys (.inr (by omega))
    rw [getV_out ho, ho]
    clear ho
    go_enter Try.func48, Try.ntmps48
    go_wp2_with (go_at_call 53; refine (bcap0 H.out hn f0 f1).mono ?_; rintro e w1 ⟨rfl, hb1⟩)
    go_ret2
    exact ⟨rfl, hb1⟩
  rw [hasB_sh, getV_sh]
  obtain ⟨k, hk⟩ := Int.eq_ofNat_of_zero_le (a := x - f) (by omega)
  rw [hk]
  have hkn : k < n := by omega
  have i0 : IntKind.i64.wrap x = x := IntWalk.i64_in _ (by omega)
  have i1 : IntKind.i64.wrap (x - f) = (k : Int) := by rw [hk]; exact IntWalk.i64_in _ (by omega)
  have i2 : IntKind.i32.wrap (k : Int) = (k : Int) := IntWalk.i32_in _ (by omega)
  have HKK := Lib.hid hk; clear hk
  cases hb : hasB d k
  · rw [getV_out hb]
    have HN := Lib.hid hb; clear hb
    go_enter Try.func48, Try.ntmps48
    go_wp2_with fail
    refine (bcap0 H.out hn f0 f1).mono ?_
    rintro e w1 ⟨rfl, hb1⟩
    have d0 := hb1.cell c0
    have d1 := hb1.cell c1
    clear c0 c1
    have H1 := Lib.hid (mcontains0 (H.out.bel hb1).hm hn k hkn)
    rw [HN.out] at H1
    go_wp2_with fail
    refine H1.out.mono ?_
    rintro e w2 ⟨rfl, rfl⟩
    go_wp2
    go_ret2
    exact ⟨rfl, hb1⟩
  · have HN := Lib.hid hb; clear hb
    go_enter Try.func48, Try.ntmps48
    go_wp2_with fail
    refine (bcap0 H.out hn f0 f1).mono ?_
    rintro e w1 ⟨rfl, hb1⟩
    have d0 := hb1.cell c0
    have d1 := hb1.cell c1
    clear c0 c1
    have H1 := Lib.hid (mcontains0 (H.out.bel hb1).hm hn k hkn)
    have H2 := Lib.hid (mget_any (H.out.bel hb1).hm hn k hkn)
    rw [HN.out] at H1 H2
    go_wp2_with fail
    refine H1.out.mono ?_
    rintro e w2 ⟨rfl, rfl⟩
    go_wp2_with fail
    refine H2.out.mono ?_
    rintro e w2 ⟨rfl, hb2⟩
    go_wp2
    go_ret2
    exact ⟨rfl, hb1.trans hb2⟩
/-- What Set leaves: keys outside change nothing. -/
def bputE (n : Nat) (f : Int) (d : List Pl.Ent) (x v : Int) : List Pl.Ent := if f ≤ x ∧ x < n + f then putE d (x - f) v else d

set_option maxHeartbeats 1000000 in
theorem bset0 {w : World} {base n g gs gb : Nat} {f : Int} {vd : Value} {d : List Pl.Ent} {sp : List Int} (h : BiaW w base n g gs gb f vd d sp) (hn : n ≤ 1000000) (f0 : 0 ≤ f) (f1 : f ≤ 1073741824) {x : Int} (hx : KeyIn x) (v : Int) (hv : Val32 v) :
    Calls Try.prog 44 #[mptr gb, .int .u64 x, .int .i32 v] w fun e w' => (∃ v, e = .returned v) ∧ BiaTo w w' base n g gs gb f vd (bputE n f d x v) := by
  have H := Lib.hid h
  have hbs : base ≤ w.heap.size := by have := h.hg; have := h.hb.lt; omega
  have c0 : w.cell? ⟨gb, 0, none⟩ = some (mptr g) := h.hb.cell 0
  have c1 : w.cell? ⟨gb, 1, none⟩ = some (.int .i64 f) := h.hb.cell 1
  clear h
  obtain ⟨x0, x1⟩ := hx
  unfold bputE
  by_cases hlt : x < f
  · rw [if_neg (by omega)]
    go_enter Try.func44, Try.ntmps44
    go_wp2
    refine bodyPost_ret (results_none rfl _ _ _) rfl ?_
    exact ⟨⟨_, rfl⟩, BiaTo.same H.out (Bel.refl w)⟩
  by_cases hge : (n : Int) + f ≤ x
  · rw [if_neg (by omega)]
    go_enter Try.func44, Try.ntmps44
    go_wp2_with (go_at_call 53; refine (bcap0 H.out hn f0 f1).mono ?_; rintro e w1 ⟨rfl, hb1⟩)
    refine bodyPost_ret (results_none rfl _ _ _) rfl ?_
    exact ⟨⟨_, rfl⟩, BiaTo.same H.out hb1⟩
  rw [if_pos (by omega)]
  obtain ⟨k, hk⟩ := Int.eq_ofNat_of_zero_le (a := x - f) (by omega)
  rw [hk]
  have hkn : k < n := by omega
  have i0 : IntKind.i64.wrap x = x := IntWalk.i64_in _ (by omega)
  have i1 : IntKind.i64.wrap (x - f) = (k : Int) := by rw [hk]; exact IntWalk.i64_in _ (by omega)
  have i2 : IntKind.i32.wrap (k : Int) = (k : Int) := IntWalk.i32_in _ (by omega)
  have HKK := Lib.hid hk; clear hk
  have HV := Lib.hid hv; clear hv
  go_enter Try.func44, Try.ntmps44
  go_wp2_with (go_at_call 53; refine (bcap0 H.out hn f0 f1).mono ?_; rintro e w1 ⟨rfl, hb1⟩)
  have d0 := hb1.cell c0
  have d1 := hb1.cell c1
  have hbz := hb1.size
  clear c0 c1
  have H1 := Lib.hid (H.out.bel hb1)
  have HS := Lib.hid (fun w2 (hs : MapTo w1.drew w2 base n g gs vd (putE d k v)) => (⟨H1.out.hb.kept (BiaTo.of H1.out (Bel.refl w1).drew hs).choose_spec.choose_spec.2.1 H1.out.far, BiaTo.of H.out hb1.drew hs⟩ : Blk w2 gb 95 [mptr g, .int .i64 f] ∧ BiaTo w w2 base n g gs gb f vd (putE d k v)))
  go_region_held3 (fun w' => w'.cell? ⟨gb, 0, none⟩ = some (mptr g) ∧ w'.cell? ⟨gb, 1, none⟩ = some (.int .i64 f)) (first | exact k2 | go_keep)
    (first | (go_at_call 54; refine (mset_any (H1.out.hm.bel (Bel.refl w1).drew) hn (by simp; omega) k hkn v HV.out).mono ?_; rintro e w2 ⟨⟨u, rfl⟩, hs⟩; have HR := Lib.hid (HS.out w2 hs); clear hs; have k2 := And.intro (HR.out.1.cell 0) (HR.out.1.cell 1)))
  go_wp2
  go_end0
  exact ⟨⟨_, rfl⟩, HR.out.2⟩
theorem outE_far {d : List Pl.Ent} {n : Nat} (h : ∀ e ∈ d, 0 ≤ e.1 ∧ e.1 < (n : Int)) {x : Int} (hx : x < 0 ∨ (n : Int) ≤ x) : outE d x = d := outE_not (fun v hv => by have := h _ hv; simp at this; omega)

set_option maxHeartbeats 1000000 in
theorem bremove0 {w : World} {base n g gs gb : Nat} {f : Int} {vd : Value} {d : List Pl.Ent} {sp : List Int} (h : BiaW w base n g gs gb f vd d sp) (hn : n ≤ 1000000) (f0 : 0 ≤ f) (f1 : f ≤ 1073741824) {x : Int} (hx : KeyIn x) :
    Calls Try.prog 46 #[mptr gb, .int .u64 x] w fun e w' => (∃ v, e = .returned v) ∧ BiaTo w w' base n g gs gb f vd (outE d (x - f)) := by
  have H := Lib.hid h
  have c0 : w.cell? ⟨gb, 0, none⟩ = some (mptr g) := h.hb.cell 0
  have c1 : w.cell? ⟨gb, 1, none⟩ = some (.int .i64 f) := h.hb.cell 1
  clear h
  obtain ⟨x0, x1⟩ := hx
  by_cases hlt : x < f
  · rw [outE_far H.out.hm.keys (.inl (by omega))]
    go_enter Try.func46, Try.ntmps46
    go_wp2
    refine bodyPost_ret (results_none rfl _ _ _) rfl ?_
    exact ⟨⟨_, rfl⟩, BiaTo.same H.out (Bel.refl w)⟩
  by_cases hge : (n : Int) + f ≤ x
  · rw [outE_far H.out.hm.keys (.inr (by omega))]
    go_enter Try.func46, Try.ntmps46
    go_wp2_with (go_at_call 53; refine (bcap0 H.out hn f0 f1).mono ?_; rintro e w1 ⟨rfl, hb1⟩)
    refine bodyPost_ret (results_none rfl _ _ _) rfl ?_
    exact ⟨⟨_, rfl⟩, BiaTo.same H.out hb1⟩
  obtain ⟨k, hk⟩ := Int.eq_ofNat_of_zero_le (a := x - f) (by omega)
  rw [hk]
  have hkn : k < n := by omega
  have i0 : IntKind.i64.wrap x = x := IntWalk.i64_in _ (by omega)
  have i1 : IntKind.i64.wrap (x - f) = (k : Int) := by rw [hk]; exact IntWalk.i64_in _ (by omega)
  have i2 : IntKind.i32.wrap (k : Int) = (k : Int) := IntWalk.i32_in _ (by omega)
  have HKK := Lib.hid hk; clear hk
  go_enter Try.func46, Try.ntmps46
  go_wp2_with (go_at_call 53; refine (bcap0 H.out hn f0 f1).mono ?_; rintro e w1 ⟨rfl, hb1⟩)
  have d0 := hb1.cell c0
  have d1 := hb1.cell c1
  clear c0 c1
  have H1 := Lib.hid (H.out.bel hb1)
  have HS := Lib.hid (fun w2 (hs : MapTo w1.drew w2 base n g gs vd (outE d k)) => (⟨H1.out.hb.kept (BiaTo.of H1.out (Bel.refl w1).drew hs).choose_spec.choose_spec.2.1 H1.out.far, BiaTo.of H.out hb1.drew hs⟩ : Blk w2 gb 95 [mptr g, .int .i64 f] ∧ BiaTo w w2 base n g gs gb f vd (outE d k)))
  go_region_held3 (fun w' => w'.cell? ⟨gb, 0, none⟩ = some (mptr g) ∧ w'.cell? ⟨gb, 1, none⟩ = some (.int .i64 f)) (first | exact k2 | go_keep)
    (first | (go_at_call 55; refine (mremove_any (H1.out.hm.bel (Bel.refl w1).drew) hn k hkn).mono ?_; rintro e w2 ⟨⟨u, rfl⟩, hs⟩; have HR := Lib.hid (HS.out w2 hs); clear hs; have k2 := And.intro (HR.out.1.cell 0) (HR.out.1.cell 1)))
  go_wp2
  go_end0
  exact ⟨⟨_, rfl⟩, HR.out.2⟩
theorem bclear0 {w : World} {base n g gs gb : Nat} {f : Int} {vd : Value} {d : List Pl.Ent} {sp : List Int} (h : BiaW w base n g gs gb f vd d sp) :
    Calls Try.prog 49 #[mptr gb] w fun e w' => (∃ v, e = .returned v) ∧ BiaTo w w' base n g gs gb f vd [] := by
  have H := Lib.hid h
  have c0 : w.cell? ⟨gb, 0, none⟩ = some (mptr g) := h.hb.cell 0
  clear h
  go_enter Try.func49, Try.ntmps49
  go_wp2_with (go_at_call 58; refine (mclear0 H.out.hm).mono ?_; rintro e w2 ⟨⟨u, rfl⟩, hs⟩)
  go_end0
  exact ⟨⟨_, rfl⟩, BiaTo.of H.out (Bel.refl w) hs⟩
set_option maxHeartbeats 1000000 in
theorem bentry0 {w : World} {base n g gs gb : Nat} {f : Int} {vd : Value} {d : List Pl.Ent} {sp : List Int} (h : BiaW w base n g gs gb f vd d sp) (hn : n ≤ 1000000) (f0 : 0 ≤ f) (f1 : f ≤ 1073741824) {i : Nat} {e : Pl.Ent} (he : d[i]? = some e) :
    Calls Try.prog 51 #[mptr gb, .int .i64 i] w fun e' w' => e' = .returned (.tuple #[.int .u64 (e.1 + f), .int .i32 e.2]) ∧ Bel w w' := by
  have H := Lib.hid h
  have HCO := Lib.hid (mcontents_any h.hm)
  obtain ⟨k0, k1⟩ := h.hm.keys e (List.mem_of_getElem? he)
  have hil : i < d.length := (List.getElem?_eq_some_iff.1 he).1
  have hle := h.hm.hi.le
  have c0 : w.cell? ⟨gb, 0, none⟩ = some (mptr g) := h.hb.cell 0
  have c1 : w.cell? ⟨gb, 1, none⟩ = some (.int .i64 f) := h.hb.cell 1
  obtain ⟨a, c, rfl, hlc, hcm, hcell⟩ := own_form h.hm.hd
  obtain ⟨gd, rfl, hgd⟩ := hcell (by omega)
  have c2 := hgd _ _ (mapCells_at he).1
  have c3 := hgd _ _ (mapCells_at he).2
  clear hcell hgd h he
  obtain ⟨ek, ev⟩ := e
  simp only at k0 k1 c2 c3 ⊢
  have i1 : IntKind.i64.wrap (ek + f) = ek + f := IntWalk.i64_in _ (by omega)
  have i2 : IntKind.i64.wrap ek = ek := IntWalk.i64_in _ (by omega)
  have i3 : IntKind.u64.wrap (ek + f) = ek + f := IntWalk.u64_in _ (by omega)
  go_enter Try.func51, Try.ntmps51
  go_wp2_with (go_at_call 60; refine HCO.out.mono ?_; rintro e w' ⟨rfl, rfl⟩)
  have hb1 := (Bel.refl w).alloc (.cells #[.int .i32 ek, .int .i32 ev] 112)
  have hB1 := Blk.new w 112 [.int .i32 ek, .int .i32 ev]
  change Blk (w.alloc (.cells #[.int .i32 ek, .int .i32 ev] 112)) _ _ _ at hB1
  generalize w.alloc (.cells #[.int .i32 ek, .int .i32 ev] 112) = w1 at hb1 hB1 ⊢
  have d1 := hb1.cell c1
  have d2 : w1.cell? ⟨w.heap.size, 0, none⟩ = some (.int .i32 ek) := hB1.cell 0
  have d3 : w1.cell? ⟨w.heap.size, 1, none⟩ = some (.int .i32 ev) := hB1.cell 1
  clear hB1 c0 c1 c2 c3
  go_region
  go_wp2
  go_ret2
  exact ⟨rfl, hb1.drew⟩
theorem bnew0 (f : Int) (n : Nat) (w : World) (hn : n ≤ 1000000) (hn0 : 0 < n) (f0 : 0 ≤ f) (f1 : f ≤ 1073741824) :
    Calls Try.prog 34 #[.int .i64 f, .int .i64 (f + n - 1)] w fun e w' => ∃ g gs gb, e = .returned (mptr gb) ∧ BiaW w' w.heap.size n g gs gb f (.slice none 0 0) [] (List.replicate n 0) ∧ Bel w w' := by
  have H := Lib.hid (mnew1 n w hn)
  have e1 : (1 : Int) + (f + (n : Int) - 1) - f = n := by omega
  have e2 : ¬ (f + (n : Int) - 1 < f) := by omega
  generalize hl : f + (n : Int) - 1 = l at e1 e2 ⊢
  have hl0 : f ≤ l := by omega
  have hl1 : l ≤ 1074741824 := by omega
  clear hl
  go_enter Try.func34, Try.ntmps34
  go_wp2_with (go_at_call 42; refine H.out.mono ?_; rintro e w' ⟨g, gs, rfl, hs, hb⟩)
  go_ret
  refine ⟨g, gs, w'.heap.size, rfl, ⟨Blk.new w' _ [_, _], hs.bel ((Bel.refl _).alloc _), hb.size⟩, hb.alloc _⟩
end Go.Proofs.Ytangceejmjklcaa
