/- Bases of files: NewFileBase, newFiles. -/
import Derived.Test.YtbekmpmfkblgnaaDoorPos1
import Derived.Deep.RegionHeld3
import Derived.Deep.RegionLaw
import Derived.Deep.DeepCutAuto
import Derived.Deep.DrawnRows
namespace Go.Proofs.YtbekmpmfkblgnaaDoor
open Go.RowKit

/-- The cells of a base: the position at which it is, the names, line and column, and the index of its file. -/
def baseCells (p : Value) (lc : Int) (nm : ByteArray) (l c : Int) (fi : Int) : List Value :=
  [p, .int .u32 lc, .string nm, .string nm, .int .u64 l, .int .u64 c, .int .i64 (-1), .int .i64 fi]
abbrev ptr (g : Nat) : Value := .pointer (some ⟨g, 0, none⟩)
/-- The base of a file, in block g. -/
def fileBase (g : Nat) (nm : ByteArray) (fi : Int) : List Value := baseCells (ptr g) 4112 nm 1 1 fi

set_option maxHeartbeats 400000 in
theorem newFileBase_any (nm : ByteArray) (w : World) :
    Calls Tryd.prog 11 #[.string nm, .string nm] w fun e w' => ∃ g, e = .returned (ptr g) ∧ w.heap.size ≤ g ∧ Blk w' g 58 (fileBase g nm (-1)) ∧ Bel w w' := by
  go_enter Tryd.func11, Tryd.ntmps11
  go_wp2_with fail
  refine (makePos_any _ 1 1 _ ⟨_, rfl⟩ (by omega) (by omega) (by omega) (by omega)).mono ?_
  rintro e w' ⟨rfl, hb⟩
  have hB : Blk w' w.heap.size 58 (baseCells (.pointer none) 0 nm 1 1 (-1)) := (Blk.new w _ (baseCells (.pointer none) 0 nm 1 1 (-1))).bel hb
  have c0 : w'.cell? ⟨w.heap.size, 0, none⟩ = some (.pointer none) := hB.cell 0
  have c1 : w'.cell? ⟨w.heap.size, 1, none⟩ = some (.int .u32 0) := hB.cell 1
  have f0 := hB.frozen 0
  have f1 := hB.frozen 1
  have HB := Lib.hid hB; clear hB
  go_wp2
  go_ret
  refine ⟨w.heap.size, rfl, Nat.le_refl _, (HB.out.set 0 _).set 1 _, ?_⟩
  have hb0 : Bel w w' := (((Bel.refl w).alloc _).trans hb)
  exact Below.setCell (Below.setCell hb0 (p := ⟨w.heap.size, 0, none⟩) (Nat.le_refl _) _) (p := ⟨w.heap.size, 1, none⟩) (Nat.le_refl _) _

/-- What is known of some bases of files: block gs[i] is the base of the file nms[i], with the index fi i. -/
def Bases (w : World) (gs : List Nat) (nms : List ByteArray) (fi : Nat → Int) : Prop :=
  gs.length = nms.length ∧ gs.Nodup ∧ ∀ i g nm, gs[i]? = some g → nms[i]? = some nm → Blk w g 58 (fileBase g nm (fi i))

theorem Bases.bel {w w' : World} {gs : List Nat} {nms : List ByteArray} {fi : Nat → Int} (h : Bases w gs nms fi) (hb : Bel w w') : Bases w' gs nms fi :=
  ⟨h.1, h.2.1, fun i g nm hg hn => (h.2.2 i g nm hg hn).bel hb⟩

theorem el67 : ElTy 39 46 1 8 := ElTy.mk' (z := .pointer none) Tryd.underlying39 (by kernel_rfl) rfl (by decide)

/-- The slice with address a and n elements reads as the texts ss. -/
def Strs (w : World) (a : Option Addr) (n : Nat) (ss : List ByteArray) : Prop :=
  ss.length = n ∧ (0 < n → ∃ b o, a = some ⟨b, o, none⟩ ∧ ∀ i s, ss[i]? = some s → w.cell? ⟨b, o + i, none⟩ = some (.string s))
theorem Strs.bel {w w' : World} {a : Option Addr} {n : Nat} {ss : List ByteArray} (h : Strs w a n ss) (hb : Bel w w') : Strs w' a n ss :=
  ⟨h.1, fun hn => by
    obtain ⟨b, o, ha, hc⟩ := h.2 hn
    exact ⟨b, o, ha, fun i s hs => hb.cell (hc i s hs)⟩⟩

/-- The files as newFiles makes them: block f, the bases gs; no base is in the table yet. -/
def NewFiles (B : Nat) (w : World) (f : Nat) (gs : List Nat) (nms : List ByteArray) : Prop :=
  ∃ v, B ≤ f ∧ Blk w f 45 [.slice none 0 0, .map none, .map none, v] ∧ w.ownsRow B 46 1 v gs.length (gs.map ptr) ∧ (∀ g ∈ gs, B ≤ g) ∧ Bases w gs nms (fun _ => -1)

theorem newFiles_step {w wr w1 w2 : World} {gs : List Nat} {nms : List ByteArray} {nm : ByteArray} {v : Value} {g g2 cap2 : Nat} {c0 c1 c2 : Value}
    (hbel : Bel w wr) (hblk : Blk wr w.heap.size 45 [c0, c1, c2, v]) (hown : wr.ownsRow w.heap.size 46 1 v gs.length (gs.map ptr))
    (hge : ∀ g ∈ gs, w.heap.size ≤ g) (hbases : Bases wr gs nms (fun _ => -1)) (hb1 : Bel wr.drew w1) (hg : wr.drew.heap.size ≤ g) (hB1 : Blk w1 g 58 (fileBase g nm (-1)))
    (ho2 : w2.ownsRow w.heap.size 46 1 (.slice (some ⟨g2, 0, none⟩) (gs.length + 1) cap2) (gs.length + 1) (gs.map ptr ++ [ptr g])) (hg2 : (w1.alloc (.cells #[ptr g] 46)).grownBy w2 v.ownBlock) :
    ∃ v', (w2.setCell ⟨w.heap.size, 3, none⟩ (.slice (some ⟨g2, 0, none⟩) (gs.length + 1) cap2)).heap.size = w2.heap.size ∧ Blk (w2.setCell ⟨w.heap.size, 3, none⟩ (.slice (some ⟨g2, 0, none⟩) (gs.length + 1) cap2)) w.heap.size 45 [c0, c1, c2, v'] ∧
      (w2.setCell ⟨w.heap.size, 3, none⟩ (.slice (some ⟨g2, 0, none⟩) (gs.length + 1) cap2)).ownsRow w.heap.size 46 1 v' (gs ++ [g]).length ((gs ++ [g]).map ptr) ∧ (∀ k ∈ gs ++ [g], w.heap.size ≤ k) ∧
      Bases (w2.setCell ⟨w.heap.size, 3, none⟩ (.slice (some ⟨g2, 0, none⟩) (gs.length + 1) cap2)) (gs ++ [g]) (nms ++ [nm]) (fun _ => -1) ∧ Bel w (w2.setCell ⟨w.heap.size, 3, none⟩ (.slice (some ⟨g2, 0, none⟩) (gs.length + 1) cap2)) := by
  have hne : v.ownBlock ≠ some w.heap.size := own_ne hown hblk (by decide)
  have hsz := hbel.size
  have hgw : wr.heap.size ≤ g := hg
  have hb1' : Bel wr w1 := (Bel.refl wr).drew.trans hb1
  have hwg : ∀ k, v.ownBlock = some k → w.heap.size ≤ k := fun k hk => (hown.lt k hk).1
  have hblk1 : Blk (w1.alloc (.cells #[ptr g] 46)) w.heap.size 45 [c0, c1, c2, v] := (hblk.bel hb1').alloc _
  have hblk2 : Blk w2 w.heap.size 45 [c0, c1, c2, v] := hblk1.grown hg2 (Ne.symm hne)
  have hgne : ∀ k nm' fi, Blk (w1.alloc (.cells #[ptr g] 46)) k 58 (fileBase k nm' fi) → Blk w2 k 58 (fileBase k nm' fi) := fun k nm' fi h =>
    h.grown hg2 (Ne.symm (own_ne ((own_bel hown hb1').alloc _) h (by decide)))
  have hkne : ∀ k nm' fi, Blk w2 k 58 (fileBase k nm' fi) → Blk (w2.setCell ⟨w.heap.size, 3, none⟩ (.slice (some ⟨g2, 0, none⟩) (gs.length + 1) cap2)) k 58 (fileBase k nm' fi) := fun k nm' fi h =>
    h.far (h.ne hblk2 (by decide)) _
  refine ⟨.slice (some ⟨g2, 0, none⟩) (gs.length + 1) cap2, by simp, hblk2.set 3 _, ?_, ?_, ⟨?_, ?_, ?_⟩, ?_⟩
  · have := ownsRow_setCell_other ho2 (a := ⟨w.heap.size, 3, none⟩) (own_ne ho2 hblk2 (by decide)) (.slice (some ⟨g2, 0, none⟩) (gs.length + 1) cap2)
    exact own_eq this (by simp) (by simp)
  · intro k hk
    rcases List.mem_append.1 hk with h | h
    · exact hge k h
    · simp at h; omega
  · simp [hbases.1]
  · rw [List.nodup_append]
    refine ⟨hbases.2.1, by simp, fun a ha b hb => ?_⟩
    simp at hb
    subst hb
    rintro rfl
    obtain ⟨i, hi, he⟩ := List.getElem_of_mem ha
    have := (hbases.2.2 i a (nms[i]'(by rw [← hbases.1]; exact hi)) (by rw [List.getElem?_eq_getElem hi, he]) (List.getElem?_eq_getElem _)).lt
    omega
  · intro i k nm' hk hn
    by_cases hi : i < gs.length
    · rw [List.getElem?_append_left hi] at hk
      rw [List.getElem?_append_left (by rw [← hbases.1]; exact hi)] at hn
      exact hkne _ _ _ (hgne _ _ _ (((hbases.2.2 i k nm' hk hn).bel hb1').alloc _))
    · have hie : i = gs.length := by
        have := (List.getElem?_eq_some_iff.1 hk).1
        simp at this; omega
      subst hie
      rw [List.getElem?_append_right (Nat.le_refl _)] at hk
      rw [hbases.1, List.getElem?_append_right (Nat.le_refl _)] at hn
      simp at hk hn
      subst hk hn
      exact hkne _ _ _ (hgne _ _ _ (hB1.alloc _))
  · exact Below.setCell (Bel.grown ((hbel.trans hb1').alloc _) hg2 hwg) (p := ⟨w.heap.size, 3, none⟩) (Nat.le_refl _) _

set_option maxRecDepth 100000 in
set_option maxHeartbeats 1000000 in
theorem newFiles_any (a : Option Addr) (n c : Nat) (nms : List ByteArray) (w : World) (h : Strs w a n nms) (hn : n ≤ 1000) :
    Calls Tryd.prog 7 #[.slice a n c] w fun e w' => ∃ f gs, e = .returned (ptr f) ∧ NewFiles w.heap.size w' f gs nms ∧ Bel w w' := by
  have HH := Lib.hid h; clear h
  go_enter Tryd.func7, Tryd.ntmps7
  go_wp2
  go_loopw [10] (fun i wr => ∃ (j : Nat) (gs : List Nat), j ≤ n ∧ i = .int .i64 j ∧ NewFiles w.heap.size wr w.heap.size gs (nms.take j) ∧ Bel w wr) (fun i _ => n - (intOf i).toNat)
  case atStart =>
    refine ⟨0, [], Nat.zero_le _, rfl, ⟨_, Nat.le_refl _, Blk.new w _ [_, _, _, _], World.ownsRow_nil _ _ _ _, by simp, ⟨rfl, List.nodup_nil, by simp⟩⟩, (Bel.refl w).alloc _⟩
  case round =>
    obtain ⟨j, gs, hj, rfl, ⟨v, _, hblk, hown, hge, hbases⟩, hbel⟩ := hrel
    by_cases hlt : j < n
    · obtain ⟨b, o, rfl, hcell⟩ := (HH.out.bel hbel).2 (by omega)
      obtain ⟨nm, hnm⟩ : ∃ nm, nms[j]? = some nm := ⟨_, List.getElem?_eq_getElem (by rw [HH.out.1]; omega)⟩
      have hc0 := hcell j nm hnm
      have c3 : wr.cell? ⟨w.heap.size, 3, none⟩ = some v := hblk.cell 3
      have f3 := hblk.frozen 3
      have hne : v.ownBlock ≠ some w.heap.size := own_ne hown hblk (by decide)
      have HB := Lib.hid hblk; clear hblk
      have HO := Lib.hid hown; clear hown
      have HG := Lib.hid hge; clear hge
      have hgl : gs.length ≤ 1000 := by have := hbases.1; rw [List.length_take, HH.out.1] at this; omega
      have hbs := hbel.size
      have HBS := Lib.hid hbases; clear hbases
      have HCL := Lib.hid hcell; clear hcell
      have HNM := Lib.hid hnm; clear hnm
      go_wp2_with fail
      go_region_law
        (first
          | (refine step_app el67 (by rfl) _ _ (by rfl) w.heap.size v gs.length (gs.map ptr) (by rfl) ((own_bel HO.out.drew hb1).alloc _) w1.heap.size [ptr g] (by rfl) (Blk.new w1 _ [ptr g]) (by rfl) (by simp [Value.oneCell']) (by omega) (by omega) (by simp; omega) ?_; intro g2 cap2 w2 ho2 hg2 hat2 hlt2; obtain ⟨k20, k21⟩ := grown_cf hg2 hne (bel_cf ((Bel.refl w1).alloc _) ⟨k10, k11⟩))
          | (go_simp; go_at_call 11; refine (newFileBase_any nm _).mono ?_; rintro e w1 ⟨g, rfl, hg, hB1, hb1⟩; obtain ⟨k10, k11⟩ := bel_cf (w := wr.drew) hb1 ⟨c3, f3⟩; have k12 := fun o => (bel_cf ((Bel.refl w1).alloc o) ⟨k10, k11⟩).1; have hs1 := hb1.size; simp only [World.size_drew] at hs1))
      all_goals
        obtain ⟨v', _, q1, q2, q3, q4, q5⟩ := newFiles_step hbel HB.out HO.out HG.out HBS.out hb1 hg hB1 ho2 hg2
        have hnn : nms.take j ++ [nm] = nms.take (j + 1) := by rw [List.take_add_one, HNM.out]; rfl
        rw [hnn] at q4
        have HQ := Lib.hid (And.intro q1 (And.intro q2 (And.intro q3 (And.intro q4 q5))))
        clear q1 q2 q3 q4 q5 hnn ho2 hg2 hat2 hB1 hb1 hg k12
        go_wp2
        go_roundw
        case rel => exact ⟨j + 1, gs ++ [g], by omega, by go_num, ⟨v', Nat.le_refl _, HQ.out.1, HQ.out.2.1, HQ.out.2.2.1, HQ.out.2.2.2.1⟩, HQ.out.2.2.2.2⟩
        case measure => simp [intOf]; omega
    · go_wp2
      go_ret
      have hjn : j = n := by omega
      rw [List.take_of_length_le (by rw [HH.out.1]; omega)] at hbases
      exact ⟨w.heap.size, gs, rfl, ⟨v, Nat.le_refl _, hblk, hown, hge, hbases⟩, hbel⟩
end Go.Proofs.YtbekmpmfkblgnaaDoor
