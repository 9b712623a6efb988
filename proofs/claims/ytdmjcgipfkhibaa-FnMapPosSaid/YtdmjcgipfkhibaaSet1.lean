/- The walks of a sparse set's methods. -/
import Derived.Test.YtdmjcgipfkhibaaMem
import Derived.Test.YtdmjcgipfkhibaaPlainSparse
import Derived.RegionTactic
import Derived.BigRegion
import Derived.ChangeAlike
import Derived.Deep.Cut
import Derived.Outline
namespace Go.Proofs.Ytdmjcgipfkhibaa
open Go.RowKit

abbrev ptrTo (g : Nat) : Value := .pointer (some ⟨g, 0, none⟩)
theorem el74 : ElTy 93 86 1 4 := ElTy.mk' (z := .int .i32 0) Try.underlying93 (by kernel_rfl) rfl (by decide)

def idCells (d : List Pl.Ent) : List Value := d.map fun e => .int .i32 e.1
theorem idCells_length (d : List Pl.Ent) : (idCells d).length = d.length := by simp [idCells]

/-- A set in memory: its block, the sparse block, the dense slice. -/
structure SetW (w : World) (base n g gs : Nat) (vd : Value) (d : List Pl.Ent) (sp : List Int) : Prop where
  hg : Blk w g 140 [vd, .slice (some ⟨gs, 0, none⟩) n n]
  hs : Blk w gs 21 (sp.map (Value.int .i32))
  hd : w.ownsRow base 86 1 vd d.length (idCells d)
  hi : Pl.SI n d sp
  hz : ∀ e ∈ d, e.2 = 0
  hb : base ≤ g ∧ base ≤ gs

theorem SetW.bel {w w' : World} {base n g gs : Nat} {vd : Value} {d : List Pl.Ent} {sp : List Int} (h : SetW w base n g gs vd d sp) (hb : Bel w w') : SetW w' base n g gs vd d sp :=
  ⟨h.hg.bel hb, h.hs.bel hb, own_bel h.hd hb, h.hi, h.hz, h.hb⟩

/-- The blocks that a set takes up. -/
def foot (g gs : Nat) (vd : Value) : List Nat := g :: gs :: vd.ownBlock.toList
theorem SetW.foot_ge {w : World} {base n g gs : Nat} {vd : Value} {d : List Pl.Ent} {sp : List Int} (h : SetW w base n g gs vd d sp) : ∀ k ∈ foot g gs vd, base ≤ k ∧ k < w.heap.size := by
  intro k hk
  unfold foot at hk
  rcases List.mem_cons.1 hk with rfl | hk
  · exact ⟨h.hb.1, h.hg.lt⟩
  · rcases List.mem_cons.1 hk with rfl | hk
    · exact ⟨h.hb.2, h.hs.lt⟩
    · have : vd.ownBlock = some k := by cases hv : vd.ownBlock <;> rw [hv] at hk <;> simp at hk; rw [hk]
      exact h.hd.lt k this

/-- The set is behind the call a set with the entries d'. -/
def SetTo (w w' : World) (base n g gs : Nat) (vd : Value) (d' : List Pl.Ent) : Prop :=
  ∃ vd' sp', SetW w' base n g gs vd' d' sp' ∧ Kept (foot g gs vd) w w' ∧ ∀ b, vd'.ownBlock = some b → vd.ownBlock = some b ∨ w.heap.size ≤ b

theorem SetTo.refl {w : World} {base n g gs : Nat} {vd : Value} {d : List Pl.Ent} {sp : List Int} (h : SetW w base n g gs vd d sp) : SetTo w w base n g gs vd d := ⟨vd, sp, h, Kept.refl _ _, fun _ h => .inl h⟩

def inB (d : List Pl.Ent) (x : Int) : Bool := d.any fun e => decide (e.1 = x)
theorem inB_iff {d : List Pl.Ent} {x : Int} : inB d x = true ↔ ∃ v, (x, v) ∈ d := by
  unfold inB
  rw [List.any_eq_true]
  constructor
  · rintro ⟨e, he, hx⟩
    have : e.1 = x := by simpa using hx
    exact ⟨e.2, by rw [← this]; exact he⟩
  · rintro ⟨v, hv⟩
    exact ⟨_, hv, by simp⟩
theorem inB_false {d : List Pl.Ent} {x : Int} (h : ∀ v, (x, v) ∉ d) : inB d x = false := by
  cases hb : inB d x
  · rfl
  · obtain ⟨v, hv⟩ := inB_iff.1 hb
    exact absurd hv (h v)

theorem own_shrink {w : World} {base : Nat} {e : TypeId} {g cap n m : Nat} {xs : List Value} (h : w.ownsRow base e 1 (.slice (some ⟨g, 0, none⟩) n cap) n xs) (hm : m ≤ n) : w.ownsRow base e 1 (.slice (some ⟨g, 0, none⟩) m cap) m (xs.take m) := by
  obtain ⟨hl, h | ⟨g', cap', cur, hv, hb, hh, hn, hc, hs, ht⟩⟩ := h
  · cases h.1
  · injection hv with h1 h2 h3
    injection h1 with h1
    injection h1 with h1 _ _
    subst h1 h3
    refine ⟨by rw [List.length_take]; omega, .inr ⟨g, cap, cur, rfl, hb, hh, by omega, hc, hs, ?_⟩⟩
    rw [← ht, List.take_take]
    congr 1
    omega

/-- What the look-up needs: where the key's place lies. -/
theorem SetW.look {w : World} {base n g gs : Nat} {vd : Value} {d : List Pl.Ent} {sp : List Int} (h : SetW w base n g gs vd d sp) {k : Nat} (hk : k < n) :
    ∃ s : Nat, w.cell? ⟨gs, k, none⟩ = some (.int .i32 s) ∧ ((∃ v, d[s]? = some ((k : Int), v)) ∨ ((∀ v, ((k : Int), v) ∉ d) ∧ (d.length ≤ s ∨ ∃ e, d[s]? = some e ∧ e.1 ≠ (k : Int)))) := by
  obtain ⟨s, hs, hr⟩ := h.hi.find (x := (k : Int)) (by omega) (by omega)
  refine ⟨s, ?_, hr⟩
  rw [h.hs.cell k, List.getElem?_map]
  rw [Int.toNat_natCast] at hs
  rw [hs]; rfl

theorem idCells_at {d : List Pl.Ent} {j : Nat} {e : Pl.Ent} (h : d[j]? = some e) : (idCells d)[j]? = some (.int .i32 e.1) := by
  unfold idCells; rw [List.getElem?_map, h]; rfl

set_option maxHeartbeats 400000 in
theorem contains_any {w : World} {base n g gs : Nat} {vd : Value} {d : List Pl.Ent} {sp : List Int} (h : SetW w base n g gs vd d sp) (hn : n ≤ 1000000) (k : Nat) (hk : k < n) :
    Calls Try.prog 82 #[ptrTo g, .int .i32 k] w fun e w' => e = .returned (.bool (inB d k)) ∧ w = w' := by
  obtain ⟨s, hcs, hfind⟩ := h.look hk
  have c0 : w.cell? ⟨g, 0, none⟩ = some vd := h.hg.cell 0
  have c1 : w.cell? ⟨g, 1, none⟩ = some (.slice (some ⟨gs, 0, none⟩) n n) := h.hg.cell 1
  obtain ⟨a, c, rfl, hlc, hcm, hcell⟩ := own_form h.hd
  have hle := h.hi.le
  have H := Lib.hid h; clear h
  rcases hfind with ⟨v, hv⟩ | ⟨hno, hs | ⟨e, he, hne⟩⟩
  · have hsl : s < d.length := (List.getElem?_eq_some_iff.1 hv).1
    obtain ⟨gd, rfl, hgd⟩ := hcell (by omega)
    have c2 := hgd s _ (idCells_at hv)
    rw [inB_iff.2 ⟨v, List.mem_of_getElem? hv⟩]
    clear hgd hv
    generalize d.length = dl at *
    go_enter Try.func82, Try.ntmps82
    go_wp2
    go_ret
    exact ⟨rfl, rfl⟩
  · rw [inB_false hno]
    have hd : decide ((s : Int) < (d.length : Int)) = false := by simp; omega
    clear hcell hno
    generalize d.length = dl at *
    go_enter Try.func82, Try.ntmps82
    go_wp2
    go_ret
    exact ⟨rfl, rfl⟩
  · have hsl : s < d.length := (List.getElem?_eq_some_iff.1 he).1
    obtain ⟨gd, rfl, hgd⟩ := hcell (by omega)
    have c2 := hgd s _ (idCells_at he)
    rw [inB_false hno]
    have hne' : (e.1 == (k : Int)) = false := by simpa using hne
    clear hgd he hno hne
    generalize d.length = dl at *
    go_enter Try.func82, Try.ntmps82
    go_wp2
    go_ret
    exact ⟨rfl, rfl⟩

def addE (d : List Pl.Ent) (x : Int) : List Pl.Ent := if inB d x then d else d ++ [(x, 0)]

theorem SetW.added {w w1 : World} {base n g gs : Nat} {vd v1 : Value} {d : List Pl.Ent} {sp : List Int} (h : SetW w base n g gs vd d sp) {k : Nat} (hk : k < n) (hno : ∀ v, ((k : Int), v) ∉ d)
    (ho : w1.ownsRow base 86 1 v1 (d.length + 1) (idCells d ++ [.int .i32 k])) (hg : w.grownBy w1 vd.ownBlock) (hat : v1.ownBlock = vd.ownBlock ∨ v1.ownBlock = some (w.heap.size + 1)) :
    SetTo w (((w1.setCell ⟨g, 0, none⟩ v1).setCell ⟨gs, k, none⟩ (.int .i32 d.length)).drew) base n g gs vd (addE d k) := by
  have hne := own_ne h.hd h.hg (by decide)
  have hne2 := own_ne h.hd h.hs (by decide)
  have hgs : g ≠ gs := h.hg.ne h.hs (by decide)
  have hB1 : Blk w1 g 140 [vd, .slice (some ⟨gs, 0, none⟩) n n] := h.hg.grown hg (fun e => hne e.symm)
  have hS1 := h.hs.grown hg (fun e => hne2 e.symm)
  have ho1 := own_ne ho hB1 (by decide)
  have ho2 := own_ne ho hS1 (by decide)
  have e1 : addE d k = d ++ [((k : Int), 0)] := by unfold addE; rw [inB_false hno]; rfl
  rw [e1]
  refine ⟨v1, sp.set k (d.length : Int), ⟨?_, ?_, ?_, ?_, ?_, h.hb⟩, ?_, ?_⟩
  · exact ((hB1.set 0 v1).far (by simpa using hgs) _).drew
  · have := (hS1.far (p := ⟨g, 0, none⟩) (by simpa using hgs.symm) v1).set k (.int .i32 d.length)
    rw [List.map_set]
    exact this
  · have : idCells (d ++ [((k : Int), 0)]) = idCells d ++ [.int .i32 k] := by simp [idCells]
    rw [this, List.length_append]
    have h1 := ownsRow_setCell_other ho (a := ⟨g, 0, none⟩) ho1 v1
    exact (ownsRow_setCell_other h1 (a := ⟨gs, k, none⟩) ho2 _).drew
  · have := h.hi.push (x := (k : Int)) (by omega) (by omega) hno 0
    rwa [Int.toNat_natCast] at this
  · intro e he
    rcases List.mem_append.1 he with he | he
    · exact h.hz e he
    · simp at he; rw [he]
  · have h0 : Kept (foot g gs vd) w w1 := (Kept.refl _ w).grown hg (fun b hb => .inl (by unfold foot; rw [hb]; simp))
    exact ((h0.setCell (p := ⟨g, 0, none⟩) (.inl (by simp [foot])) _).setCell (p := ⟨gs, k, none⟩) (.inl (by simp [foot])) _).drew
  · intro b hb
    rcases hat with hat | hat
    · exact .inl (by rw [← hat]; exact hb)
    · rw [hat] at hb; cases hb; exact .inr (by omega)

set_option maxHeartbeats 1000000 in
theorem add_any {w : World} {base n g gs : Nat} {vd : Value} {d : List Pl.Ent} {sp : List Int} (h : SetW w base n g gs vd d sp) (hn : n ≤ 1000000) (hbase : base ≤ w.heap.size) (k : Nat) (hk : k < n) :
    Calls Try.prog 116 #[ptrTo g, .int .i32 k] w fun e w' => (∃ v, e = .returned v) ∧ SetTo w w' base n g gs vd (addE d k) := by
  obtain ⟨s, hcs, hfind⟩ := h.look hk
  have c0 : w.cell? ⟨g, 0, none⟩ = some vd := h.hg.cell 0
  have c1 : w.cell? ⟨g, 1, none⟩ = some (.slice (some ⟨gs, 0, none⟩) n n) := h.hg.cell 1
  have f0 : w.frozen? ⟨g, 0, none⟩ = false := h.hg.frozen 0
  have fs : w.frozen? ⟨gs, k, none⟩ = false := h.hs.frozen k
  obtain ⟨a, c, hvd, hlc, hcm, hcell⟩ := own_form h.hd
  have hle := h.hi.le
  have H := Lib.hid h; clear h
  rcases hfind with ⟨v, hv⟩ | ⟨hno, hs⟩
  · subst hvd
    have hsl : s < d.length := (List.getElem?_eq_some_iff.1 hv).1
    obtain ⟨gd, rfl, hgd⟩ := hcell (by omega)
    have c2 := hgd s _ (idCells_at hv)
    have e1 : addE d k = d := by unfold addE; rw [inB_iff.2 ⟨v, List.mem_of_getElem? hv⟩]; rfl
    rw [e1]
    clear hgd hv e1
    generalize hdl : d.length = dl at *
    have HDL := Lib.hid hdl; clear hdl
    go_enter Try.func116, Try.ntmps116
    go_wp2
    refine bodyPost_ret (results_none rfl _ _ _) rfl ?_
    exact ⟨⟨_, rfl⟩, SetTo.refl H.out⟩
  · have HNO := Lib.hid hno; clear hno
    have hgs : g ≠ gs := H.out.hg.ne H.out.hs (by decide)
    have HG : Hid (∀ w1, w.grownBy w1 vd.ownBlock → Blk w1 g 140 [vd, .slice (some ⟨gs, 0, none⟩) n n] ∧ Blk w1 gs 21 (sp.map (Value.int .i32))) := Lib.hid (fun w1 hg => ⟨H.out.hg.grown hg (fun e => own_ne H.out.hd H.out.hg (by decide) e.symm), H.out.hs.grown hg (fun e => own_ne H.out.hd H.out.hs (by decide) e.symm)⟩)
    have HCS : Hid ((sp.map (Value.int .i32))[k]? = some (Value.int .i32 s)) := Lib.hid (by rw [← H.out.hs.cell k]; exact hcs)
    rcases hs with hs | ⟨e, he, hne⟩
    · have hd : decide ((s : Int) < (d.length : Int)) = false := by simp; omega
      subst hvd
      clear hcell
      go_enter Try.func116, Try.ntmps116
      go_wp2_with (at_builtin; refine wpList_push el74 rfl (.tmp 35) (.tmp 37) rfl base _ d.length (idCells d) rfl H.out.hd [.int .i32 k] w.heap.size rfl rfl rfl (by simp [Value.oneCell']) (by omega) (by omega) hbase ?_)
      intro v1 w1 ho1 hg1 hat1
      obtain ⟨hB1, hS1⟩ := HG.out w1 hg1
      have HT := Lib.hid (H.out.added hk HNO.out ho1 hg1 hat1)
      obtain ⟨a1, q1, rfl, _, _, _⟩ := own_form ho1
      clear ho1 hg1 hat1
      have b0 : w1.cell? ⟨g, 0, none⟩ = some _ := hB1.cell 0
      have b0f : w1.frozen? ⟨g, 0, none⟩ = false := hB1.frozen 0
      have hB2 := hB1.set 0 (.slice a1 (d.length + 1) q1)
      have hS2 := hS1.far (p := ⟨g, 0, none⟩) (by simpa using hgs.symm) (.slice a1 (d.length + 1) q1)
      simp only [List.set_cons_zero] at hB2
      go_upto_region 3 with (fail)
      generalize w1.setCell ⟨g, 0, none⟩ (.slice a1 (d.length + 1) q1) = w2 at hB2 hS2 HT ⊢
      have d0 : w2.cell? ⟨g, 0, none⟩ = some (.slice a1 (d.length + 1) q1) := hB2.cell 0
      have d1 : w2.cell? ⟨g, 1, none⟩ = some (.slice (some ⟨gs, 0, none⟩) n n) := hB2.cell 1
      have d2 : w2.cell? ⟨gs, k, none⟩ = some (.int .i32 s) := by rw [hS2.cell k]; exact HCS.out
      have d2f : w2.frozen? ⟨gs, k, none⟩ = false := hS2.frozen k
      clear hB1 hS1 hB2 hS2 b0 b0f c0 c1 f0 fs hcs
      have i0 : (0 : Int) ≤ (k : Int) := by omega
      have i1 : (k : Int) < (n : Int) := by omega
      go_region
      go_wp2
      go_end0
      exact ⟨⟨_, rfl⟩, HT.out⟩
    · have hsl : s < d.length := (List.getElem?_eq_some_iff.1 he).1
      subst hvd
      obtain ⟨gd, rfl, hgd⟩ := hcell (by omega)
      have c2 := hgd s _ (idCells_at he)
      have hne' : (e.1 == (k : Int)) = false := by simpa using hne
      clear hgd he hne hcell
      go_enter Try.func116, Try.ntmps116
      go_wp2_with (at_builtin; refine wpList_push el74 rfl (.tmp 35) (.tmp 37) rfl base _ d.length (idCells d) rfl H.out.hd [.int .i32 k] w.heap.size rfl rfl rfl (by simp [Value.oneCell']) (by omega) (by omega) hbase ?_)
      intro v1 w1 ho1 hg1 hat1
      obtain ⟨hB1, hS1⟩ := HG.out w1 hg1
      have HT := Lib.hid (H.out.added hk HNO.out ho1 hg1 hat1)
      obtain ⟨a1, q1, rfl, _, _, _⟩ := own_form ho1
      clear ho1 hg1 hat1
      have b0 : w1.cell? ⟨g, 0, none⟩ = some _ := hB1.cell 0
      have b0f : w1.frozen? ⟨g, 0, none⟩ = false := hB1.frozen 0
      have hB2 := hB1.set 0 (.slice a1 (d.length + 1) q1)
      have hS2 := hS1.far (p := ⟨g, 0, none⟩) (by simpa using hgs.symm) (.slice a1 (d.length + 1) q1)
      simp only [List.set_cons_zero] at hB2
      go_upto_region 3 with (fail)
      generalize w1.setCell ⟨g, 0, none⟩ (.slice a1 (d.length + 1) q1) = w2 at hB2 hS2 HT ⊢
      have d0 : w2.cell? ⟨g, 0, none⟩ = some (.slice a1 (d.length + 1) q1) := hB2.cell 0
      have d1 : w2.cell? ⟨g, 1, none⟩ = some (.slice (some ⟨gs, 0, none⟩) n n) := hB2.cell 1
      have d2 : w2.cell? ⟨gs, k, none⟩ = some (.int .i32 s) := by rw [hS2.cell k]; exact HCS.out
      have d2f : w2.frozen? ⟨gs, k, none⟩ = false := hS2.frozen k
      clear hB1 hS1 hB2 hS2 b0 b0f c0 c1 f0 fs hcs
      have i0 : (0 : Int) ≤ (k : Int) := by omega
      have i1 : (k : Int) < (n : Int) := by omega
      go_region
      go_wp2
      go_end0
      exact ⟨⟨_, rfl⟩, HT.out⟩

/-- A key is taken out: the last entry goes to its place. -/
def remE (d : List Pl.Ent) (x : Int) : List Pl.Ent := match d.findIdx? (fun e => decide (e.1 = x)) with | some i => Pl.swapOut d i | none => d

theorem remE_not {d : List Pl.Ent} {x : Int} (h : ∀ v, (x, v) ∉ d) : remE d x = d := by
  unfold remE
  cases hf : d.findIdx? (fun e => decide (e.1 = x)) with
  | none => rfl
  | some i =>
    obtain ⟨hi, hp, _⟩ := List.findIdx?_eq_some_iff_getElem.1 hf
    have : d[i].1 = x := by simpa using hp
    exact absurd (List.getElem_mem hi) (by rw [show d[i] = (x, d[i].2) from by rw [← this]]; exact h _)
theorem remE_at {d : List Pl.Ent} (hn : d.Pairwise (fun a b => a.1 ≠ b.1)) {x v : Int} {i : Nat} (h : d[i]? = some (x, v)) : remE d x = Pl.swapOut d i := by
  unfold remE
  obtain ⟨hi, hie⟩ := List.getElem?_eq_some_iff.1 h
  have : d.findIdx? (fun e => decide (e.1 = x)) = some i := by
    rw [List.findIdx?_eq_some_iff_getElem]
    refine ⟨hi, by simp [hie], fun j hj => ?_⟩
    have := List.pairwise_iff_getElem.1 hn j i (by omega) hi hj
    rw [hie] at this
    simpa using this
  rw [this]

theorem SetW.removed {w : World} {base n g gs gd cap : Nat} {d : List Pl.Ent} {sp : List Int} (h : SetW w base n g gs (.slice (some ⟨gd, 0, none⟩) d.length cap) d sp) {k : Nat} {s : Nat} {v : Int} (hs : d[s]? = some ((k : Int), v)) {y : Pl.Ent} (hy : d[d.length - 1]? = some y) :
    SetTo w (((((w.setCell ⟨gd, s, none⟩ (.int .i32 y.1)).drew).setCell ⟨gs, y.1.toNat, none⟩ (.int .i32 s)).setCell ⟨g, 0, none⟩ (.slice (some ⟨gd, 0, none⟩) (d.length - 1) cap)).drew) base n g gs (.slice (some ⟨gd, 0, none⟩) d.length cap) (remE d k) := by
  have hsl : s < d.length := (List.getElem?_eq_some_iff.1 hs).1
  have hgs : g ≠ gs := h.hg.ne h.hs (by decide)
  have hne : gd ≠ g := fun e => own_ne h.hd h.hg (by decide) (by rw [← e]; rfl)
  have hne2 : gd ≠ gs := fun e => own_ne h.hd h.hs (by decide) (by rw [← e]; rfl)
  rw [remE_at h.hi.nodup hs]
  refine ⟨.slice (some ⟨gd, 0, none⟩) (d.length - 1) cap, sp.set y.1.toNat (s : Int), ⟨?_, ?_, ?_, h.hi.out hsl hy, ?_, h.hb⟩, ?_, fun b hb => .inl hb⟩
  · exact (((h.hg.far (p := ⟨gd, s, none⟩) (by simpa using hne.symm) _).drew.far (p := ⟨gs, y.1.toNat, none⟩) (by simpa using hgs) _).set 0 _).drew
  · have := ((h.hs.far (p := ⟨gd, s, none⟩) (by simpa using hne2.symm) (.int .i32 y.1)).drew.set y.1.toNat (.int .i32 s)).far (p := ⟨g, 0, none⟩) (by simpa using hgs.symm) (.slice (some ⟨gd, 0, none⟩) (d.length - 1) cap)
    rw [List.map_set]
    exact this
  · have h1 := (h.hd.stored s (.int .i32 y.1)).1.drew
    have h2 := ownsRow_setCell_other h1 (a := ⟨gs, y.1.toNat, none⟩) (by simp [Value.ownBlock]; exact hne2) (.int .i32 s)
    have h3 := own_shrink (ownsRow_setCell_other h2 (a := ⟨g, 0, none⟩) (by simp [Value.ownBlock]; exact hne) (.slice (some ⟨gd, 0, none⟩) (d.length - 1) cap)) (m := d.length - 1) (by omega)
    have e1 : ((idCells d).set s (.int .i32 y.1)).take (d.length - 1) = idCells (Pl.swapOut d s) := by
      unfold Pl.swapOut idCells
      rw [List.map_take, List.map_set, List.getD_eq_getElem?_getD, hy]
      rfl
    rw [e1] at h3
    rw [Pl.swapOut_length hsl]
    exact h3.drew
  · intro e he
    exact h.hz e ((Pl.mem_swapOut h.hi.nodup hsl e).1 he).1
  · exact ((((Kept.refl _ w).setCell (p := ⟨gd, s, none⟩) (.inl (by simp [foot, Value.ownBlock])) _).drew.setCell (p := ⟨gs, y.1.toNat, none⟩) (.inl (by simp [foot])) _).setCell (p := ⟨g, 0, none⟩) (.inl (by simp [foot])) _).drew

set_option maxHeartbeats 1000000 in
theorem remove_any {w : World} {base n g gs : Nat} {vd : Value} {d : List Pl.Ent} {sp : List Int} (h : SetW w base n g gs vd d sp) (hn : n ≤ 1000000) (k : Nat) (hk : k < n) :
    Calls Try.prog 117 #[ptrTo g, .int .i32 k] w fun e w' => (∃ v, e = .returned v) ∧ SetTo w w' base n g gs vd (remE d k) := by
  obtain ⟨s, hcs, hfind⟩ := h.look hk
  have c0 : w.cell? ⟨g, 0, none⟩ = some vd := h.hg.cell 0
  have c1 : w.cell? ⟨g, 1, none⟩ = some (.slice (some ⟨gs, 0, none⟩) n n) := h.hg.cell 1
  have f0 : w.frozen? ⟨g, 0, none⟩ = false := h.hg.frozen 0
  obtain ⟨a, c, hvd, hlc, hcm, hcell⟩ := own_form h.hd
  have hle := h.hi.le
  have H := Lib.hid h; clear h
  rcases hfind with ⟨v, hv⟩ | ⟨hno, hs⟩
  · subst hvd
    have hsl : s < d.length := (List.getElem?_eq_some_iff.1 hv).1
    obtain ⟨gd, rfl, hgd⟩ := hcell (by omega)
    obtain ⟨y, hy⟩ : ∃ y, d[d.length - 1]? = some y := ⟨_, List.getElem?_eq_getElem (by omega)⟩
    have c2 := hgd s _ (idCells_at hv)
    have c3 := hgd (d.length - 1) _ (idCells_at hy)
    have f2 : w.frozen? ⟨gd, s, none⟩ = false := H.out.hd.frozenAt s
    have HR := Lib.hid (H.out.removed hv hy)
    obtain ⟨ky, hky⟩ := Int.eq_ofNat_of_zero_le (H.out.hi.ix _ y hy).1
    have hkyn : ky < n := by have := (H.out.hi.ix _ y hy).2.1; omega
    have fy : w.frozen? ⟨gs, ky, none⟩ = false := H.out.hs.frozen ky
    have cy : ∃ t : Int, w.cell? ⟨gs, ky, none⟩ = some (.int .i32 t) := by
      rw [H.out.hs.cell ky, List.getElem?_map, List.getElem?_eq_getElem (show ky < sp.length by rw [H.out.hi.len]; exact hkyn)]
      exact ⟨_, rfl⟩
    obtain ⟨ty, cy⟩ := cy
    have hgs : g ≠ gs := H.out.hg.ne H.out.hs (by decide)
    have hne : gd ≠ g := fun e => own_ne H.out.hd H.out.hg (by decide) (by rw [← e]; rfl)
    have hne2 : gd ≠ gs := fun e => own_ne H.out.hd H.out.hs (by decide) (by rw [← e]; rfl)
    rw [hky] at c3 HR
    rw [Int.toNat_natCast] at HR
    clear hgd hv hy hky hcell
    have i1 : (0 : Int) ≤ (d.length : Int) - 1 := by omega
    have i2 : (d.length : Int) - 1 < (d.length : Int) := by omega
    have i3 : ((d.length : Int) - 1).toNat = d.length - 1 := by omega
    have i4 : IntKind.i64.wrap ((d.length : Int) - 1) = (d.length : Int) - 1 := IntWalk.i64_in _ (by omega)
    go_enter Try.func117, Try.ntmps117
    go_upto_region 2 with (fail)
    go_region
    go_upto_region 4 with (fail)
    have hB2 := (H.out.hg.far (p := ⟨gd, s, none⟩) (by simpa using hne.symm) (.int .i32 ky)).drew
    have hS2 := (H.out.hs.far (p := ⟨gd, s, none⟩) (by simpa using hne2.symm) (.int .i32 ky)).drew
    generalize (w.setCell ⟨gd, s, none⟩ (.int .i32 ky)).drew = w2 at hB2 hS2 HR ⊢
    have d1 : w2.cell? ⟨g, 1, none⟩ = some (.slice (some ⟨gs, 0, none⟩) n n) := hB2.cell 1
    have d2 : w2.cell? ⟨gs, ky, none⟩ = some (.int .i32 ty) := by rw [hS2.cell ky, ← H.out.hs.cell ky]; exact cy
    have d2f : w2.frozen? ⟨gs, ky, none⟩ = false := hS2.frozen ky
    clear c0 c1 c2 c3 f0 f2 fy cy hcs
    go_upto_region 5 with (fail)
    have hB3 := hB2.far (p := ⟨gs, ky, none⟩) (by simpa using hgs) (.int .i32 s)
    generalize w2.setCell ⟨gs, ky, none⟩ (.int .i32 s) = w3 at hB3 HR ⊢
    have e0 : w3.cell? ⟨g, 0, none⟩ = some (.slice (some ⟨gd, 0, none⟩) d.length c) := hB3.cell 0
    have e0f : w3.frozen? ⟨g, 0, none⟩ = false := hB3.frozen 0
    clear d1 d2 d2f hB2 hS2 hB3
    have i5 : (d.length : Int) - 1 ≤ (c : Int) := by omega
    go_region
    go_wp2
    go_end0
    exact ⟨⟨_, rfl⟩, HR.out⟩
  · rw [remE_not hno]
    clear hno
    rcases hs with hs | ⟨e, he, hne⟩
    · subst hvd
      have hd : decide ((s : Int) < (d.length : Int)) = false := by simp; omega
      clear hcell
      go_enter Try.func117, Try.ntmps117
      go_wp2
      go_end0
      exact ⟨⟨_, rfl⟩, SetTo.refl H.out⟩
    · subst hvd
      have hsl : s < d.length := (List.getElem?_eq_some_iff.1 he).1
      obtain ⟨gd, rfl, hgd⟩ := hcell (by omega)
      have c2 := hgd s _ (idCells_at he)
      have hne' : (e.1 == (k : Int)) = false := by simpa using hne
      clear hgd he hne hcell
      go_enter Try.func117, Try.ntmps117
      go_wp2
      go_end0
      exact ⟨⟨_, rfl⟩, SetTo.refl H.out⟩

/-- The dense slice shrinks to its first m entries. -/
theorem SetW.shrunk {w : World} {base n g gs gd cap : Nat} {d : List Pl.Ent} {sp : List Int} (h : SetW w base n g gs (.slice (some ⟨gd, 0, none⟩) d.length cap) d sp) {m : Nat} (hm : m ≤ d.length) :
    SetTo w (w.setCell ⟨g, 0, none⟩ (.slice (some ⟨gd, 0, none⟩) m cap)) base n g gs (.slice (some ⟨gd, 0, none⟩) d.length cap) (d.take m) := by
  have hgs : g ≠ gs := h.hg.ne h.hs (by decide)
  have hne : gd ≠ g := fun e => own_ne h.hd h.hg (by decide) (by rw [← e]; rfl)
  refine ⟨.slice (some ⟨gd, 0, none⟩) m cap, sp, ⟨h.hg.set 0 _, h.hs.far (p := ⟨g, 0, none⟩) (by simpa using hgs.symm) _, ?_, h.hi.pop m, fun e he => h.hz e (List.mem_of_mem_take he), h.hb⟩, (Kept.refl _ w).setCell (p := ⟨g, 0, none⟩) (.inl (by simp [foot])) _, fun b hb => .inl hb⟩
  have h3 := own_shrink (ownsRow_setCell_other h.hd (a := ⟨g, 0, none⟩) (by simp [Value.ownBlock]; exact hne) (.slice (some ⟨gd, 0, none⟩) m cap)) (m := m) hm
  rw [List.length_take, Nat.min_eq_left hm]
  have e1 : (idCells d).take m = idCells (d.take m) := by simp [idCells, List.map_take]
  rw [e1] at h3
  exact h3
theorem SetTo.drew {w w' : World} {base n g gs : Nat} {vd : Value} {d : List Pl.Ent} (h : SetTo w w' base n g gs vd d) : SetTo w w'.drew base n g gs vd d := by
  obtain ⟨vd', sp', h1, h2, h3⟩ := h
  exact ⟨vd', sp', h1.bel (Bel.refl w').drew, h2.drew, h3⟩
theorem SetTo.of_bel {w w1 w' : World} {base n g gs : Nat} {vd : Value} {d : List Pl.Ent} (hb : Bel w w1) (h : SetTo w1 w' base n g gs vd d) : SetTo w w' base n g gs vd d := by
  obtain ⟨vd', sp', h1, h2, h3⟩ := h
  exact ⟨vd', sp', h1, (Kept.of_bel hb).trans h2 (fun i hi => .inl hi), fun b hb' => (h3 b hb').imp id (fun hx => Nat.le_trans hb.size hx)⟩

set_option maxHeartbeats 1000000 in
theorem pop_any {w : World} {base n g gs : Nat} {vd : Value} {d : List Pl.Ent} {sp : List Int} (h : SetW w base n g gs vd d sp) (hn : n ≤ 1000000) {y : Pl.Ent} (hy : d[d.length - 1]? = some y) :
    Calls Try.prog 121 #[ptrTo g] w fun e w' => e = .returned (.int .i32 y.1) ∧ SetTo w w' base n g gs vd (d.take (d.length - 1)) := by
  have hl : 0 < d.length := by have := (List.getElem?_eq_some_iff.1 hy).1; omega
  have c0 : w.cell? ⟨g, 0, none⟩ = some vd := h.hg.cell 0
  have f0 : w.frozen? ⟨g, 0, none⟩ = false := h.hg.frozen 0
  obtain ⟨a, c, rfl, hlc, hcm, hcell⟩ := own_form h.hd
  have hle := h.hi.le
  obtain ⟨gd, rfl, hgd⟩ := hcell hl
  have c3 := hgd (d.length - 1) _ (idCells_at hy)
  have HR := Lib.hid ((h.bel (Bel.refl w).drew).shrunk (m := d.length - 1) (by omega)).drew
  clear hgd hy hcell h
  have i1 : (0 : Int) ≤ (d.length : Int) - 1 := by omega
  have i2 : (d.length : Int) - 1 < (d.length : Int) := by omega
  have i3 : ((d.length : Int) - 1).toNat = d.length - 1 := by omega
  have i4 : IntKind.i64.wrap ((d.length : Int) - 1) = (d.length : Int) - 1 := IntWalk.i64_in _ (by omega)
  have i5 : (d.length : Int) - 1 ≤ (c : Int) := by omega
  go_enter Try.func121, Try.ntmps121
  go_upto_region 1 with (fail)
  go_region
  go_wp2
  go_region
  go_wp2
  go_ret
  exact ⟨rfl, SetTo.of_bel (Bel.refl w).drew HR.out⟩

set_option maxHeartbeats 1000000 in
theorem clear_any {w : World} {base n g gs : Nat} {vd : Value} {d : List Pl.Ent} {sp : List Int} (h : SetW w base n g gs vd d sp) :
    Calls Try.prog 84 #[ptrTo g] w fun e w' => (∃ v, e = .returned v) ∧ SetTo w w' base n g gs vd [] := by
  have c0 : w.cell? ⟨g, 0, none⟩ = some vd := h.hg.cell 0
  have f0 : w.frozen? ⟨g, 0, none⟩ = false := h.hg.frozen 0
  have H := Lib.hid h
  rcases h.hd.2 with ⟨rfl, hd0⟩ | ⟨gd, cap, cur, rfl, _, _, hc, _⟩
  · clear h
    have hd1 : d = [] := List.length_eq_zero_iff.1 hd0
    subst hd1
    have hB := H.out.hg.set 0 (.slice none 0 0)
    have hgs : g ≠ gs := H.out.hg.ne H.out.hs (by decide)
    have HR : Hid (SetTo w (w.setCell ⟨g, 0, none⟩ (.slice none 0 0)) base n g gs (.slice none 0 0) []) := Lib.hid ⟨.slice none 0 0, sp, ⟨hB, H.out.hs.far (p := ⟨g, 0, none⟩) (by simpa using hgs.symm) _, World.ownsRow_nil _ _ _ _, H.out.hi, by simp, H.out.hb⟩, (Kept.refl _ w).setCell (p := ⟨g, 0, none⟩) (.inl (by simp [foot])) _, fun b hb => .inl hb⟩
    clear hB H
    go_enter Try.func84, Try.ntmps84
    go_wp2
    go_end0
    exact ⟨⟨_, rfl⟩, HR.out⟩
  · have HR := Lib.hid (h.shrunk (m := 0) (Nat.zero_le _))
    clear h H
    go_enter Try.func84, Try.ntmps84
    go_wp2
    go_end0
    exact ⟨⟨_, rfl⟩, HR.out⟩

theorem size_any {w : World} {base n g gs : Nat} {vd : Value} {d : List Pl.Ent} {sp : List Int} (h : SetW w base n g gs vd d sp) :
    Calls Try.prog 83 #[ptrTo g] w fun e w' => e = .returned (.int .i64 d.length) ∧ w = w' := by
  have c0 : w.cell? ⟨g, 0, none⟩ = some vd := h.hg.cell 0
  obtain ⟨a, c, rfl, _, _, _⟩ := own_form h.hd
  clear h
  go_enter Try.func83, Try.ntmps83
  go_wp2
  go_ret
  exact ⟨rfl, rfl⟩
theorem cap_any {w : World} {base n g gs : Nat} {vd : Value} {d : List Pl.Ent} {sp : List Int} (h : SetW w base n g gs vd d sp) :
    Calls Try.prog 89 #[ptrTo g] w fun e w' => e = .returned (.int .i64 n) ∧ w = w' := by
  have c1 : w.cell? ⟨g, 1, none⟩ = some (.slice (some ⟨gs, 0, none⟩) n n) := h.hg.cell 1
  clear h
  go_enter Try.func89, Try.ntmps89
  go_wp2
  go_ret
  exact ⟨rfl, rfl⟩
theorem contents_any {w : World} {base n g gs : Nat} {vd : Value} {d : List Pl.Ent} {sp : List Int} (h : SetW w base n g gs vd d sp) :
    Calls Try.prog 86 #[ptrTo g] w fun e w' => e = .returned vd ∧ w = w' := by
  have c0 : w.cell? ⟨g, 0, none⟩ = some vd := h.hg.cell 0
  clear h
  go_enter Try.func86, Try.ntmps86
  go_wp2
  go_ret
  exact ⟨rfl, rfl⟩

theorem Add_any {w : World} {base n g gs : Nat} {vd : Value} {d : List Pl.Ent} {sp : List Int} (h : SetW w base n g gs vd d sp) (hn : n ≤ 1000000) (hbase : base ≤ w.heap.size) (k : Nat) (hk : k < n) :
    Calls Try.prog 80 #[ptrTo g, .int .i32 k] w fun e w' => (∃ v, e = .returned v) ∧ SetTo w w' base n g gs vd (addE d k) := by
  have H := Lib.hid (add_any h hn hbase k hk)
  clear h
  go_enter Try.func80, Try.ntmps80
  go_wp2_with (go_at_call 116; refine H.out.mono ?_; rintro e w' ⟨⟨v, rfl⟩, hs⟩)
  go_end0
  exact ⟨⟨_, rfl⟩, hs⟩
theorem Remove_any {w : World} {base n g gs : Nat} {vd : Value} {d : List Pl.Ent} {sp : List Int} (h : SetW w base n g gs vd d sp) (hn : n ≤ 1000000) (k : Nat) (hk : k < n) :
    Calls Try.prog 81 #[ptrTo g, .int .i32 k] w fun e w' => (∃ v, e = .returned v) ∧ SetTo w w' base n g gs vd (remE d k) := by
  have H := Lib.hid (remove_any h hn k hk)
  clear h
  go_enter Try.func81, Try.ntmps81
  go_wp2_with (go_at_call 117; refine H.out.mono ?_; rintro e w' ⟨⟨v, rfl⟩, hs⟩)
  go_end0
  exact ⟨⟨_, rfl⟩, hs⟩
theorem Pop_any {w : World} {base n g gs : Nat} {vd : Value} {d : List Pl.Ent} {sp : List Int} (h : SetW w base n g gs vd d sp) (hn : n ≤ 1000000) {y : Pl.Ent} (hy : d[d.length - 1]? = some y) :
    Calls Try.prog 85 #[ptrTo g] w fun e w' => e = .returned (.int .i32 y.1) ∧ SetTo w w' base n g gs vd (d.take (d.length - 1)) := by
  have H := Lib.hid (pop_any h hn hy)
  clear h hy
  go_enter Try.func85, Try.ntmps85
  go_wp2_with (go_at_call 121; refine H.out.mono ?_; rintro e w' ⟨rfl, hs⟩)
  go_ret
  exact ⟨rfl, hs⟩
end Go.Proofs.Ytdmjcgipfkhibaa
