/- Joined: XMap1, XMap2, XMap3. -/
import Derived.Test.YtangceejmjklcaaMem
import Derived.Test.YtangceejmjklcaaPlainSparse
import Derived.RegionTactic
import Derived.BigRegion
import Derived.ChangeAlike
import Derived.Deep.Cut
import Derived.Outline
namespace Go.Proofs.Ytangceejmjklcaa
open Go.RowKit

abbrev mptr (g : Nat) : Value := .pointer (some ⟨g, 0, none⟩)
theorem elEnt : ElTy 113 112 2 8 := ElTy.mk' (z := .agg #[.int .i32 0, .int .i32 0]) Try.underlying113 (by kernel_rfl) rfl (by decide)

def mapCells (d : List Pl.Ent) : List Value := d.flatMap fun e => [.int .i32 e.1, .int .i32 e.2]
theorem mapCells_length (l : List Pl.Ent) : (mapCells l).length = l.length * 2 := by
  induction l with
  | nil => rfl
  | cons a r ih => simp only [mapCells, List.flatMap_cons, List.length_append, List.length_cons, List.length_nil] at ih ⊢; omega
theorem mapCells_append (l m : List Pl.Ent) : mapCells (l ++ m) = mapCells l ++ mapCells m := by simp [mapCells]
theorem mapCells_at : ∀ {l : List Pl.Ent} {i : Nat} {e : Pl.Ent}, l[i]? = some e → (mapCells l)[i * 2]? = some (.int .i32 e.1) ∧ (mapCells l)[i * 2 + 1]? = some (.int .i32 e.2)
  | [], i, e, h => by simp at h
  | a :: r, 0, e, h => by simp at h; subst h; simp [mapCells]
  | a :: r, i + 1, e, h => by
    have := mapCells_at (l := r) (i := i) (e := e) (by simpa using h)
    have e1 : mapCells (a :: r) = .int .i32 a.1 :: .int .i32 a.2 :: mapCells r := rfl
    rw [e1, show (i + 1) * 2 = i * 2 + 1 + 1 by omega, show i * 2 + 1 + 1 + 1 = (i * 2 + 1) + 1 + 1 by omega]
    simpa using this
theorem mapCells_set : ∀ (l : List Pl.Ent) (i : Nat) (k v : Int), i < l.length → mapCells (l.set i (k, v)) = ((mapCells l).set (i * 2) (.int .i32 k)).set (i * 2 + 1) (.int .i32 v)
  | [], i, k, v, h => by simp at h
  | a :: r, 0, k, v, _ => by simp [mapCells]
  | a :: r, i + 1, k, v, h => by
    have := mapCells_set r i k v (by simpa using h)
    have e1 : ∀ x : Pl.Ent, ∀ l, mapCells (x :: l) = .int .i32 x.1 :: .int .i32 x.2 :: mapCells l := fun _ _ => rfl
    rw [List.set_cons_succ, e1, e1, this, show (i + 1) * 2 = i * 2 + 1 + 1 by omega, show i * 2 + 1 + 1 + 1 = (i * 2 + 1) + 1 + 1 by omega]
    simp
theorem mapCells_take : ∀ (l : List Pl.Ent) (m : Nat), (mapCells l).take (m * 2) = mapCells (l.take m)
  | [], m => by simp [mapCells]
  | a :: r, 0 => by simp [mapCells]
  | a :: r, m + 1 => by
    have := mapCells_take r m
    have e1 : ∀ x : Pl.Ent, ∀ l, mapCells (x :: l) = .int .i32 x.1 :: .int .i32 x.2 :: mapCells l := fun _ _ => rfl
    rw [List.take_succ_cons, e1, e1, show (m + 1) * 2 = m * 2 + 1 + 1 by omega, List.take_succ_cons, List.take_succ_cons, this]

/-- A value of 32 bits. -/
def Val32 (x : Int) : Prop := -2147483648 ≤ x ∧ x ≤ 2147483647

/-- A map in memory: its block, the sparse block, the dense slice. -/
structure MapW (w : World) (base n g gs : Nat) (vd : Value) (d : List Pl.Ent) (sp : List Int) : Prop where
  hg : Blk w g 117 [vd, .slice (some ⟨gs, 0, none⟩) n n]
  hs : Blk w gs 21 (sp.map (Value.int .i32))
  hd : w.ownsRow base 112 2 vd d.length (mapCells d)
  hi : Pl.SI n d sp
  hz : ∀ e ∈ d, Val32 e.2
  hb : base ≤ g ∧ base ≤ gs

theorem MapW.bel {w w' : World} {base n g gs : Nat} {vd : Value} {d : List Pl.Ent} {sp : List Int} (h : MapW w base n g gs vd d sp) (hb : Bel w w') : MapW w' base n g gs vd d sp :=
  ⟨h.hg.bel hb, h.hs.bel hb, own_bel h.hd hb, h.hi, h.hz, h.hb⟩

/-- The blocks that a map takes up. -/
def mfoot (g gs : Nat) (vd : Value) : List Nat := g :: gs :: vd.ownBlock.toList
theorem MapW.foot_ge {w : World} {base n g gs : Nat} {vd : Value} {d : List Pl.Ent} {sp : List Int} (h : MapW w base n g gs vd d sp) : ∀ k ∈ mfoot g gs vd, base ≤ k ∧ k < w.heap.size := by
  intro k hk
  unfold mfoot at hk
  rcases List.mem_cons.1 hk with rfl | hk
  · exact ⟨h.hb.1, h.hg.lt⟩
  · rcases List.mem_cons.1 hk with rfl | hk
    · exact ⟨h.hb.2, h.hs.lt⟩
    · have : vd.ownBlock = some k := by cases hv : vd.ownBlock <;> rw [hv] at hk <;> simp at hk; rw [hk]
      exact h.hd.lt k this

def MapTo (w w' : World) (base n g gs : Nat) (vd : Value) (d' : List Pl.Ent) : Prop :=
  ∃ vd' sp', MapW w' base n g gs vd' d' sp' ∧ Kept (mfoot g gs vd) w w' ∧ ∀ b, vd'.ownBlock = some b → vd.ownBlock = some b ∨ w.heap.size ≤ b
theorem MapTo.refl {w : World} {base n g gs : Nat} {vd : Value} {d : List Pl.Ent} {sp : List Int} (h : MapW w base n g gs vd d sp) : MapTo w w base n g gs vd d := ⟨vd, sp, h, Kept.refl _ _, fun _ h => .inl h⟩
theorem MapTo.drew {w w' : World} {base n g gs : Nat} {vd : Value} {d : List Pl.Ent} (h : MapTo w w' base n g gs vd d) : MapTo w w'.drew base n g gs vd d := by
  obtain ⟨vd', sp', h1, h2, h3⟩ := h
  exact ⟨vd', sp', h1.bel (Bel.refl w').drew, h2.drew, h3⟩
theorem MapTo.of_bel {w w1 w' : World} {base n g gs : Nat} {vd : Value} {d : List Pl.Ent} (hb : Bel w w1) (h : MapTo w1 w' base n g gs vd d) : MapTo w w' base n g gs vd d := by
  obtain ⟨vd', sp', h1, h2, h3⟩ := h
  exact ⟨vd', sp', h1, (Kept.of_bel hb).trans h2 (fun i hi => .inl hi), fun b hb' => (h3 b hb').imp id (fun hx => Nat.le_trans hb.size hx)⟩

def hasB (d : List Pl.Ent) (x : Int) : Bool := d.any fun e => decide (e.1 = x)
theorem hasB_iff {d : List Pl.Ent} {x : Int} : hasB d x = true ↔ ∃ v, (x, v) ∈ d := by
  unfold hasB
  rw [List.any_eq_true]
  constructor
  · rintro ⟨e, he, hx⟩
    have : e.1 = x := by simpa using hx
    exact ⟨e.2, by rw [← this]; exact he⟩
  · rintro ⟨v, hv⟩
    exact ⟨_, hv, by simp⟩
theorem hasB_false {d : List Pl.Ent} {x : Int} (h : ∀ v, (x, v) ∉ d) : hasB d x = false := by
  cases hb : hasB d x
  · rfl
  · obtain ⟨v, hv⟩ := hasB_iff.1 hb
    exact absurd hv (h v)

theorem own_shrink2 {w : World} {base : Nat} {e : TypeId} {g cap n m : Nat} {xs : List Value} (h : w.ownsRow base e 2 (.slice (some ⟨g, 0, none⟩) n cap) n xs) (hm : m ≤ n) : w.ownsRow base e 2 (.slice (some ⟨g, 0, none⟩) m cap) m (xs.take (m * 2)) := by
  obtain ⟨hl, h | ⟨g', cap', cur, hv, hb, hh, hn, hc, hs, ht⟩⟩ := h
  · cases h.1
  · injection hv with h1 h2 h3
    injection h1 with h1
    injection h1 with h1 _ _
    subst h1 h3
    refine ⟨by rw [List.length_take]; omega, .inr ⟨g, cap, cur, rfl, hb, hh, by omega, hc, hs, ?_⟩⟩
    rw [← ht, List.take_take]
    congr 1
    omega

/-- What the look-up needs: where the key's place lies. -/
theorem MapW.look {w : World} {base n g gs : Nat} {vd : Value} {d : List Pl.Ent} {sp : List Int} (h : MapW w base n g gs vd d sp) {k : Nat} (hk : k < n) :
    ∃ s : Nat, w.cell? ⟨gs, k, none⟩ = some (.int .i32 s) ∧ ((∃ v, d[s]? = some ((k : Int), v)) ∨ ((∀ v, ((k : Int), v) ∉ d) ∧ (d.length ≤ s ∨ ∃ e, d[s]? = some e ∧ e.1 ≠ (k : Int)))) := by
  obtain ⟨s, hs, hr⟩ := h.hi.find (x := (k : Int)) (by omega) (by omega)
  refine ⟨s, ?_, hr⟩
  rw [h.hs.cell k, List.getElem?_map]
  rw [Int.toNat_natCast] at hs
  rw [hs]; rfl

/-- The value of a key, 0 if it is not there. -/
def getV (d : List Pl.Ent) (x : Int) : Int := match d.find? (fun e => decide (e.1 = x)) with | some e => e.2 | none => 0
theorem getV_at {d : List Pl.Ent} (hn : d.Pairwise (fun a b => a.1 ≠ b.1)) {x v : Int} {i : Nat} (h : d[i]? = some (x, v)) : getV d x = v := by
  unfold getV
  cases hf : d.find? (fun e => decide (e.1 = x)) with
  | none =>
    have := List.find?_eq_none.1 hf (x, v) (List.mem_of_getElem? h)
    simp at this
  | some e =>
    have h1 := List.find?_some hf
    have h2 := List.mem_of_find?_eq_some hf
    have h3 : e.1 = x := by simpa using h1
    obtain ⟨j, hj, rfl⟩ := List.getElem_of_mem h2
    obtain ⟨hi, hie⟩ := List.getElem?_eq_some_iff.1 h
    have hp := List.pairwise_iff_getElem.1 hn
    have : j = i := by
      rcases Nat.lt_trichotomy j i with hlt | heq | hgt
      · exact absurd (by rw [h3, hie]) (hp j i hj hi hlt)
      · exact heq
      · exact absurd (by rw [h3, hie]) (hp i j hi hj hgt)
    subst this
    show d[j].2 = v
    rw [hie]
theorem getV_not {d : List Pl.Ent} {x : Int} (h : ∀ v, (x, v) ∉ d) : getV d x = 0 := by
  unfold getV
  cases hf : d.find? (fun e => decide (e.1 = x)) with
  | none => rfl
  | some e =>
    have h1 : e.1 = x := by simpa using List.find?_some hf
    exact absurd (List.mem_of_find?_eq_some hf) (by rw [show e = (x, e.2) from by rw [← h1]]; exact h _)

set_option maxHeartbeats 400000 in
theorem mget_any {w : World} {base n g gs : Nat} {vd : Value} {d : List Pl.Ent} {sp : List Int} (h : MapW w base n g gs vd d sp) (hn : n ≤ 1000000) (k : Nat) (hk : k < n) :
    Calls Try.prog 57 #[mptr g, .int .i32 k] w fun e w' => e = .returned (.tuple #[.int .i32 (getV d k), .bool (hasB d k)]) ∧ Bel w w' := by
  obtain ⟨s, hcs, hfind⟩ := h.look hk
  have c0 : w.cell? ⟨g, 0, none⟩ = some vd := h.hg.cell 0
  have c1 : w.cell? ⟨g, 1, none⟩ = some (.slice (some ⟨gs, 0, none⟩) n n) := h.hg.cell 1
  obtain ⟨a, c, rfl, hlc, hcm, hcell⟩ := own_form h.hd
  have hle := h.hi.le
  have H := Lib.hid h; clear h
  rcases hfind with ⟨v, hv⟩ | ⟨hno, hs | ⟨e, he, hne⟩⟩
  · have hsl : s < d.length := (List.getElem?_eq_some_iff.1 hv).1
    obtain ⟨gd, rfl, hgd⟩ := hcell (by omega)
    have c2 := hgd _ _ (mapCells_at hv).1
    have c3 := hgd _ _ (mapCells_at hv).2
    rw [hasB_iff.2 ⟨v, List.mem_of_getElem? hv⟩, getV_at H.out.hi.nodup hv]
    clear hgd hv
    generalize d.length = dl at *
    go_enter Try.func57, Try.ntmps57
    go_wp2
    go_ret2
    exact ⟨rfl, Bel.refl w⟩
  · rw [hasB_false hno, getV_not hno]
    have hd : decide ((s : Int) < (d.length : Int)) = false := by simp; omega
    clear hcell hno
    generalize d.length = dl at *
    go_enter Try.func57, Try.ntmps57
    go_wp2
    go_ret2
    exact ⟨rfl, Bel.refl w⟩
  · have hsl : s < d.length := (List.getElem?_eq_some_iff.1 he).1
    obtain ⟨gd, rfl, hgd⟩ := hcell (by omega)
    have c2 := hgd _ _ (mapCells_at he).1
    rw [hasB_false hno, getV_not hno]
    have hne' : (e.1 == (k : Int)) = false := by simpa using hne
    clear hgd he hno hne
    generalize d.length = dl at *
    go_enter Try.func57, Try.ntmps57
    go_wp2
    go_ret2
    exact ⟨rfl, Bel.refl w⟩

/-- A key gets a value. -/
def putE (d : List Pl.Ent) (x v : Int) : List Pl.Ent := match d.findIdx? (fun e => decide (e.1 = x)) with | some i => d.set i (x, v) | none => d ++ [(x, v)]
theorem putE_not {d : List Pl.Ent} {x v : Int} (h : ∀ u, (x, u) ∉ d) : putE d x v = d ++ [(x, v)] := by
  unfold putE
  cases hf : d.findIdx? (fun e => decide (e.1 = x)) with
  | none => rfl
  | some i =>
    obtain ⟨hi, hp, _⟩ := List.findIdx?_eq_some_iff_getElem.1 hf
    have : d[i].1 = x := by simpa using hp
    exact absurd (List.getElem_mem hi) (by rw [show d[i] = (x, d[i].2) from by rw [← this]]; exact h _)
theorem idx_at {d : List Pl.Ent} (hn : d.Pairwise (fun a b => a.1 ≠ b.1)) {x v : Int} {i : Nat} (h : d[i]? = some (x, v)) : d.findIdx? (fun e => decide (e.1 = x)) = some i := by
  obtain ⟨hi, hie⟩ := List.getElem?_eq_some_iff.1 h
  rw [List.findIdx?_eq_some_iff_getElem]
  refine ⟨hi, by simp [hie], fun j hj => ?_⟩
  have := List.pairwise_iff_getElem.1 hn j i (by omega) hi hj
  rw [hie] at this
  simpa using this
theorem putE_at {d : List Pl.Ent} (hn : d.Pairwise (fun a b => a.1 ≠ b.1)) {x u v : Int} {i : Nat} (h : d[i]? = some (x, u)) : putE d x v = d.set i (x, v) := by
  unfold putE; rw [idx_at hn h]

theorem MapW.setv {w : World} {base n g gs gd cap : Nat} {d : List Pl.Ent} {sp : List Int} (h : MapW w base n g gs (.slice (some ⟨gd, 0, none⟩) d.length cap) d sp) {k s : Nat} {v x : Int} (hs : d[s]? = some ((k : Int), v)) (hx : Val32 x) :
    MapTo w (w.setCell ⟨gd, s * 2 + 1, none⟩ (.int .i32 x)) base n g gs (.slice (some ⟨gd, 0, none⟩) d.length cap) (putE d k x) := by
  have hsl : s < d.length := (List.getElem?_eq_some_iff.1 hs).1
  have hne : gd ≠ g := fun e => own_ne h.hd h.hg (by decide) (by rw [← e]; rfl)
  have hne2 : gd ≠ gs := fun e => own_ne h.hd h.hs (by decide) (by rw [← e]; rfl)
  rw [putE_at h.hi.nodup hs]
  refine ⟨_, sp, ⟨h.hg.far (by simpa using hne.symm) _, h.hs.far (by simpa using hne2.symm) _, ?_, h.hi.set hs x, ?_, h.hb⟩, (Kept.refl _ w).setCell (p := ⟨gd, s * 2 + 1, none⟩) (.inl (by simp [mfoot, Value.ownBlock])) _, fun b hb => .inl hb⟩
  · have h1 := (h.hd.stored (s * 2 + 1) (.int .i32 x)).1
    rw [List.length_set]
    have e1 : mapCells (d.set s ((k : Int), x)) = (mapCells d).set (s * 2 + 1) (.int .i32 x) := by
      rw [mapCells_set d s k x hsl]
      congr 1
      apply List.ext_getElem?
      intro j
      rw [List.getElem?_set]
      split
      · rename_i hj; subst hj; rw [(mapCells_at hs).1]; simp; rw [mapCells_length]; omega
      · rfl
    rw [e1]
    exact h1
  · intro e he
    rcases List.mem_or_eq_of_mem_set he with he | rfl
    · exact h.hz e he
    · exact hx

theorem MapW.added {w w1 : World} {base n g gs : Nat} {vd v1 : Value} {d : List Pl.Ent} {sp : List Int} (h : MapW w base n g gs vd d sp) {k : Nat} (hk : k < n) (hno : ∀ v, ((k : Int), v) ∉ d) {x : Int} (hx : Val32 x)
    (ho : w1.ownsRow base 112 2 v1 (d.length + 1) (mapCells d ++ [.int .i32 k, .int .i32 x])) (hg : w.grownBy w1 vd.ownBlock) (hat : v1.ownBlock = vd.ownBlock ∨ v1.ownBlock = some (w.heap.size + 1)) :
    MapTo w (((w1.setCell ⟨g, 0, none⟩ v1).setCell ⟨gs, k, none⟩ (.int .i32 d.length)).drew) base n g gs vd (putE d k x) := by
  have hne := own_ne h.hd h.hg (by decide)
  have hne2 := own_ne h.hd h.hs (by decide)
  have hgs : g ≠ gs := h.hg.ne h.hs (by decide)
  have hB1 : Blk w1 g 117 [vd, .slice (some ⟨gs, 0, none⟩) n n] := h.hg.grown hg (fun e => hne e.symm)
  have hS1 := h.hs.grown hg (fun e => hne2 e.symm)
  have ho1 := own_ne ho hB1 (by decide)
  have ho2 := own_ne ho hS1 (by decide)
  have e1 : putE d k x = d ++ [((k : Int), x)] := putE_not hno
  rw [e1]
  refine ⟨v1, sp.set k (d.length : Int), ⟨?_, ?_, ?_, ?_, ?_, h.hb⟩, ?_, ?_⟩
  · exact ((hB1.set 0 v1).far (by simpa using hgs) _).drew
  · have := (hS1.far (p := ⟨g, 0, none⟩) (by simpa using hgs.symm) v1).set k (.int .i32 d.length)
    rw [List.map_set]
    exact this
  · have : mapCells (d ++ [((k : Int), x)]) = mapCells d ++ [.int .i32 k, .int .i32 x] := by simp [mapCells]
    rw [this, List.length_append]
    have h1 := ownsRow_setCell_other ho (a := ⟨g, 0, none⟩) ho1 v1
    exact (ownsRow_setCell_other h1 (a := ⟨gs, k, none⟩) ho2 _).drew
  · have := h.hi.push (x := (k : Int)) (by omega) (by omega) hno x
    rwa [Int.toNat_natCast] at this
  · intro e he
    rcases List.mem_append.1 he with he | he
    · exact h.hz e he
    · simp at he; rw [he]; exact hx
  · have h0 : Kept (mfoot g gs vd) w w1 := (Kept.refl _ w).grown hg (fun b hb => .inl (by unfold mfoot; rw [hb]; simp))
    exact ((h0.setCell (p := ⟨g, 0, none⟩) (.inl (by simp [mfoot])) _).setCell (p := ⟨gs, k, none⟩) (.inl (by simp [mfoot])) _).drew
  · intro b hb
    rcases hat with hat | hat
    · exact .inl (by rw [← hat]; exact hb)
    · rw [hat] at hb; cases hb; exact .inr (by omega)

set_option maxHeartbeats 1000000 in
theorem mset_any {w : World} {base n g gs : Nat} {vd : Value} {d : List Pl.Ent} {sp : List Int} (h : MapW w base n g gs vd d sp) (hn : n ≤ 1000000) (hbase : base ≤ w.heap.size) (k : Nat) (hk : k < n) (x : Int) (hx : Val32 x) :
    Calls Try.prog 54 #[mptr g, .int .i32 k, .int .i32 x] w fun e w' => (∃ v, e = .returned v) ∧ MapTo w w' base n g gs vd (putE d k x) := by
  obtain ⟨s, hcs, hfind⟩ := h.look hk
  have c0 : w.cell? ⟨g, 0, none⟩ = some vd := h.hg.cell 0
  have c1 : w.cell? ⟨g, 1, none⟩ = some (.slice (some ⟨gs, 0, none⟩) n n) := h.hg.cell 1
  have f0 : w.frozen? ⟨g, 0, none⟩ = false := h.hg.frozen 0
  have fs : w.frozen? ⟨gs, k, none⟩ = false := h.hs.frozen k
  obtain ⟨a, c, hvd, hlc, hcm, hcell⟩ := own_form h.hd
  have hle := h.hi.le
  have H := Lib.hid h; clear h
  rcases hfind with ⟨v, hv⟩ | ⟨hno, hs⟩
  · subst hvd
    have hsl : s < d.length := (List.getElem?_eq_some_iff.1 hv).1
    obtain ⟨gd, rfl, hgd⟩ := hcell (by omega)
    have c2 := hgd _ _ (mapCells_at hv).1
    have c3 := hgd _ _ (mapCells_at hv).2
    have f3 : w.frozen? ⟨gd, s * 2 + 1, none⟩ = false := H.out.hd.frozenAt _
    have HT := Lib.hid (H.out.setv hv hx)
    clear hgd hv
    go_enter Try.func54, Try.ntmps54
    go_wp2
    refine bodyPost_ret (results_none rfl _ _ _) rfl ?_
    exact ⟨⟨_, rfl⟩, HT.out⟩
  · have HNO := Lib.hid hno; clear hno
    have hgs : g ≠ gs := H.out.hg.ne H.out.hs (by decide)
    have HG : Hid (∀ w1, w.grownBy w1 vd.ownBlock → Blk w1 g 117 [vd, .slice (some ⟨gs, 0, none⟩) n n] ∧ Blk w1 gs 21 (sp.map (Value.int .i32))) := Lib.hid (fun w1 hg => ⟨H.out.hg.grown hg (fun e => own_ne H.out.hd H.out.hg (by decide) e.symm), H.out.hs.grown hg (fun e => own_ne H.out.hd H.out.hs (by decide) e.symm)⟩)
    have HCS : Hid ((sp.map (Value.int .i32))[k]? = some (Value.int .i32 s)) := Lib.hid (by rw [← H.out.hs.cell k]; exact hcs)
    rcases hs with hs | ⟨e, he, hne⟩
    · have hd : decide ((s : Int) < (d.length : Int)) = false := by simp; omega
      subst hvd
      clear hcell
      go_enter Try.func54, Try.ntmps54
      go_wp2_with (at_builtin; refine wpList_push elEnt rfl (.tmp 46) (.tmp 50) rfl base _ d.length (mapCells d) rfl H.out.hd [.int .i32 k, .int .i32 x] w.heap.size rfl rfl rfl (by simp [Value.oneCell']) (by omega) (by omega) hbase ?_)
      intro v1 w1 ho1 hg1 hat1
      obtain ⟨hB1, hS1⟩ := HG.out w1 hg1
      have HT := Lib.hid (H.out.added hk HNO.out hx ho1 hg1 hat1)
      obtain ⟨a1, q1, rfl, _, _, _⟩ := own_form ho1
      clear ho1 hg1 hat1
      have b0 : w1.cell? ⟨g, 0, none⟩ = some _ := hB1.cell 0
      have b0f : w1.frozen? ⟨g, 0, none⟩ = false := hB1.frozen 0
      have hB2 := hB1.set 0 (.slice a1 (d.length + 1) q1)
      have hS2 := hS1.far (p := ⟨g, 0, none⟩) (by simpa using hgs.symm) (.slice a1 (d.length + 1) q1)
      simp only [List.set_cons_zero] at hB2
      go_upto_region 4 with (fail)
      generalize w1.setCell ⟨g, 0, none⟩ (.slice a1 (d.length + 1) q1) = w2 at hB2 hS2 HT ⊢
      have d0 : w2.cell? ⟨g, 0, none⟩ = some (.slice a1 (d.length + 1) q1) := hB2.cell 0
      have d1 : w2.cell? ⟨g, 1, none⟩ = some (.slice (some ⟨gs, 0, none⟩) n n) := hB2.cell 1
      have d2 : w2.cell? ⟨gs, k, none⟩ = some (.int .i32 s) := by rw [hS2.cell k]; exact HCS.out
      have d2f : w2.frozen? ⟨gs, k, none⟩ = false := hS2.frozen k
      clear hB1 hS1 hB2 hS2 b0 b0f c0 c1 f0 fs hcs
      have i0 : (0 : Int) ≤ (k : Int) := by omega
      have i1 : (k : Int) < (n : Int) := by omega
      go_region
      go_wp2
      go_end0
      exact ⟨⟨_, rfl⟩, HT.out⟩
    · have hsl : s < d.length := (List.getElem?_eq_some_iff.1 he).1
      subst hvd
      obtain ⟨gd, rfl, hgd⟩ := hcell (by omega)
      have c2 := hgd _ _ (mapCells_at he).1
      have hne' : (e.1 == (k : Int)) = false := by simpa using hne
      clear hgd he hne hcell
      go_enter Try.func54, Try.ntmps54
      go_wp2_with (at_builtin; refine wpList_push elEnt rfl (.tmp 46) (.tmp 50) rfl base _ d.length (mapCells d) rfl H.out.hd [.int .i32 k, .int .i32 x] w.heap.size rfl rfl rfl (by simp [Value.oneCell']) (by omega) (by omega) hbase ?_)
      intro v1 w1 ho1 hg1 hat1
      obtain ⟨hB1, hS1⟩ := HG.out w1 hg1
      have HT := Lib.hid (H.out.added hk HNO.out hx ho1 hg1 hat1)
      obtain ⟨a1, q1, rfl, _, _, _⟩ := own_form ho1
      clear ho1 hg1 hat1
      have b0 : w1.cell? ⟨g, 0, none⟩ = some _ := hB1.cell 0
      have b0f : w1.frozen? ⟨g, 0, none⟩ = false := hB1.frozen 0
      have hB2 := hB1.set 0 (.slice a1 (d.length + 1) q1)
      have hS2 := hS1.far (p := ⟨g, 0, none⟩) (by simpa using hgs.symm) (.slice a1 (d.length + 1) q1)
      simp only [List.set_cons_zero] at hB2
      go_upto_region 4 with (fail)
      generalize w1.setCell ⟨g, 0, none⟩ (.slice a1 (d.length + 1) q1) = w2 at hB2 hS2 HT ⊢
      have d0 : w2.cell? ⟨g, 0, none⟩ = some (.slice a1 (d.length + 1) q1) := hB2.cell 0
      have d1 : w2.cell? ⟨g, 1, none⟩ = some (.slice (some ⟨gs, 0, none⟩) n n) := hB2.cell 1
      have d2 : w2.cell? ⟨gs, k, none⟩ = some (.int .i32 s) := by rw [hS2.cell k]; exact HCS.out
      have d2f : w2.frozen? ⟨gs, k, none⟩ = false := hS2.frozen k
      clear hB1 hS1 hB2 hS2 b0 b0f c0 c1 f0 fs hcs
      have i0 : (0 : Int) ≤ (k : Int) := by omega
      have i1 : (k : Int) < (n : Int) := by omega
      go_region
      go_wp2
      go_end0
      exact ⟨⟨_, rfl⟩, HT.out⟩


/-- The dense slice shrinks to its first m entries. -/
theorem MapW.shrunk {w : World} {base n g gs gd cap : Nat} {d : List Pl.Ent} {sp : List Int} (h : MapW w base n g gs (.slice (some ⟨gd, 0, none⟩) d.length cap) d sp) {m : Nat} (hm : m ≤ d.length) :
    MapTo w (w.setCell ⟨g, 0, none⟩ (.slice (some ⟨gd, 0, none⟩) m cap)) base n g gs (.slice (some ⟨gd, 0, none⟩) d.length cap) (d.take m) := by
  have hgs : g ≠ gs := h.hg.ne h.hs (by decide)
  have hne : gd ≠ g := fun e => own_ne h.hd h.hg (by decide) (by rw [← e]; rfl)
  refine ⟨.slice (some ⟨gd, 0, none⟩) m cap, sp, ⟨h.hg.set 0 _, h.hs.far (p := ⟨g, 0, none⟩) (by simpa using hgs.symm) _, ?_, h.hi.pop m, fun e he => h.hz e (List.mem_of_mem_take he), h.hb⟩, (Kept.refl _ w).setCell (p := ⟨g, 0, none⟩) (.inl (by simp [mfoot])) _, fun b hb => .inl hb⟩
  have h3 := own_shrink2 (ownsRow_setCell_other h.hd (a := ⟨g, 0, none⟩) (by simp [Value.ownBlock]; exact hne) (.slice (some ⟨gd, 0, none⟩) m cap)) (m := m) hm
  rw [List.length_take, Nat.min_eq_left hm]
  have e1 : (mapCells d).take (m * 2) = mapCells (d.take m) := mapCells_take d m
  rw [e1] at h3
  exact h3
theorem mcontents_any {w : World} {base n g gs : Nat} {vd : Value} {d : List Pl.Ent} {sp : List Int} (h : MapW w base n g gs vd d sp) :
    Calls Try.prog 60 #[mptr g] w fun e w' => e = .returned vd ∧ w = w' := by
  have c0 : w.cell? ⟨g, 0, none⟩ = some vd := h.hg.cell 0
  clear h
  go_enter Try.func60, Try.ntmps60
  go_wp2
  go_ret
  exact ⟨rfl, rfl⟩

/-- A key is taken out: the last entry goes to its place. -/
def outE (d : List Pl.Ent) (x : Int) : List Pl.Ent := match d.findIdx? (fun e => decide (e.1 = x)) with | some i => Pl.swapOut d i | none => d
theorem outE_not {d : List Pl.Ent} {x : Int} (h : ∀ v, (x, v) ∉ d) : outE d x = d := by
  unfold outE
  cases hf : d.findIdx? (fun e => decide (e.1 = x)) with
  | none => rfl
  | some i =>
    obtain ⟨hi, hp, _⟩ := List.findIdx?_eq_some_iff_getElem.1 hf
    have : d[i].1 = x := by simpa using hp
    exact absurd (List.getElem_mem hi) (by rw [show d[i] = (x, d[i].2) from by rw [← this]]; exact h _)
theorem outE_at {d : List Pl.Ent} (hn : d.Pairwise (fun a b => a.1 ≠ b.1)) {x v : Int} {i : Nat} (h : d[i]? = some (x, v)) : outE d x = Pl.swapOut d i := by
  unfold outE; rw [idx_at hn h]

theorem MapW.removed {w : World} {base n g gs gd cap : Nat} {d : List Pl.Ent} {sp : List Int} (h : MapW w base n g gs (.slice (some ⟨gd, 0, none⟩) d.length cap) d sp) {k s ky : Nat} {v : Int} (hs : d[s]? = some ((k : Int), v)) {y : Pl.Ent} (hy : d[d.length - 1]? = some y) (hky : y.1 = (ky : Int)) :
    MapTo w (((((w.setCell ⟨gd, s * 2, none⟩ (.int .i32 ky)).setCell ⟨gd, s * 2 + 1, none⟩ (.int .i32 y.2)).drew.setCell ⟨gs, ky, none⟩ (.int .i32 s)).drew.setCell ⟨g, 0, none⟩ (.slice (some ⟨gd, 0, none⟩) (d.length - 1) cap)).drew) base n g gs (.slice (some ⟨gd, 0, none⟩) d.length cap) (outE d k) := by
  have hsl : s < d.length := (List.getElem?_eq_some_iff.1 hs).1
  have hgs : g ≠ gs := h.hg.ne h.hs (by decide)
  have hne : gd ≠ g := fun e => own_ne h.hd h.hg (by decide) (by rw [← e]; rfl)
  have hne2 : gd ≠ gs := fun e => own_ne h.hd h.hs (by decide) (by rw [← e]; rfl)
  rw [outE_at h.hi.nodup hs]
  have hI := h.hi.out hsl hy
  rw [hky, Int.toNat_natCast] at hI
  refine ⟨.slice (some ⟨gd, 0, none⟩) (d.length - 1) cap, sp.set ky (s : Int), ⟨?_, ?_, ?_, hI, ?_, h.hb⟩, ?_, fun b hb => .inl hb⟩
  · exact ((((h.hg.far (p := ⟨gd, s * 2, none⟩) (by simpa using hne.symm) _).far (p := ⟨gd, s * 2 + 1, none⟩) (by simpa using hne.symm) _).drew.far (p := ⟨gs, ky, none⟩) (by simpa using hgs) _).drew.set 0 _).drew
  · have := ((((h.hs.far (p := ⟨gd, s * 2, none⟩) (by simpa using hne2.symm) (.int .i32 ky)).far (p := ⟨gd, s * 2 + 1, none⟩) (by simpa using hne2.symm) (.int .i32 y.2)).drew.set ky (.int .i32 s)).drew.far (p := ⟨g, 0, none⟩) (by simpa using hgs.symm) (.slice (some ⟨gd, 0, none⟩) (d.length - 1) cap)).drew
    rw [List.map_set]
    exact this
  · have h1 := ((h.hd.stored (s * 2) (.int .i32 ky)).1.stored (s * 2 + 1) (.int .i32 y.2)).1.drew
    have h2 := (ownsRow_setCell_other h1 (a := ⟨gs, ky, none⟩) (by simp [Value.ownBlock]; exact hne2) (.int .i32 s)).drew
    have h3 := own_shrink2 (ownsRow_setCell_other h2 (a := ⟨g, 0, none⟩) (by simp [Value.ownBlock]; exact hne) (.slice (some ⟨gd, 0, none⟩) (d.length - 1) cap)) (m := d.length - 1) (by omega)
    have e1 : (((mapCells d).set (s * 2) (.int .i32 ky)).set (s * 2 + 1) (.int .i32 y.2)).take ((d.length - 1) * 2) = mapCells (Pl.swapOut d s) := by
      unfold Pl.swapOut
      rw [← mapCells_take, List.getD_eq_getElem?_getD, hy]
      show _ = (mapCells (d.set s y)).take _
      rw [show y = ((ky : Int), y.2) from by rw [← hky], mapCells_set d s ky y.2 hsl]
    rw [e1] at h3
    rw [Pl.swapOut_length hsl]
    exact h3.drew
  · intro e he
    exact h.hz e ((Pl.mem_swapOut h.hi.nodup hsl e).1 he).1
  · exact (((((Kept.refl _ w).setCell (p := ⟨gd, s * 2, none⟩) (.inl (by simp [mfoot, Value.ownBlock])) _).setCell (p := ⟨gd, s * 2 + 1, none⟩) (.inl (by simp [mfoot, Value.ownBlock])) _).drew.setCell (p := ⟨gs, ky, none⟩) (.inl (by simp [mfoot])) _).drew.setCell (p := ⟨g, 0, none⟩) (.inl (by simp [mfoot])) _).drew

set_option maxHeartbeats 1000000 in
theorem mremove_hit {w : World} {base n g gs gd c : Nat} {d : List Pl.Ent} {sp : List Int} (H : Hid (MapW w base n g gs (.slice (some ⟨gd, 0, none⟩) d.length c) d sp)) (hn : n ≤ 1000000) (k s : Nat) (hk : k < n) (v : Int) (hv : d[s]? = some ((k : Int), v)) :
    Calls Try.prog 55 #[mptr g, .int .i32 k] w fun e w' => (∃ v, e = .returned v) ∧ MapTo w w' base n g gs (.slice (some ⟨gd, 0, none⟩) d.length c) (outE d k) := by
  have c0 : w.cell? ⟨g, 0, none⟩ = some (.slice (some ⟨gd, 0, none⟩) d.length c) := H.out.hg.cell 0
  have c1 : w.cell? ⟨g, 1, none⟩ = some (.slice (some ⟨gs, 0, none⟩) n n) := H.out.hg.cell 1
  have hcs : w.cell? ⟨gs, k, none⟩ = some (.int .i32 s) := by
    have := (H.out.hi.ix s _ hv).2.2
    rw [Int.toNat_natCast] at this
    rw [H.out.hs.cell k, List.getElem?_map, this]; rfl
  have hle := H.out.hi.le
  have hsl : s < d.length := (List.getElem?_eq_some_iff.1 hv).1
  have hgd : ∀ j u, (mapCells d)[j]? = some u → w.cell? ⟨gd, j, none⟩ = some u := fun j u hu => by
    have := H.out.hd.cells (g := gd) rfl j u hu
    simpa [Addr.add_lit] using this
  have hcm : d.length ≤ c ∧ c ≤ maxLen := by obtain ⟨_, _, e, h1, h2, _⟩ := own_form H.out.hd; cases e; exact ⟨h1, h2⟩
  obtain ⟨hlc, hcm⟩ := hcm
  unfold maxLen at hcm
  obtain ⟨y, hy⟩ : ∃ y, d[d.length - 1]? = some y := ⟨_, List.getElem?_eq_getElem (by omega)⟩
  have c2 := hgd _ _ (mapCells_at hv).1
  have c3 := hgd _ _ (mapCells_at hy).1
  have c4 := hgd _ _ (mapCells_at hy).2
  obtain ⟨ky, hky⟩ := Int.eq_ofNat_of_zero_le (H.out.hi.ix _ y hy).1
  have hkyn : ky < n := by have := (H.out.hi.ix _ y hy).2.1; omega
  rw [hky] at c3
  have hgdl : gd < w.heap.size := (H.out.hd.lt gd rfl).2
  have hgl := H.out.hg.lt
  have hgsl := H.out.hs.lt
  have i1 : (0 : Int) ≤ (d.length : Int) - 1 := by omega
  have i2 : (d.length : Int) - 1 < (d.length : Int) := by omega
  have i3 : ((d.length : Int) - 1).toNat = d.length - 1 := by omega
  have i4 : IntKind.i64.wrap ((d.length : Int) - 1) = (d.length : Int) - 1 := IntWalk.i64_in _ (by omega)
  have HV := Lib.hid (And.intro hv hy); clear hv hy hgd
  go_enter Try.func55, Try.ntmps55
  go_upto_region 2 with (fail)
  go_region
  have hb1 : Bel w (w.alloc (.cells #[.int .i32 ky, .int .i32 y.2] 112)).drew := ((Bel.refl w).alloc _).drew
  have hY : Blk (w.alloc (.cells #[.int .i32 ky, .int .i32 y.2] 112)).drew w.heap.size 112 [.int .i32 ky, .int .i32 y.2] := (Blk.new w _ [_, _]).drew
  go_upto_region 3 with (fail)
  generalize (w.alloc (.cells #[.int .i32 ky, .int .i32 y.2] 112)).drew = w1 at *
  have H1 := Lib.hid (H.out.bel hb1)
  have e0 : w1.cell? ⟨g, 0, none⟩ = some (.slice (some ⟨gd, 0, none⟩) d.length c) := H1.out.hg.cell 0
  have e1 : w1.cell? ⟨w.heap.size, 0, none⟩ = some (.int .i32 ky) := hY.cell 0
  have e2 : w1.cell? ⟨w.heap.size, 1, none⟩ = some (.int .i32 y.2) := hY.cell 1
  have e3 := hb1.cell c2
  have e4 := hb1.cell (H.out.hd.cells (g := gd) rfl (s * 2 + 1) _ (mapCells_at HV.out.1).2)
  simp only [Addr.add_lit, Nat.zero_add] at e4
  have f3 : w1.frozen? ⟨gd, s * 2, none⟩ = false := H1.out.hd.frozenAt _
  have f4 : w1.frozen? ⟨gd, s * 2 + 1, none⟩ = false := H1.out.hd.frozenAt _
  have HR := Lib.hid (MapTo.of_bel hb1 (H1.out.removed HV.out.1 HV.out.2 hky))
  have hgs : g ≠ gs := H.out.hg.ne H.out.hs (by decide)
  have hne : gd ≠ g := fun e => own_ne H.out.hd H.out.hg (by decide) (by rw [← e]; rfl)
  have hne2 : gd ≠ gs := fun e => own_ne H.out.hd H.out.hs (by decide) (by rw [← e]; rfl)
  have hneY : w.heap.size ≠ gd ∧ w.heap.size ≠ gs ∧ w.heap.size ≠ g := ⟨by omega, by omega, by omega⟩
  clear c0 c1 c2 c3 c4 hcs
  go_region
  go_upto_region 4 with (fail)
  have hB2 := ((H1.out.hg.far (p := ⟨gd, s * 2, none⟩) (by simpa using hne.symm) (.int .i32 ky)).far (p := ⟨gd, s * 2 + 1, none⟩) (by simpa using hne.symm) (.int .i32 y.2)).drew
  have hS2 := ((H1.out.hs.far (p := ⟨gd, s * 2, none⟩) (by simpa using hne2.symm) (.int .i32 ky)).far (p := ⟨gd, s * 2 + 1, none⟩) (by simpa using hne2.symm) (.int .i32 y.2)).drew
  have hY2 := ((hY.far (p := ⟨gd, s * 2, none⟩) hneY.1 (.int .i32 ky)).far (p := ⟨gd, s * 2 + 1, none⟩) hneY.1 (.int .i32 y.2)).drew
  generalize ((w1.setCell ⟨gd, s * 2, none⟩ (.int .i32 ky)).setCell ⟨gd, s * 2 + 1, none⟩ (.int .i32 y.2)).drew = w2 at hB2 hS2 hY2 HR ⊢
  have d1 : w2.cell? ⟨g, 1, none⟩ = some (.slice (some ⟨gs, 0, none⟩) n n) := hB2.cell 1
  have d2 : w2.cell? ⟨w.heap.size, 0, none⟩ = some (.int .i32 ky) := hY2.cell 0
  obtain ⟨ty, d3⟩ : ∃ t : Int, w2.cell? ⟨gs, ky, none⟩ = some (.int .i32 t) := by
    rw [hS2.cell ky, List.getElem?_map, List.getElem?_eq_getElem (show ky < sp.length by rw [H.out.hi.len]; exact hkyn)]
    exact ⟨_, rfl⟩
  have d3f : w2.frozen? ⟨gs, ky, none⟩ = false := hS2.frozen ky
  clear e0 e1 e2 e3 e4 f3 f4
  have i5 : (0 : Int) ≤ (ky : Int) := by omega
  have i6 : (ky : Int) < (n : Int) := by omega
  go_region
  go_upto_region 5 with (fail)
  have hB3 := (hB2.far (p := ⟨gs, ky, none⟩) (by simpa using hgs) (.int .i32 s)).drew
  generalize (w2.setCell ⟨gs, ky, none⟩ (.int .i32 s)).drew = w3 at hB3 HR ⊢
  have e0 : w3.cell? ⟨g, 0, none⟩ = some (.slice (some ⟨gd, 0, none⟩) d.length c) := hB3.cell 0
  have e0f : w3.frozen? ⟨g, 0, none⟩ = false := hB3.frozen 0
  clear d1 d2 d3 d3f hB2 hS2 hB3 hY2
  have i7 : (d.length : Int) - 1 ≤ (c : Int) := by omega
  go_region
  go_wp2
  go_end0
  exact ⟨⟨_, rfl⟩, HR.out⟩

set_option maxHeartbeats 400000 in
theorem mremove_any {w : World} {base n g gs : Nat} {vd : Value} {d : List Pl.Ent} {sp : List Int} (h : MapW w base n g gs vd d sp) (hn : n ≤ 1000000) (k : Nat) (hk : k < n) :
    Calls Try.prog 55 #[mptr g, .int .i32 k] w fun e w' => (∃ v, e = .returned v) ∧ MapTo w w' base n g gs vd (outE d k) := by
  obtain ⟨s, hcs, hfind⟩ := h.look hk
  have c0 : w.cell? ⟨g, 0, none⟩ = some vd := h.hg.cell 0
  have c1 : w.cell? ⟨g, 1, none⟩ = some (.slice (some ⟨gs, 0, none⟩) n n) := h.hg.cell 1
  obtain ⟨a, c, hvd, hlc, hcm, hcell⟩ := own_form h.hd
  have hle := h.hi.le
  have H := Lib.hid h; clear h
  rcases hfind with ⟨v, hv⟩ | ⟨hno, hs⟩
  · subst hvd
    have hsl : s < d.length := (List.getElem?_eq_some_iff.1 hv).1
    obtain ⟨gd, rfl, hgd⟩ := hcell (by omega)
    exact mremove_hit H hn k s hk v hv
  · rw [outE_not hno]
    clear hno
    rcases hs with hs | ⟨e, he, hne⟩
    · subst hvd
      have hd : decide ((s : Int) < (d.length : Int)) = false := by simp; omega
      clear hcell
      go_enter Try.func55, Try.ntmps55
      go_wp2
      go_end0
      exact ⟨⟨_, rfl⟩, MapTo.refl H.out⟩
    · subst hvd
      have hsl : s < d.length := (List.getElem?_eq_some_iff.1 he).1
      obtain ⟨gd, rfl, hgd⟩ := hcell (by omega)
      have c2 := hgd _ _ (mapCells_at he).1
      have hne' : (e.1 == (k : Int)) = false := by simpa using hne
      clear hgd he hne hcell
      go_enter Try.func55, Try.ntmps55
      go_wp2
      go_end0
      exact ⟨⟨_, rfl⟩, MapTo.refl H.out⟩
end Go.Proofs.Ytangceejmjklcaa
