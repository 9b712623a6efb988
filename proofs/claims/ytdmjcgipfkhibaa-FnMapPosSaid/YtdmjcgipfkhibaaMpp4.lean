/- The walks of new maps with positions, and Entries. -/
import Derived.Test.YtdmjcgipfkhibaaMpp3
import Derived.Test.YtdmjcgipfkhibaaMap4
import Derived.Test.YtdmjcgipfkhibaaPosA
import Derived.Test.YtdmjcgipfkhibaaInv3
namespace Go.Proofs.Ytdmjcgipfkhibaa
open Go.RowKit Go.BigFrame

theorem elXpS : ElTy 111 103 2 8 := ElTy.mk' (z := .agg #[.int .i32 0, .int .u32 0]) Try.underlying111 (by kernel_rfl) rfl (by decide)
def xpCells (d : List Pl.Ent) : List Value := d.flatMap fun e => [.int .i32 0, .int .u32 (e.2 * 4096 + 16)]
theorem xpCells_length (d : List Pl.Ent) : (xpCells d).length = d.length * 2 := by
  induction d with
  | nil => rfl
  | cons a r ih => simp only [xpCells, List.flatMap_cons, List.length_append, List.length_cons, List.length_nil] at ih ⊢; omega
theorem xpCells_at : ∀ {l : List Pl.Ent} {i : Nat} {e : Pl.Ent}, l[i]? = some e → (xpCells l)[i * 2]? = some (.int .i32 0) ∧ (xpCells l)[i * 2 + 1]? = some (.int .u32 (e.2 * 4096 + 16))
  | [], i, e, h => by simp at h
  | a :: r, 0, e, h => by simp at h; subst h; simp [xpCells]
  | a :: r, i + 1, e, h => by
    have := xpCells_at (l := r) (i := i) (e := e) (by simpa using h)
    have e1 : xpCells (a :: r) = .int .i32 0 :: .int .u32 (a.2 * 4096 + 16) :: xpCells r := rfl
    rw [e1, show (i + 1) * 2 = i * 2 + 1 + 1 by omega, show i * 2 + 1 + 1 + 1 = (i * 2 + 1) + 1 + 1 by omega]
    simpa using this
theorem xpCells_snoc {d : List Pl.Ent} {j : Nat} {e : Pl.Ent} (h : d[j]? = some e) : xpCells (d.take (j + 1)) = xpCells (d.take j) ++ [.int .i32 0, .int .u32 (e.2 * 4096 + 16)] := by
  rw [List.take_add_one, h]; simp [xpCells]

set_option maxHeartbeats 400000 in
theorem ppnew0 (n : Nat) (w : World) (hn : n ≤ 1000000) :
    Calls Try.prog 59 #[.int .i64 n] w fun e w' => ∃ g gs, e = .returned (mptr g) ∧ PpW w' w.heap.size n g gs (.slice none 0 0) [] (List.replicate n 0) ∧ Bel w w' := by
  obtain ⟨i0, hi, hz0, hz1, hz2⟩ := eli32
  have HI := Lib.hid hi; clear hi
  have HZ0 := Lib.hid hz0; clear hz0
  have HZ1 := Lib.hid hz1; clear hz1
  have HZ2 := Lib.hid hz2; clear hz2
  go_enter Try.func59, Try.ntmps59
  go_wp2_with (refine wpList_make_full _ rfl (.tmp 3) (.tmp 3) 94 rfl w.heap.size 21 i0 (.int .i32 0) 1 Try.underlying94 HI.out HZ0.out HZ1.out .i64 .i64 n n n rfl rfl rfl rfl (by rw [HZ2.out]; omega) (by unfold maxLen; omega) (Nat.le_refl _) ?_)
  intro w1 ho1 hg1
  rw [made_zero32] at ho1
  have hb1 : Bel w w1 := (Bel.refl _).grown hg1 (by simp)
  have hS := blk_of_full ho1
  have hlt := hS.lt
  clear ho1 hg1
  go_wp2
  go_ret
  exact ⟨w1.heap.size, w.heap.size, rfl, ⟨Blk.new w1 _ [_, _], hS.alloc _, World.ownsRow_nil _ _ _ _, Pl.SI.new n, by simp, ⟨by omega, Nat.le_refl _⟩⟩, hb1.alloc _⟩
theorem ppnew_any (n : Nat) (w : World) (hn : n ≤ 1000000) :
    Calls Try.prog 39 #[.int .i64 n] w fun e w' => ∃ g gs, e = .returned (mptr g) ∧ PpW w' w.heap.size n g gs (.slice none 0 0) [] (List.replicate n 0) ∧ Bel w w' := by
  have H := Lib.hid (ppnew0 n w hn)
  go_enter Try.func39, Try.ntmps39
  go_wp2_with (go_at_call 59; refine H.out.mono ?_; rintro e w' ⟨g, gs, rfl, hs, hb⟩)
  go_ret
  exact ⟨g, gs, rfl, hs, hb⟩

/-- What Entries' loop keeps. -/
structure EnAt (w W : World) (d : List Pl.Ent) (j : Nat) (k v x : Value) : Prop where
  k : W.ownsRow w.heap.size 86 1 k j (idCells (d.take j))
  v : W.ownsRow w.heap.size 21 1 v j (valCells (d.take j))
  x : W.ownsRow w.heap.size 103 2 x j (xpCells (d.take j))
  bel : Bel w W

/-- One of the three rows: as it was, or with one element more; the element lies in a block of its own. -/
structure Lane (w0 W : World) (e : TypeId) (size : Nat) (u v : Value) (j : Nat) (xs cs : List Value) (b : Nat) (made done : Bool) : Prop where
  old : done = false → W.ownsRow w0.heap.size e size u j xs
  new : done = true → W.ownsRow w0.heap.size e size v (j + 1) (xs ++ cs)
  blk : made = true → done = false → Blk W b e cs
theorem Lane.on {w0 W W' : World} {e : TypeId} {size j b : Nat} {u v : Value} {xs cs : List Value} {m d : Bool} (h : Lane w0 W e size u v j xs cs b m d) (hb : Bel W W') : Lane w0 W' e size u v j xs cs b m d :=
  ⟨fun hd => own_bel (h.old hd) hb, fun hd => own_bel (h.new hd) hb, fun hm hd => (h.blk hm hd).bel hb⟩
theorem own_far3 {W W' : World} {b1 b2 : Nat} {e1 e2 : TypeId} {s1 s2 n1 n2 : Nat} {v1 v2 : Value} {x1 x2 : List Value} (h1 : W.ownsRow b1 e1 s1 v1 n1 x1) (h2 : W.ownsRow b2 e2 s2 v2 n2 x2) (hne : e1 ≠ e2) (hg : W.grownBy W' v2.ownBlock) : W'.ownsRow b1 e1 s1 v1 n1 x1 := by
  refine h1.kept hg ?_
  cases hv : v1.ownBlock with
  | none => exact .inl rfl
  | some q => exact .inr (fun e => own_own_ne h1 h2 hne q hv e.symm)
theorem Lane.far {w0 W W' : World} {e e' : TypeId} {size j b : Nat} {u v : Value} {xs cs : List Value} {m d : Bool} (h : Lane w0 W e size u v j xs cs b m d) {b2 s2 n2 : Nat} {v2 : Value} {x2 : List Value} (h2 : W.ownsRow b2 e' s2 v2 n2 x2) (hne : e ≠ e') (hg : W.grownBy W' v2.ownBlock) : Lane w0 W' e size u v j xs cs b m d :=
  ⟨fun hd => own_far3 (h.old hd) h2 hne hg, fun hd => own_far3 (h.new hd) h2 hne hg, fun hm hd => (h.blk hm hd).grown hg (fun e => own_ne h2 (h.blk hm hd) (Ne.symm hne) e.symm)⟩
/-- The worlds of the three appends. -/
structure EnI (w0 : World) (j : Nat) (xk xv xx : List Value) (ek ev : Int) (ku vu xu : Value) (bx : Nat) (D : Nat → Bool) (b1 : Nat) (v1 : Value) (b2 : Nat) (v2 : Value) (b3 : Nat) (v3 : Value) (W : World) : Prop where
  bel : Bel w0 W
  box : Blk W bx 136 [.int .i32 ek, .int .i32 ev, .int .i32 0, .int .u32 (ev * 4096 + 16)]
  l1 : Lane w0 W 86 1 ku v1 j xk [.int .i32 ek] b1 (D 3) (D 4)
  l2 : Lane w0 W 21 1 vu v2 j xv [.int .i32 ev] b2 (D 8) (D 9)
  l3 : Lane w0 W 103 2 xu v3 j xx [.int .i32 0, .int .u32 (ev * 4096 + 16)] b3 (D 13) (D 14)
section
variable {w0 W W' : World} {j bx b1 b2 b3 : Nat} {xk xv xx : List Value} {ek ev : Int} {ku vu xu v1 v2 v3 : Value} {D : Nat → Bool}
theorem EnI.quiet (h : EnI w0 j xk xv xx ek ev ku vu xu bx D b1 v1 b2 v2 b3 v3 W) {k : Nat} (hk : k ∉ [3, 4, 8, 9, 13, 14]) : EnI w0 j xk xv xx ek ev ku vu xu bx (also D k) b1 v1 b2 v2 b3 v3 W := by
  simp only [List.mem_cons, List.not_mem_nil, or_false, not_or] at hk
  obtain ⟨h3, h4, h8, h9, h13, h14⟩ := hk
  refine ⟨h.bel, h.box, ?_, ?_, ?_⟩
  · rw [also_ne (Ne.symm h3), also_ne (Ne.symm h4)]; exact h.l1
  · rw [also_ne (Ne.symm h8), also_ne (Ne.symm h9)]; exact h.l2
  · rw [also_ne (Ne.symm h13), also_ne (Ne.symm h14)]; exact h.l3
theorem EnI.mk1 (h : EnI w0 j xk xv xx ek ev ku vu xu bx D b1 v1 b2 v2 b3 v3 W) (_hD : D 3 = false) : EnI w0 j xk xv xx ek ev ku vu xu bx (also D 3) W.heap.size v1 b2 v2 b3 v3 (W.alloc (.cells #[.int .i32 ek] 86)) := by
  have hb : Bel W (W.alloc (.cells #[.int .i32 ek] 86)) := (Bel.refl W).alloc _
  refine ⟨h.bel.trans hb, h.box.bel hb, ?_, ?_, ?_⟩
  · rw [also_self, also_ne (by decide)]
    exact ⟨fun hd => own_bel (h.l1.old hd) hb, fun hd => own_bel (h.l1.new hd) hb, fun _ _ => Blk.new W _ [_]⟩
  · rw [also_ne (by decide), also_ne (by decide)]; exact h.l2.on hb
  · rw [also_ne (by decide), also_ne (by decide)]; exact h.l3.on hb
theorem EnI.mk2 (h : EnI w0 j xk xv xx ek ev ku vu xu bx D b1 v1 b2 v2 b3 v3 W) (_hD : D 8 = false) : EnI w0 j xk xv xx ek ev ku vu xu bx (also D 8) b1 v1 W.heap.size v2 b3 v3 (W.alloc (.cells #[.int .i32 ev] 21)) := by
  have hb : Bel W (W.alloc (.cells #[.int .i32 ev] 21)) := (Bel.refl W).alloc _
  refine ⟨h.bel.trans hb, h.box.bel hb, ?_, ?_, ?_⟩
  · rw [also_ne (by decide), also_ne (by decide)]; exact h.l1.on hb
  · rw [also_self, also_ne (by decide)]
    exact ⟨fun hd => own_bel (h.l2.old hd) hb, fun hd => own_bel (h.l2.new hd) hb, fun _ _ => Blk.new W _ [_]⟩
  · rw [also_ne (by decide), also_ne (by decide)]; exact h.l3.on hb
theorem EnI.mk3 (h : EnI w0 j xk xv xx ek ev ku vu xu bx D b1 v1 b2 v2 b3 v3 W) (_hD : D 13 = false) : EnI w0 j xk xv xx ek ev ku vu xu bx (also D 13) b1 v1 b2 v2 W.heap.size v3 (W.alloc (.cells #[.int .i32 0, .int .u32 (ev * 4096 + 16)] 103)) := by
  have hb : Bel W (W.alloc (.cells #[.int .i32 0, .int .u32 (ev * 4096 + 16)] 103)) := (Bel.refl W).alloc _
  refine ⟨h.bel.trans hb, h.box.bel hb, ?_, ?_, ?_⟩
  · rw [also_ne (by decide), also_ne (by decide)]; exact h.l1.on hb
  · rw [also_ne (by decide), also_ne (by decide)]; exact h.l2.on hb
  · rw [also_self, also_ne (by decide)]
    exact ⟨fun hd => own_bel (h.l3.old hd) hb, fun hd => own_bel (h.l3.new hd) hb, fun _ _ => Blk.new W _ [_, _]⟩
theorem EnI.ap1 (h : EnI w0 j xk xv xx ek ev ku vu xu bx D b1 v1 b2 v2 b3 v3 W) (hD : D 4 = false) {v : Value} (ho : W'.ownsRow w0.heap.size 86 1 v (j + 1) (xk ++ [.int .i32 ek])) (hg : W.grownBy W' ku.ownBlock) : EnI w0 j xk xv xx ek ev ku vu xu bx (also D 4) b1 v b2 v2 b3 v3 W' := by
  have h0 := h.l1.old hD
  refine ⟨h.bel.grown hg (fun k hk => (h0.lt k hk).1), h.box.grown hg (fun e => own_ne h0 h.box (by decide) e.symm), ?_, ?_, ?_⟩
  · rw [also_self]
    exact ⟨fun hd => (by cases hd), fun _ => ho, fun _ hd => (by cases hd)⟩
  · rw [also_ne (by decide), also_ne (by decide)]; exact h.l2.far h0 (by decide) hg
  · rw [also_ne (by decide), also_ne (by decide)]; exact h.l3.far h0 (by decide) hg
theorem EnI.ap2 (h : EnI w0 j xk xv xx ek ev ku vu xu bx D b1 v1 b2 v2 b3 v3 W) (hD : D 9 = false) {v : Value} (ho : W'.ownsRow w0.heap.size 21 1 v (j + 1) (xv ++ [.int .i32 ev])) (hg : W.grownBy W' vu.ownBlock) : EnI w0 j xk xv xx ek ev ku vu xu bx (also D 9) b1 v1 b2 v b3 v3 W' := by
  have h0 := h.l2.old hD
  refine ⟨h.bel.grown hg (fun k hk => (h0.lt k hk).1), h.box.grown hg (fun e => own_ne h0 h.box (by decide) e.symm), ?_, ?_, ?_⟩
  · rw [also_ne (by decide), also_ne (by decide)]; exact h.l1.far h0 (by decide) hg
  · rw [also_self]
    exact ⟨fun hd => (by cases hd), fun _ => ho, fun _ hd => (by cases hd)⟩
  · rw [also_ne (by decide), also_ne (by decide)]; exact h.l3.far h0 (by decide) hg
theorem EnI.ap3 (h : EnI w0 j xk xv xx ek ev ku vu xu bx D b1 v1 b2 v2 b3 v3 W) (hD : D 14 = false) {v : Value} (ho : W'.ownsRow w0.heap.size 103 2 v (j + 1) (xx ++ [.int .i32 0, .int .u32 (ev * 4096 + 16)])) (hg : W.grownBy W' xu.ownBlock) : EnI w0 j xk xv xx ek ev ku vu xu bx (also D 14) b1 v1 b2 v2 b3 v W' := by
  have h0 := h.l3.old hD
  refine ⟨h.bel.grown hg (fun k hk => (h0.lt k hk).1), h.box.grown hg (fun e => own_ne h0 h.box (by decide) e.symm), ?_, ?_, ?_⟩
  · rw [also_ne (by decide), also_ne (by decide)]; exact h.l1.far h0 (by decide) hg
  · rw [also_ne (by decide), also_ne (by decide)]; exact h.l2.far h0 (by decide) hg
  · rw [also_self]
    exact ⟨fun hd => (by cases hd), fun _ => ho, fun _ hd => (by cases hd)⟩
end

/-- The values of the operations. -/
def VE4 (ku vu xu : Value) (bx : Nat) (ek ev : Int) (b1 : Nat) (v1 : Value) (b2 : Nat) (v2 : Value) (b3 : Nat) (v3 : Value) : List (Nat × Nat × Value) := [(0, 14, ku), (1, 15, .pointer (some ⟨bx, 0, none⟩)), (2, 16, .int .i32 ek), (3, 17, .slice (some ⟨b1, 0, none⟩) 1 1), (4, 18, v1), (5, 19, vu), (6, 20, .pointer (some ⟨bx, 1, none⟩)), (7, 21, .int .i32 ev), (8, 22, .slice (some ⟨b2, 0, none⟩) 1 1), (9, 23, v2), (10, 24, xu), (11, 25, .pointer (some ⟨bx, 2, none⟩)), (12, 26, .agg #[.int .i32 0, .int .u32 (ev * 4096 + 16)]), (13, 27, .slice (some ⟨b3, 0, none⟩) 1 1), (14, 28, v3), (15, 2, v1), (16, 3, v2), (17, 4, v3)]
theorem VE4_slots (ku vu xu : Value) (bx : Nat) (ek ev : Int) (b1 : Nat) (v1 : Value) (b2 : Nat) (v2 : Value) (b3 : Nat) (v3 : Value) : (VE4 ku vu xu bx ek ev b1 v1 b2 v2 b3 v3).map (·.2.1) = [14, 15, 16, 17, 18, 19, 20, 21, 22, 23, 24, 25, 26, 27, 28, 2, 3, 4] := rfl
theorem VE4_idx (ku vu xu : Value) (bx : Nat) (ek ev : Int) (b1 : Nat) (v1 : Value) (b2 : Nat) (v2 : Value) (b3 : Nat) (v3 : Value) : (VE4 ku vu xu bx ek ev b1 v1 b2 v2 b3 v3).map (·.1) = [0, 1, 2, 3, 4, 5, 6, 7, 8, 9, 10, 11, 12, 13, 14, 15, 16, 17] := rfl
theorem VE4_nd (ku vu xu : Value) (bx : Nat) (ek ev : Int) (b1 : Nat) (v1 : Value) (b2 : Nat) (v2 : Value) (b3 : Nat) (v3 : Value) : ((VE4 ku vu xu bx ek ev b1 v1 b2 v2 b3 v3).map (·.2.1)).Nodup := by rw [VE4_slots]; decide
theorem VE4_nd' (ku vu xu : Value) (bx : Nat) (ek ev : Int) (b1 : Nat) (v1 : Value) (b2 : Nat) (v2 : Value) (b3 : Nat) (v3 : Value) : ((VE4 ku vu xu bx ek ev b1 v1 b2 v2 b3 v3).map (·.1)).Nodup := by rw [VE4_idx]; decide
theorem VE4_not6 (ku vu xu : Value) (bx : Nat) (ek ev : Int) (b1 : Nat) (v1 : Value) (b2 : Nat) (v2 : Value) (b3 : Nat) (v3 : Value) : 6 ∉ (VE4 ku vu xu bx ek ev b1 v1 b2 v2 b3 v3).map (·.2.1) := by rw [VE4_slots]; decide

set_option maxRecDepth 100000 in
set_option maxHeartbeats 4000000 in
theorem entries_pos {w : World} {base n g gs : Nat} {vd : Value} {d : List Pl.Ent} {sp : List Int} (h : PpW w base n g gs vd d sp) (hn : n ≤ 1000000) :
    Calls Try.prog 68 #[mptr g] w fun e w' => ∃ k v x, e = .returned (.tuple #[k, v, x]) ∧ EnAt w w' d d.length k v x := by
  have HCO := Lib.hid (ppcontents_any h)
  obtain ⟨a, c, rfl, hlc, hcm, hcell⟩ := own_form h.hd
  have hle := h.hi.le
  have HC := Lib.hid hcell; clear hcell h
  go_enter Try.func68, Try.ntmps68
  go_wp2_with fail
  refine HCO.out.mono ?_
  rintro e w' ⟨rfl, rfl⟩
  go_wp2
  go_loopw [2, 3, 4, 10] (fun k v x i wr => ∃ j : Nat, j ≤ d.length ∧ i = .int .i64 j ∧ EnAt w wr d j k v x) (fun _ _ _ i _ => d.length - (intOf i).toNat)
  case atStart => exact ⟨0, Nat.zero_le _, rfl, World.ownsRow_nil _ _ _ _, World.ownsRow_nil _ _ _ _, World.ownsRow_nil _ _ _ _, Bel.refl w⟩
  case round =>
    obtain ⟨j, hj, rfl, hE⟩ := hrel
    have HE := Lib.hid hE; clear hE
    have hbs := HE.out.bel.size
    by_cases hlt : j < d.length
    · obtain ⟨gd, rfl, hgd⟩ := HC.out (by omega)
      obtain ⟨e, he⟩ : ∃ e, d[j]? = some e := ⟨_, List.getElem?_eq_getElem hlt⟩
      have hc0 := HE.out.bel.cell (hgd _ _ (posCells_at he 0 (by omega)))
      have hc1 := HE.out.bel.cell (hgd _ _ (posCells_at he 1 (by omega)))
      have hc2 := HE.out.bel.cell (hgd _ _ (posCells_at he 2 (by omega)))
      have hc3 := HE.out.bel.cell (hgd _ _ (posCells_at he 3 (by omega)))
      rw [Nat.add_zero] at hc0
      have HEK := Lib.hid (idCells_snoc he)
      have HEV := Lib.hid (valCells_snoc he)
      have HEX := Lib.hid (xpCells_snoc he)
      clear hgd he
      obtain ⟨ek, ev⟩ := e
      simp only at hc0 hc1 hc2 hc3 HEK HEV HEX
      have hba := (Bel.refl wr).alloc (.cells #[.int .i32 ek, .int .i32 ev, .int .i32 0, .int .u32 (ev * 4096 + 16)] 136)
      have HEI : Hid (EnI w j (idCells (d.take j)) (valCells (d.take j)) (xpCells (d.take j)) ek ev u2 u3 u4 wr.heap.size (fun _ => false) 0 (.bool false) 0 (.bool false) 0 (.bool false) (wr.alloc (.cells #[.int .i32 ek, .int .i32 ev, .int .i32 0, .int .u32 (ev * 4096 + 16)] 136)).drew) := Lib.hid (by
        have hb2 := hba.drew
        exact ⟨HE.out.bel.trans hb2, ((Blk.new wr _ [_, _, _, _])).drew, ⟨fun _ => own_bel HE.out.k hb2, fun h => (by cases h), fun h => (by cases h)⟩, ⟨fun _ => own_bel HE.out.v hb2, fun h => (by cases h), fun h => (by cases h)⟩, ⟨fun _ => own_bel HE.out.x hb2, fun h => (by cases h), fun h => (by cases h)⟩⟩)
      clear hba HE
      go_upto_region 4 with (fail)
      obtain ⟨bx, hbx⟩ : ∃ b, b = wr.heap.size := ⟨_, rfl⟩
      rw [← hbx] at HEI
      refine act_name (fun a0 ha0 => ?_)
      have so2 : a0.eval (.tmp 2) = u2 := by rw [ha0]; rfl
      have so3 : a0.eval (.tmp 3) = u3 := by rw [ha0]; rfl
      have so4 : a0.eval (.tmp 4) = u4 := by rw [ha0]; rfl
      have so6 : a0.eval (.tmp 6) = .pointer (some ⟨bx, 0, none⟩) := by rw [ha0, hbx]; rfl
      have hsz : a0.tmps.size = 33 := by rw [ha0]; rfl
      have HA0 := Lib.hid ha0; clear ha0
      obtain ⟨ku, hku⟩ : ∃ x, x = u2 := ⟨_, rfl⟩
      obtain ⟨vu, hvu⟩ : ∃ x, x = u3 := ⟨_, rfl⟩
      obtain ⟨xu, hxu⟩ : ∃ x, x = u4 := ⟨_, rfl⟩
      rw [← hku] at so2 HEI
      rw [← hvu] at so3 HEI
      rw [← hxu] at so4 HEI
      refine region_obs3 (fun D a' W => ∃ (b1 : Nat) (v1 : Value) (b2 : Nat) (v2 : Value) (b3 : Nat) (v3 : Value), a' = frC a0 D (VE4 ku vu xu bx ek ev b1 v1 b2 v2 b3 v3) ∧ EnI w j (idCells (d.take j)) (valCells (d.take j)) (xpCells (d.take j)) ek ev ku vu xu bx D b1 v1 b2 v2 b3 v3 W) (by kernel_rfl) (by kernel_rfl) ⟨0, .bool false, 0, .bool false, 0, .bool false, (frC_none _ _).symm, HEI.out⟩ ?_ ?_
      · refine ⟨?_, ?_, ?_, ?_, ?_, ?_, ?_, ?_, ?_, ?_, ?_, ?_, ?_, ?_, ?_, ?_, ?_, ?_, trivial⟩
        · rintro D _ W hD hcl hdeps ⟨b1, v1, b2, v2, b3, v3, rfl, hW⟩
          have hm15 : D 15 = false := by cases h : D 15; rfl; have := hcl 15 _ rfl h ⟨0, .phase⟩ (by simp) rfl; rw [hD] at this; cases this
          have e2 := ev_get ((frC_wait (a0 := a0) (D := D) (t := 2) (vs := VE4 ku vu xu bx ek ev b1 v1 b2 v2 b3 v3) (fun e he ht => by simp only [VE4, List.mem_cons, List.not_mem_nil, or_false] at he; rcases he with rfl | rfl | rfl | rfl | rfl | rfl | rfl | rfl | rfl | rfl | rfl | rfl | rfl | rfl | rfl | rfl | rfl | rfl <;> first | exact hm15 | (simp at ht))).trans so2)
          refine ob_val rfl (v := ku) (by simp [execOp, go_sem, e2]) ⟨b1, v1, b2, v2, b3, v3, frC_put hD (by simp [VE4]) (VE4_nd _ _ _ _ _ _ _ _ _ _ _ _) (VE4_nd' _ _ _ _ _ _ _ _ _ _ _ _), hW.quiet (by decide)⟩
        · rintro D _ W hD hcl hdeps ⟨b1, v1, b2, v2, b3, v3, rfl, hW⟩
          have e6 := ev_get ((frC_out (a0 := a0) (D := D) (VE4_not6 ku vu xu bx ek ev b1 v1 b2 v2 b3 v3)).trans so6)
          refine ob_val rfl (v := .pointer (some ⟨bx, 0, none⟩)) (by simp [execOp, go_sem, e6]) ⟨b1, v1, b2, v2, b3, v3, frC_put hD (by simp [VE4]) (VE4_nd _ _ _ _ _ _ _ _ _ _ _ _) (VE4_nd' _ _ _ _ _ _ _ _ _ _ _ _), hW.quiet (by decide)⟩
        · rintro D _ W hD hcl hdeps ⟨b1, v1, b2, v2, b3, v3, rfl, hW⟩
          have hd1 : D 1 = true := hdeps ⟨1, .data⟩ (by simp) rfl
          have e15 := ev_get (frC_in (v := .pointer (some ⟨bx, 0, none⟩)) hd1 (show 15 < a0.tmps.size by rw [hsz]; decide) (vs := VE4 ku vu xu bx ek ev b1 v1 b2 v2 b3 v3) (by simp [VE4]) (VE4_nd _ _ _ _ _ _ _ _ _ _ _ _))
          have z0 : W.cell? ⟨bx, 0, none⟩ = some (.int .i32 ek) := hW.box.cell 0
          refine ob_val rfl (v := .int .i32 ek) (by simp [execOp, go_sem, e15, z0]) ⟨b1, v1, b2, v2, b3, v3, frC_put hD (by simp [VE4]) (VE4_nd _ _ _ _ _ _ _ _ _ _ _ _) (VE4_nd' _ _ _ _ _ _ _ _ _ _ _ _), hW.quiet (by decide)⟩
        · rintro D _ W hD hcl hdeps ⟨b1, v1, b2, v2, b3, v3, rfl, hW⟩
          have hd2 : D 2 = true := hdeps ⟨2, .data⟩ (by simp) rfl
          have e16 := ev_get (frC_in (v := .int .i32 ek) hd2 (show 16 < a0.tmps.size by rw [hsz]; decide) (vs := VE4 ku vu xu bx ek ev b1 v1 b2 v2 b3 v3) (by simp [VE4]) (VE4_nd _ _ _ _ _ _ _ _ _ _ _ _))
          refine ob_val rfl (v := .slice (some ⟨W.heap.size, 0, none⟩) 1 1) (w' := W.alloc (.cells #[.int .i32 ek] 86)) (by simp [execOp, go_sem, e16]) ⟨W.heap.size, v1, b2, v2, b3, v3, by rw [show frC a0 D (VE4 ku vu xu bx ek ev b1 v1 b2 v2 b3 v3) = frC a0 D (VE4 ku vu xu bx ek ev (W.heap.size) v1 b2 v2 b3 v3) from by simp only [VE4, frC, hD, Bool.false_eq_true, if_false]]; exact frC_put hD (by simp [VE4]) (VE4_nd _ _ _ _ _ _ _ _ _ _ _ _) (VE4_nd' _ _ _ _ _ _ _ _ _ _ _ _), hW.mk1 hD⟩
        · rintro D _ W hD hcl hdeps ⟨b1, v1, b2, v2, b3, v3, rfl, hW⟩
          have hd0 : D 0 = true := hdeps ⟨0, .data⟩ (by simp) rfl
          have E14 := frC_in (v := ku) hd0 (show 14 < a0.tmps.size by rw [hsz]; decide) (vs := VE4 ku vu xu bx ek ev b1 v1 b2 v2 b3 v3) (by simp [VE4]) (VE4_nd _ _ _ _ _ _ _ _ _ _ _ _)
          have hd3 : D 3 = true := hdeps ⟨3, .data⟩ (by simp) rfl
          have E17 := frC_in (v := .slice (some ⟨b1, 0, none⟩) 1 1) hd3 (show 17 < a0.tmps.size by rw [hsz]; decide) (vs := VE4 ku vu xu bx ek ev b1 v1 b2 v2 b3 v3) (by simp [VE4]) (VE4_nd _ _ _ _ _ _ _ _ _ _ _ _)
          have hL := hW.l1
          refine step_app el74 rfl (.tmp 14) (.tmp 17) rfl w.heap.size ku j (idCells (d.take j)) E14 (hL.old hD) b1 [.int .i32 ek] E17 (hL.blk hd3 hD) rfl (by simp [Value.oneCell']) (by omega) (by omega) hW.bel.size ?_
          intro g7 cap7 w7 ho7 hg7 _ _
          have hn15 : D 15 = false := by cases h : D 15; rfl; have := hcl 15 _ rfl h ⟨4, .data⟩ (by simp) rfl; rw [hD] at this; cases this
          exact ⟨b1, .slice (some ⟨g7, 0, none⟩) (j + 1) cap7, b2, v2, b3, v3, by rw [show frC a0 D (VE4 ku vu xu bx ek ev b1 v1 b2 v2 b3 v3) = frC a0 D (VE4 ku vu xu bx ek ev b1 (.slice (some ⟨g7, 0, none⟩) (j + 1) cap7) b2 v2 b3 v3) from by simp only [VE4, frC, hD, hn15, Bool.false_eq_true, if_false]]; exact frC_put hD (by simp [VE4]) (VE4_nd _ _ _ _ _ _ _ _ _ _ _ _) (VE4_nd' _ _ _ _ _ _ _ _ _ _ _ _), hW.ap1 hD ho7 hg7⟩
        · rintro D _ W hD hcl hdeps ⟨b1, v1, b2, v2, b3, v3, rfl, hW⟩
          have hm16 : D 16 = false := by cases h : D 16; rfl; have := hcl 16 _ rfl h ⟨5, .phase⟩ (by simp) rfl; rw [hD] at this; cases this
          have e3 := ev_get ((frC_wait (a0 := a0) (D := D) (t := 3) (vs := VE4 ku vu xu bx ek ev b1 v1 b2 v2 b3 v3) (fun e he ht => by simp only [VE4, List.mem_cons, List.not_mem_nil, or_false] at he; rcases he with rfl | rfl | rfl | rfl | rfl | rfl | rfl | rfl | rfl | rfl | rfl | rfl | rfl | rfl | rfl | rfl | rfl | rfl <;> first | exact hm16 | (simp at ht))).trans so3)
          refine ob_val rfl (v := vu) (by simp [execOp, go_sem, e3]) ⟨b1, v1, b2, v2, b3, v3, frC_put hD (by simp [VE4]) (VE4_nd _ _ _ _ _ _ _ _ _ _ _ _) (VE4_nd' _ _ _ _ _ _ _ _ _ _ _ _), hW.quiet (by decide)⟩
        · rintro D _ W hD hcl hdeps ⟨b1, v1, b2, v2, b3, v3, rfl, hW⟩
          have e6 := ev_get ((frC_out (a0 := a0) (D := D) (VE4_not6 ku vu xu bx ek ev b1 v1 b2 v2 b3 v3)).trans so6)
          refine ob_val rfl (v := .pointer (some ⟨bx, 1, none⟩)) (by simp [execOp, go_sem, e6]) ⟨b1, v1, b2, v2, b3, v3, frC_put hD (by simp [VE4]) (VE4_nd _ _ _ _ _ _ _ _ _ _ _ _) (VE4_nd' _ _ _ _ _ _ _ _ _ _ _ _), hW.quiet (by decide)⟩
        · rintro D _ W hD hcl hdeps ⟨b1, v1, b2, v2, b3, v3, rfl, hW⟩
          have hd6 : D 6 = true := hdeps ⟨6, .data⟩ (by simp) rfl
          have e20 := ev_get (frC_in (v := .pointer (some ⟨bx, 1, none⟩)) hd6 (show 20 < a0.tmps.size by rw [hsz]; decide) (vs := VE4 ku vu xu bx ek ev b1 v1 b2 v2 b3 v3) (by simp [VE4]) (VE4_nd _ _ _ _ _ _ _ _ _ _ _ _))
          have z0 : W.cell? ⟨bx, 1, none⟩ = some (.int .i32 ev) := hW.box.cell 1
          refine ob_val rfl (v := .int .i32 ev) (by simp [execOp, go_sem, e20, z0]) ⟨b1, v1, b2, v2, b3, v3, frC_put hD (by simp [VE4]) (VE4_nd _ _ _ _ _ _ _ _ _ _ _ _) (VE4_nd' _ _ _ _ _ _ _ _ _ _ _ _), hW.quiet (by decide)⟩
        · rintro D _ W hD hcl hdeps ⟨b1, v1, b2, v2, b3, v3, rfl, hW⟩
          have hd7 : D 7 = true := hdeps ⟨7, .data⟩ (by simp) rfl
          have e21 := ev_get (frC_in (v := .int .i32 ev) hd7 (show 21 < a0.tmps.size by rw [hsz]; decide) (vs := VE4 ku vu xu bx ek ev b1 v1 b2 v2 b3 v3) (by simp [VE4]) (VE4_nd _ _ _ _ _ _ _ _ _ _ _ _))
          refine ob_val rfl (v := .slice (some ⟨W.heap.size, 0, none⟩) 1 1) (w' := W.alloc (.cells #[.int .i32 ev] 21)) (by simp [execOp, go_sem, e21]) ⟨b1, v1, W.heap.size, v2, b3, v3, by rw [show frC a0 D (VE4 ku vu xu bx ek ev b1 v1 b2 v2 b3 v3) = frC a0 D (VE4 ku vu xu bx ek ev b1 v1 (W.heap.size) v2 b3 v3) from by simp only [VE4, frC, hD, Bool.false_eq_true, if_false]]; exact frC_put hD (by simp [VE4]) (VE4_nd _ _ _ _ _ _ _ _ _ _ _ _) (VE4_nd' _ _ _ _ _ _ _ _ _ _ _ _), hW.mk2 hD⟩
        · rintro D _ W hD hcl hdeps ⟨b1, v1, b2, v2, b3, v3, rfl, hW⟩
          have hd5 : D 5 = true := hdeps ⟨5, .data⟩ (by simp) rfl
          have E19 := frC_in (v := vu) hd5 (show 19 < a0.tmps.size by rw [hsz]; decide) (vs := VE4 ku vu xu bx ek ev b1 v1 b2 v2 b3 v3) (by simp [VE4]) (VE4_nd _ _ _ _ _ _ _ _ _ _ _ _)
          have hd8 : D 8 = true := hdeps ⟨8, .data⟩ (by simp) rfl
          have E22 := frC_in (v := .slice (some ⟨b2, 0, none⟩) 1 1) hd8 (show 22 < a0.tmps.size by rw [hsz]; decide) (vs := VE4 ku vu xu bx ek ev b1 v1 b2 v2 b3 v3) (by simp [VE4]) (VE4_nd _ _ _ _ _ _ _ _ _ _ _ _)
          have hL := hW.l2
          refine step_app el94 rfl (.tmp 19) (.tmp 22) rfl w.heap.size vu j (valCells (d.take j)) E19 (hL.old hD) b2 [.int .i32 ev] E22 (hL.blk hd8 hD) rfl (by simp [Value.oneCell']) (by omega) (by omega) hW.bel.size ?_
          intro g7 cap7 w7 ho7 hg7 _ _
          have hn16 : D 16 = false := by cases h : D 16; rfl; have := hcl 16 _ rfl h ⟨9, .data⟩ (by simp) rfl; rw [hD] at this; cases this
          exact ⟨b1, v1, b2, .slice (some ⟨g7, 0, none⟩) (j + 1) cap7, b3, v3, by rw [show frC a0 D (VE4 ku vu xu bx ek ev b1 v1 b2 v2 b3 v3) = frC a0 D (VE4 ku vu xu bx ek ev b1 v1 b2 (.slice (some ⟨g7, 0, none⟩) (j + 1) cap7) b3 v3) from by simp only [VE4, frC, hD, hn16, Bool.false_eq_true, if_false]]; exact frC_put hD (by simp [VE4]) (VE4_nd _ _ _ _ _ _ _ _ _ _ _ _) (VE4_nd' _ _ _ _ _ _ _ _ _ _ _ _), hW.ap2 hD ho7 hg7⟩
        · rintro D _ W hD hcl hdeps ⟨b1, v1, b2, v2, b3, v3, rfl, hW⟩
          have hm17 : D 17 = false := by cases h : D 17; rfl; have := hcl 17 _ rfl h ⟨10, .phase⟩ (by simp) rfl; rw [hD] at this; cases this
          have e4 := ev_get ((frC_wait (a0 := a0) (D := D) (t := 4) (vs := VE4 ku vu xu bx ek ev b1 v1 b2 v2 b3 v3) (fun e he ht => by simp only [VE4, List.mem_cons, List.not_mem_nil, or_false] at he; rcases he with rfl | rfl | rfl | rfl | rfl | rfl | rfl | rfl | rfl | rfl | rfl | rfl | rfl | rfl | rfl | rfl | rfl | rfl <;> first | exact hm17 | (simp at ht))).trans so4)
          refine ob_val rfl (v := xu) (by simp [execOp, go_sem, e4]) ⟨b1, v1, b2, v2, b3, v3, frC_put hD (by simp [VE4]) (VE4_nd _ _ _ _ _ _ _ _ _ _ _ _) (VE4_nd' _ _ _ _ _ _ _ _ _ _ _ _), hW.quiet (by decide)⟩
        · rintro D _ W hD hcl hdeps ⟨b1, v1, b2, v2, b3, v3, rfl, hW⟩
          have e6 := ev_get ((frC_out (a0 := a0) (D := D) (VE4_not6 ku vu xu bx ek ev b1 v1 b2 v2 b3 v3)).trans so6)
          refine ob_val rfl (v := .pointer (some ⟨bx, 2, none⟩)) (by simp [execOp, go_sem, e6]) ⟨b1, v1, b2, v2, b3, v3, frC_put hD (by simp [VE4]) (VE4_nd _ _ _ _ _ _ _ _ _ _ _ _) (VE4_nd' _ _ _ _ _ _ _ _ _ _ _ _), hW.quiet (by decide)⟩
        · rintro D _ W hD hcl hdeps ⟨b1, v1, b2, v2, b3, v3, rfl, hW⟩
          have hd11 : D 11 = true := hdeps ⟨11, .data⟩ (by simp) rfl
          have e25 := ev_get (frC_in (v := .pointer (some ⟨bx, 2, none⟩)) hd11 (show 25 < a0.tmps.size by rw [hsz]; decide) (vs := VE4 ku vu xu bx ek ev b1 v1 b2 v2 b3 v3) (by simp [VE4]) (VE4_nd _ _ _ _ _ _ _ _ _ _ _ _))
          have z0 : W.cell? ⟨bx, 2, none⟩ = some (.int .i32 0) := hW.box.cell 2
          have z1 : W.cell? ⟨bx, 3, none⟩ = some (.int .u32 (ev * 4096 + 16)) := hW.box.cell 3
          refine ob_val rfl (v := .agg #[.int .i32 0, .int .u32 (ev * 4096 + 16)]) (by simp [execOp, go_sem, e25, z0, z1]) ⟨b1, v1, b2, v2, b3, v3, frC_put hD (by simp [VE4]) (VE4_nd _ _ _ _ _ _ _ _ _ _ _ _) (VE4_nd' _ _ _ _ _ _ _ _ _ _ _ _), hW.quiet (by decide)⟩
        · rintro D _ W hD hcl hdeps ⟨b1, v1, b2, v2, b3, v3, rfl, hW⟩
          have hd12 : D 12 = true := hdeps ⟨12, .data⟩ (by simp) rfl
          have e26 := ev_get (frC_in (v := .agg #[.int .i32 0, .int .u32 (ev * 4096 + 16)]) hd12 (show 26 < a0.tmps.size by rw [hsz]; decide) (vs := VE4 ku vu xu bx ek ev b1 v1 b2 v2 b3 v3) (by simp [VE4]) (VE4_nd _ _ _ _ _ _ _ _ _ _ _ _))
          refine ob_val rfl (v := .slice (some ⟨W.heap.size, 0, none⟩) 1 1) (w' := W.alloc (.cells #[.int .i32 0, .int .u32 (ev * 4096 + 16)] 103)) (by simp [execOp, go_sem, e26]) ⟨b1, v1, b2, v2, W.heap.size, v3, by rw [show frC a0 D (VE4 ku vu xu bx ek ev b1 v1 b2 v2 b3 v3) = frC a0 D (VE4 ku vu xu bx ek ev b1 v1 b2 v2 (W.heap.size) v3) from by simp only [VE4, frC, hD, Bool.false_eq_true, if_false]]; exact frC_put hD (by simp [VE4]) (VE4_nd _ _ _ _ _ _ _ _ _ _ _ _) (VE4_nd' _ _ _ _ _ _ _ _ _ _ _ _), hW.mk3 hD⟩
        · rintro D _ W hD hcl hdeps ⟨b1, v1, b2, v2, b3, v3, rfl, hW⟩
          have hd10 : D 10 = true := hdeps ⟨10, .data⟩ (by simp) rfl
          have E24 := frC_in (v := xu) hd10 (show 24 < a0.tmps.size by rw [hsz]; decide) (vs := VE4 ku vu xu bx ek ev b1 v1 b2 v2 b3 v3) (by simp [VE4]) (VE4_nd _ _ _ _ _ _ _ _ _ _ _ _)
          have hd13 : D 13 = true := hdeps ⟨13, .data⟩ (by simp) rfl
          have E27 := frC_in (v := .slice (some ⟨b3, 0, none⟩) 1 1) hd13 (show 27 < a0.tmps.size by rw [hsz]; decide) (vs := VE4 ku vu xu bx ek ev b1 v1 b2 v2 b3 v3) (by simp [VE4]) (VE4_nd _ _ _ _ _ _ _ _ _ _ _ _)
          have hL := hW.l3
          refine step_app elXpS rfl (.tmp 24) (.tmp 27) rfl w.heap.size xu j (xpCells (d.take j)) E24 (hL.old hD) b3 [.int .i32 0, .int .u32 (ev * 4096 + 16)] E27 (hL.blk hd13 hD) rfl (by simp [Value.oneCell']) (by omega) (by omega) hW.bel.size ?_
          intro g7 cap7 w7 ho7 hg7 _ _
          have hn17 : D 17 = false := by cases h : D 17; rfl; have := hcl 17 _ rfl h ⟨14, .data⟩ (by simp) rfl; rw [hD] at this; cases this
          exact ⟨b1, v1, b2, v2, b3, .slice (some ⟨g7, 0, none⟩) (j + 1) cap7, by rw [show frC a0 D (VE4 ku vu xu bx ek ev b1 v1 b2 v2 b3 v3) = frC a0 D (VE4 ku vu xu bx ek ev b1 v1 b2 v2 b3 (.slice (some ⟨g7, 0, none⟩) (j + 1) cap7)) from by simp only [VE4, frC, hD, hn17, Bool.false_eq_true, if_false]]; exact frC_put hD (by simp [VE4]) (VE4_nd _ _ _ _ _ _ _ _ _ _ _ _) (VE4_nd' _ _ _ _ _ _ _ _ _ _ _ _), hW.ap3 hD ho7 hg7⟩
        · rintro D _ W hD hcl hdeps ⟨b1, v1, b2, v2, b3, v3, rfl, hW⟩
          have hd4 : D 4 = true := hdeps ⟨4, .data⟩ (by simp) rfl
          have e18 := ev_get (frC_in (v := v1) hd4 (show 18 < a0.tmps.size by rw [hsz]; decide) (vs := VE4 ku vu xu bx ek ev b1 v1 b2 v2 b3 v3) (by simp [VE4]) (VE4_nd _ _ _ _ _ _ _ _ _ _ _ _))
          refine ob_val rfl (v := v1) (by simp [execOp, go_sem, e18]) ⟨b1, v1, b2, v2, b3, v3, frC_put hD (by simp [VE4]) (VE4_nd _ _ _ _ _ _ _ _ _ _ _ _) (VE4_nd' _ _ _ _ _ _ _ _ _ _ _ _), hW.quiet (by decide)⟩
        · rintro D _ W hD hcl hdeps ⟨b1, v1, b2, v2, b3, v3, rfl, hW⟩
          have hd9 : D 9 = true := hdeps ⟨9, .data⟩ (by simp) rfl
          have e23 := ev_get (frC_in (v := v2) hd9 (show 23 < a0.tmps.size by rw [hsz]; decide) (vs := VE4 ku vu xu bx ek ev b1 v1 b2 v2 b3 v3) (by simp [VE4]) (VE4_nd _ _ _ _ _ _ _ _ _ _ _ _))
          refine ob_val rfl (v := v2) (by simp [execOp, go_sem, e23]) ⟨b1, v1, b2, v2, b3, v3, frC_put hD (by simp [VE4]) (VE4_nd _ _ _ _ _ _ _ _ _ _ _ _) (VE4_nd' _ _ _ _ _ _ _ _ _ _ _ _), hW.quiet (by decide)⟩
        · rintro D _ W hD hcl hdeps ⟨b1, v1, b2, v2, b3, v3, rfl, hW⟩
          have hd14 : D 14 = true := hdeps ⟨14, .data⟩ (by simp) rfl
          have e28 := ev_get (frC_in (v := v3) hd14 (show 28 < a0.tmps.size by rw [hsz]; decide) (vs := VE4 ku vu xu bx ek ev b1 v1 b2 v2 b3 v3) (by simp [VE4]) (VE4_nd _ _ _ _ _ _ _ _ _ _ _ _))
          refine ob_val rfl (v := v3) (by simp [execOp, go_sem, e28]) ⟨b1, v1, b2, v2, b3, v3, frC_put hD (by simp [VE4]) (VE4_nd _ _ _ _ _ _ _ _ _ _ _ _) (VE4_nd' _ _ _ _ _ _ _ _ _ _ _ _), hW.quiet (by decide)⟩
      · rintro D _ W hall ⟨b1, v1, b2, v2, b3, v3, rfl, hW⟩
        rw [frC_all (fun e he => hall e.1 (by have h1 : e.1 ∈ (VE4 ku vu xu bx ek ev b1 v1 b2 v2 b3 v3).map (·.1) := List.mem_map.2 ⟨e, he, rfl⟩; rw [VE4_idx] at h1; simp at h1; show e.1 < 18; omega))]
        have HEN : Hid (EnAt w W d (j + 1) v1 v2 v3) := Lib.hid (by
          refine ⟨?_, ?_, ?_, hW.bel⟩
          · rw [HEK.out]; exact hW.l1.new (hall 4 (by decide))
          · rw [HEV.out]; exact hW.l2.new (hall 9 (by decide))
          · rw [HEX.out]; exact hW.l3.new (hall 14 (by decide)))
        rw [HA0.out]
        simp only [VE4, List.foldr_cons, List.foldr_nil, Act.put, List.setIfInBounds_toArray, List.set_cons_succ, List.set_cons_zero]
        clear hW hall HA0 so2 so3 so4 so6 hsz HEI hku hvu hxu hbx hc0 hc1 hc2 hc3
        go_wp2
        go_roundw
        case rel => exact ⟨j + 1, by omega, by go_num, HEN.out⟩
        case measure => simp [intOf]; omega
    · obtain rfl : j = d.length := by omega
      obtain ⟨k1, k2, rfl, _, _, _⟩ := own_form HE.out.k
      obtain ⟨y1, y2, rfl, _, _, _⟩ := own_form HE.out.v
      obtain ⟨x1, x2, rfl, _, _, _⟩ := own_form HE.out.x
      go_wp2
      go_returns
      exact ⟨_, _, _, rfl, HE.out⟩
end Go.Proofs.Ytdmjcgipfkhibaa
