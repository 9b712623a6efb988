/- A table's position in full; what of memory is no part of the files. -/
import Derived.Test.YtbekmpmfkblgnaaTable2
import Derived.Test.YtbekmpmfkblgnaaInv3
namespace Go.Proofs.Ytbekmpmfkblgnaa
open Go.RowKit Go.BigFrame

set_option maxRecDepth 100000 in
set_option maxHeartbeats 2000000 in
theorem tabPos_any (f gv L cap q g : Nat) (lc : Int) (w : World) (c0 : w.cell? ⟨f, 0, none⟩ = some (.slice (some ⟨gv, 0, none⟩) L cap)) (cq : w.cell? ⟨gv, q, none⟩ = some (ptr g)) (h0 : 0 < q) (h1 : q < L) :
    Calls Try.prog 51 #[ptr f, .agg #[.int .i32 (q : Int), .int .u32 lc]] w fun e w' => e = .returned (.agg #[ptr g, .int .u32 lc]) ∧ Bel w w' := by
  have hA := (Blk.new w 77 [.int .i32 (q : Int), .int .u32 lc]).alloc (.cells #[.pointer none, .int .u32 0] 65)
  have hB := Blk.new (w.alloc (.cells #[.int .i32 (q : Int), .int .u32 lc] 77)) 65 [.pointer none, .int .u32 0]
  have hb : Bel w ((w.alloc (.cells #[.int .i32 (q : Int), .int .u32 lc] 77)).alloc (.cells #[.pointer none, .int .u32 0] 65)) := ((Bel.refl w).alloc _).alloc _
  rw [World.size_alloc] at hB
  have hne : ((q : Int) == 0) = false := by simp; omega
  go_enter Try.func51, Try.ntmps51
  have a0 : ((w.alloc (.cells #[.int .i32 (q : Int), .int .u32 lc] 77)).alloc (.cells #[.pointer none, .int .u32 0] 65)).cell? ⟨w.heap.size, 0, none⟩ = some (.int .i32 (q : Int)) := hA.cell 0
  go_upto_region 3 with (fail)
  change Blk ((w.alloc (.cells #[.int .i32 (q : Int), .int .u32 lc] 77)).alloc (.cells #[.pointer none, .int .u32 0] 65)) _ _ _ at hA
  change Blk ((w.alloc (.cells #[.int .i32 (q : Int), .int .u32 lc] 77)).alloc (.cells #[.pointer none, .int .u32 0] 65)) _ _ _ at hB
  generalize (w.alloc (.cells #[.int .i32 (q : Int), .int .u32 lc] 77)).alloc (.cells #[.pointer none, .int .u32 0] 65) = W at hA hB hb a0 ⊢
  replace c0 := hb.cell c0
  replace cq := hb.cell cq
  have i0 : (0 : Int) ≤ (q : Int) := by omega
  have i1 : (q : Int) < (L : Int) := by omega
  go_quiet (fail)
  have a1 : W.cell? ⟨w.heap.size, 1, none⟩ = some (.int .u32 lc) := hA.cell 1
  have b0 : W.cell? ⟨w.heap.size + 1, 0, none⟩ = some (.pointer none) := hB.cell 0
  have b1 : W.cell? ⟨w.heap.size + 1, 1, none⟩ = some (.int .u32 0) := hB.cell 1
  have f0 := hB.frozen 0
  have f1 := hB.frozen 1
  go_wp2
  exact bodyPost_ret (v := .agg #[ptr g, .int .u32 lc]) (by simp [results, Try.results51, go_sem, b0, b1]) rfl ⟨rfl, bel_setI (bel_setI (hb.drewN _) (p := ⟨w.heap.size + 1, 0, none⟩) (by simp)) (p := ⟨w.heap.size + 1, 1, none⟩) (by simp)⟩

theorem own_own_ne2 {w : World} {b1 b2 : Nat} {e1 e2 : TypeId} {s1 s2 n1 n2 : Nat} {v1 v2 : Value} {x1 x2 : List Value} (h1 : w.ownsRow b1 e1 s1 v1 n1 x1) (h2 : w.ownsRow b2 e2 s2 v2 n2 x2) (hne : e1 ≠ e2) : ∀ k, v1.ownBlock = some k → v2.ownBlock ≠ some k := by
  intro k hk1 hk2
  rcases h1.2 with ⟨rfl, _⟩ | ⟨g, cap, cur, rfl, _, hh, _⟩
  · simp [Value.ownBlock] at hk1
  · rcases h2.2 with ⟨rfl, _⟩ | ⟨g', cap', cur', rfl, _, hh', _⟩
    · simp [Value.ownBlock] at hk2
    · have a1 : g = k := by simpa [Value.ownBlock] using hk1
      have a2 : g' = k := by simpa [Value.ownBlock] using hk2
      subst a1 a2
      rw [hh] at hh'
      injection hh' with hh'
      injection hh' with _ ht _
      exact hne ht
/-- A row of another kind is no part of the files. -/
theorem Files.notMine {W : World} {f : Nat} {gs : List Nat} {nms : List ByteArray} {reg S : List Nat} (h : Files W f gs nms reg S) {base : Nat} {e : TypeId} {size n : Nat} {u : Value} {xs : List Value} (ho : W.ownsRow base e size u n xs)
    (h1 : e ≠ 73) (h2 : e ≠ 93) (h3 : e ≠ 61) : ∀ k, u.ownBlock = some k → k ∉ f :: gs ++ S := by
  obtain ⟨v, ⟨hT, hB, _⟩, _, _⟩ := h
  intro k hk hm
  simp only [List.cons_append, List.mem_cons, List.mem_append] at hm
  have hgs : k ∈ gs → False := fun hx => by
    obtain ⟨i, hi, rfl⟩ := List.getElem_of_mem hx
    have := hB.one hi
    rw [List.getD_eq_getElem?_getD, List.getElem?_eq_getElem hi] at this
    exact own_ne ho this h2 hk
  obtain ⟨_, ⟨_, _, rfl, hb⟩ | ⟨gv, bi, bn, _, rfl, cap, hb, hr, hi, hn, _⟩⟩ := hT
  · rcases hm with rfl | hm | hm
    · exact own_ne ho hb h1 hk
    · exact hgs hm
    · cases hm
  · rcases hm with rfl | hm | hm
    · exact own_ne ho hb h1 hk
    · exact hgs hm
    · simp at hm
      rcases hm with rfl | rfl | rfl
      · exact own_own_ne2 ho hr h3 _ hk rfl
      · exact hi.own ho hk
      · exact hn.own ho hk
theorem Files.grown {W W' : World} {f : Nat} {gs : List Nat} {nms : List ByteArray} {reg S : List Nat} (h : Files W f gs nms reg S) {base : Nat} {e : TypeId} {size n : Nat} {u : Value} {xs : List Value} (ho : W.ownsRow base e size u n xs) (hg : W.grownBy W' u.ownBlock)
    (h1 : e ≠ 73) (h2 : e ≠ 93) (h3 : e ≠ 61) : Files W' f gs nms reg S := by
  have hm := h.notMine ho h1 h2 h3
  have hk : Kept u.ownBlock.toList W W' := (Kept.refl _ W).grown hg (fun k hk => .inl (by rw [hk]; simp))
  have hT : ∀ x ∈ f :: gs ++ S, x ∉ u.ownBlock.toList := fun x hx hu => hm x (by cases hv : u.ownBlock <;> rw [hv] at hu <;> simp at hu; rw [hu]) hx
  obtain ⟨v, h4, h5, h6⟩ := h
  refine ⟨v, h4.kept hk (hT f (by simp)) (fun x hx => hT x (by simp [hx])) (fun x hx => hT x (by simp [hx])), own_kept h5 hk (fun k hk' hu => ?_), h6⟩
  have : u.ownBlock = some k := by cases hv : u.ownBlock <;> rw [hv] at hu <;> simp at hu; rw [hu]
  exact own_own_ne2 ho h5 h3 _ this hk'

/-- The base of a place that is in the table, by its number. -/
theorem Files.at {W : World} {f : Nat} {gs : List Nat} {nms : List ByteArray} {reg S : List Nat} (h : Files W f gs nms reg S) {i : Nat} (hi : i ∈ reg) :
    ∃ gv L cap q, W.cell? ⟨f, 0, none⟩ = some (.slice (some ⟨gv, 0, none⟩) L cap) ∧ W.cell? ⟨gv, q, none⟩ = some (ptr (gs.getD i 0)) ∧ 0 < q ∧ q < L ∧ regIx reg i + 1 = (q : Int) ∧ Blk W (gs.getD i 0) 93 (fileBase (gs.getD i 0) (nms.getD i ByteArray.empty) (regIx reg i)) := by
  obtain ⟨v, ⟨hT, hB, _, hlt, _⟩, _, _⟩ := h
  obtain ⟨k, hk⟩ := placeOf_mem hi
  have hkl := placeOf_lt hk
  have hks := placeOf_some hk
  obtain ⟨_, ⟨h0, _⟩ | ⟨gv, bi, bn, _, rfl, cap, hb, hr, _, _, _⟩⟩ := hT
  · have : reg = [] := by simpa using h0
    rw [this] at hi; cases hi
  · refine ⟨gv, _, cap, k + 1, hb.cell 0, ?_, by omega, by simp; omega, ?_, hB.one (hlt i hi)⟩
    · have := hr.cells (g := gv) rfl (k + 1) (ptr (gs.getD i 0)) (by rw [List.getElem?_cons_succ, List.getElem?_map, List.getElem?_map, hks]; rfl)
      simpa [Addr.add_lit] using this
    · unfold regIx; rw [hk]; simp
end Go.Proofs.Ytbekmpmfkblgnaa
