/- Positions made compact: XPos; the files of the thin package: at. -/
import Derived.Test.YtbekmpmfkblgnaaDoorPos4
namespace Go.Proofs.YtbekmpmfkblgnaaDoor
open Go.RowKit

set_option maxRecDepth 100000 in
set_option maxHeartbeats 1000000 in
theorem xpos_tab (t : Nat) (ty : TypeId) (rest : List Value) (gs : List Nat) (nms : List ByteArray) (reg S : List Nat) (i : Nat) (lc : Int) (w : World) (h : TabB w t ty rest gs nms reg S) (hi : i < gs.length) :
    Calls Tryd.prog 12 #[ptr t, .agg #[ptr (gs.getD i 0), .int .u32 lc]] w fun e w' => ∃ S', e = .returned (.agg #[.int .i32 (idx reg i), .int .u32 lc]) ∧ TabB w' t ty rest gs nms (regAdd reg i) S' ∧ (∀ x ∈ S', x ∈ S ∨ w.heap.size ≤ x) ∧ Kept (t :: gs ++ S) w w' ∧ (i ∈ reg → Bel w w') := by
  have hlt := h.lt
  have HLT := Lib.hid hlt; clear hlt
  have HH := Lib.hid h; clear h
  generalize hgi : gs.getD i 0 = g
  have HGI := Lib.hid hgi; clear hgi
  go_enter Tryd.func12, Tryd.ntmps12
  go_wp2_with fail
  have hW1 : Bel w ((w.alloc (.cells #[ptr g, .int .u32 lc] 50)).alloc (.cells #[.int .i32 0, .int .u32 0] 32)) := ((Bel.refl w).alloc _).alloc _
  have hB1 : Blk ((w.alloc (.cells #[ptr g, .int .u32 lc] 50)).alloc (.cells #[.int .i32 0, .int .u32 0] 32)) w.heap.size 50 [ptr g, .int .u32 lc] := (Blk.new w _ _).alloc _
  have hB2 : Blk ((w.alloc (.cells #[ptr g, .int .u32 lc] 50)).alloc (.cells #[.int .i32 0, .int .u32 0] 32)) (w.heap.size + 1) 32 [.int .i32 0, .int .u32 0] := by
    have := Blk.new (w.alloc (.cells #[ptr g, .int .u32 lc] 50)) 32 [.int .i32 0, .int .u32 0]
    rwa [World.size_alloc] at this
  have hsz : ((w.alloc (.cells #[ptr g, .int .u32 lc] 50)).alloc (.cells #[.int .i32 0, .int .u32 0] 32)).heap.size = w.heap.size + 2 := by simp
  generalize (w.alloc (.cells #[ptr g, .int .u32 lc] 50)).alloc (.cells #[.int .i32 0, .int .u32 0] 32) = W at hW1 hB1 hB2 hsz ⊢
  have c0 : W.cell? ⟨w.heap.size, 0, none⟩ = some (ptr g) := hB1.cell 0
  have c1 : W.cell? ⟨w.heap.size, 1, none⟩ = some (.int .u32 lc) := hB1.cell 1
  have HW := Lib.hid (And.intro hW1 (And.intro hB1 (And.intro hB2 hsz)))
  clear hW1 hB1 hB2 hsz
  go_region_held3 (fun w' => w'.cell? ⟨w.heap.size, 0, none⟩ = some (ptr g) ∧ w'.cell? ⟨w.heap.size, 1, none⟩ = some (.int .u32 lc))
    (first | exact k1 | go_keep)
    (first
      | (go_at_call 18; refine (HGI.out ▸ baseIndex_tab t ty rest gs nms reg S i _ ((HH.out.bel HW.out.1).bel (Bel.refl W).drew) hi).mono ?_; rintro e w1 ⟨S', rfl, hT1, hS1, hk1, ho1⟩; have k1 : w1.cell? ⟨w.heap.size, 0, none⟩ = some (ptr g) ∧ w1.cell? ⟨w.heap.size, 1, none⟩ = some (.int .u32 lc) := ⟨hk1.cell (v := ptr g) (by exact c0) (fun hx => Nat.lt_irrefl _ (HLT.out _ hx)), hk1.cell (v := .int .u32 lc) (by exact c1) (fun hx => Nat.lt_irrefl _ (HLT.out _ hx))⟩; have hB3 := (HW.out.2.2.1.drew).kept hk1 (fun hx => by have := HLT.out _ hx; omega); have m0 : w1.cell? ⟨w.heap.size + 1, 0, none⟩ = some (.int .i32 0) := hB3.cell 0; have m1 : w1.cell? ⟨w.heap.size + 1, 1, none⟩ = some (.int .u32 0) := hB3.cell 1; have n0 := hB3.frozen 0; have n1 := hB3.frozen 1))
  go_wp2
  refine bodyPost_ret (v := .agg #[.int .i32 (idx reg i), .int .u32 lc]) (by simp [results, Tryd.results12, go_sem, m0, m1]) rfl ?_
  have hsz := HW.out.2.2.2
  have hne : ∀ x ∈ t :: gs ++ S, x ≠ w.heap.size + 1 := fun x hx e => by have := HLT.out _ hx; omega
  have hk2 : Kept [w.heap.size + 1] w1 ((w1.setCell ⟨w.heap.size + 1, 0, none⟩ (.int .i32 (idx reg i))).setCell ⟨w.heap.size + 1, 1, none⟩ (.int .u32 lc)) := ((Kept.refl _ w1).setCell (p := ⟨w.heap.size + 1, 0, none⟩) (.inl (by simp)) _).setCell (p := ⟨w.heap.size + 1, 1, none⟩) (.inl (by simp)) _
  have hS2 : ∀ x ∈ S', x ∈ S ∨ w.heap.size + 2 ≤ x := fun x hx => by
    rcases hS1 x hx with h | h
    · exact .inl h
    · right; rw [World.size_drew, hsz] at h; exact h
  refine ⟨S', rfl, hT1.kept hk2 ?_ ?_ ?_, fun x hx => ?_, ?_, fun hm => ?_⟩
  · simp; exact hne t (by simp)
  · intro x hx; simp; exact hne x (by simp [hx])
  · intro x hx; simp
    rcases hS2 x hx with h | h
    · exact hne x (by simp [h])
    · omega
  · rcases hS2 x hx with h | h
    · exact .inl h
    · exact .inr (by omega)
  · refine ((Kept.of_bel HW.out.1.drew).trans (hk1) (fun i hi => .inl hi)).trans hk2 (fun i hi => ?_)
    simp at hi
    exact .inr (by omega)
  · exact Below.setCell (Below.setCell ((HW.out.1.drew).trans (ho1 hm)) (p := ⟨w.heap.size + 1, 0, none⟩) (by simp) _) (p := ⟨w.heap.size + 1, 1, none⟩) (by simp) _
/-- The files of the thin package: the table at block f, a row v of the bases. -/
def Files (w : World) (f : Nat) (gs : List Nat) (nms : List ByteArray) (reg S : List Nat) : Prop :=
  ∃ v, TabB w f 45 [v] gs nms reg S ∧ w.ownsRow 0 46 1 v gs.length (gs.map ptr) ∧ ∀ k, v.ownBlock = some k → k ∉ S

theorem Files.lt {w : World} {f : Nat} {gs : List Nat} {nms : List ByteArray} {reg S : List Nat} (h : Files w f gs nms reg S) : ∀ x ∈ f :: gs ++ S, x < w.heap.size := by
  obtain ⟨v, h, _⟩ := h
  exact h.lt
theorem Files.bel {w w' : World} {f : Nat} {gs : List Nat} {nms : List ByteArray} {reg S : List Nat} (h : Files w f gs nms reg S) (hb : Bel w w') : Files w' f gs nms reg S := by
  obtain ⟨v, h1, h2, h3⟩ := h
  exact ⟨v, h1.bel hb, own_bel h2 hb, h3⟩
theorem Files.kept {T : List Nat} {w w' : World} {f : Nat} {gs : List Nat} {nms : List ByteArray} {reg S : List Nat} (h : Files w f gs nms reg S) (hk : Kept T w w') (hT : ∀ x ∈ T, w.heap.size ≤ x) : Files w' f gs nms reg S :=
  h.bel ⟨hk.os, hk.tape, hk.output, hk.size, fun k hk' => hk.block k hk' (fun hx => by have := hT k hx; omega)⟩

theorem NewFiles.files {B : Nat} {w : World} {f : Nat} {gs : List Nat} {nms : List ByteArray} (h : NewFiles B w f gs nms) (hn : nms.Nodup) (hl : nms.length ≤ 500) : Files w f gs nms [] [] ∧ ∀ x ∈ f :: gs, B ≤ x := by
  obtain ⟨v, hB, hblk, hown, hge, hbs⟩ := h
  refine ⟨⟨v, ⟨⟨rfl, .inl ⟨rfl, rfl, rfl, hblk⟩⟩, ?_, List.nodup_nil, by simp, hn, by rw [hbs.1]; exact hl, by decide, by decide⟩, own_base hown (fun _ _ => Nat.zero_le _), by simp⟩, ?_⟩
  · have : (fun _ : Nat => (-1 : Int)) = regIx [] := by funext i; rfl
    rw [← this]; exact hbs
  · intro x hx
    rcases List.mem_cons.1 hx with rfl | hx
    · exact hB
    · exact hge x hx

set_option maxRecDepth 100000 in
set_option maxHeartbeats 1000000 in
theorem at_files (f : Nat) (gs : List Nat) (nms : List ByteArray) (reg S : List Nat) (i : Nat) (l c : Int) (w : World) (h : Files w f gs nms reg S) (hi : i < gs.length) (h0 : 0 ≤ l) (hl : l < 1048574) (h1 : 0 ≤ c) (hc : c < 256) :
    Calls Tryd.prog 8 #[ptr f, .int .i64 i, .int .i64 l, .int .i64 c] w fun e w' => ∃ S', e = .returned (.agg #[.int .i32 (idx reg i), .int .u32 (l * 4096 + c * 16)]) ∧ Files w' f gs nms (regAdd reg i) S' ∧ (∀ x ∈ S', x ∈ S ∨ w.heap.size ≤ x) ∧ Kept (f :: gs ++ S) w w' ∧ (i ∈ reg → Bel w w') := by
  have hlt := h.lt
  obtain ⟨v, hT, hown, hvS⟩ := h
  obtain ⟨av, cv, rfl, hcv, hcm, hcell⟩ := own_form hown
  have c3 : w.cell? ⟨f, 3, none⟩ = some (.slice av gs.length cv) := by
    obtain ⟨⟨_, ⟨_, _, _, hb⟩ | ⟨gv, bi, bn, _, _, cap, hb, _⟩⟩, _⟩ := hT
    · exact hb.cell 3
    · exact hb.cell 3
  obtain ⟨ga, rfl, hga⟩ := hcell (by omega)
  have hci : w.cell? ⟨ga, i, none⟩ = some (ptr (gs.getD i 0)) := hga i _ (by rw [List.getElem?_map, getD_some 0 hi]; rfl)
  have hgal : ga < w.heap.size := World.block_lt_of_cell? w _ hci
  have hgaS : ga ∉ f :: gs ++ S := by
    simp only [List.cons_append, List.mem_cons, List.mem_append, not_or]
    refine ⟨fun e => ?_, fun e => ?_, hvS ga rfl⟩
    · obtain ⟨⟨_, ⟨_, _, _, hb⟩ | ⟨gv, bi, bn, _, _, cap, hb, _⟩⟩, _⟩ := hT
      · exact own_ne hown hb (by decide) (by rw [e]; rfl)
      · exact own_ne hown hb (by decide) (by rw [e]; rfl)
    · obtain ⟨j, hj, he⟩ := List.getElem_of_mem e
      have := hT.2.1.one hj
      rw [List.getD_eq_getElem?_getD, List.getElem?_eq_getElem hj] at this
      exact own_ne hown this (by decide) (by simp only [Value.ownBlock]; rw [← he]; rfl)
  have hfl : f < w.heap.size := hlt f (by simp)
  have ne1 := World.new_ne w _ c3
  have ne2 := World.new_ne w _ hci
  have hi0 : (0 : Int) ≤ (i : Int) := by omega
  have hi1 : (i : Int) < (gs.length : Int) := by omega
  have HLT := Lib.hid hlt; clear hlt
  have HT := Lib.hid hT; clear hT
  have HO := Lib.hid hown; clear hown
  have HGA := Lib.hid hga; clear hga
  have HVS := Lib.hid hvS; clear hvS
  have HCELL := Lib.hid hcell; clear hcell
  generalize hgi : gs.getD i 0 = g at hci
  have HGI := Lib.hid hgi; clear hgi
  go_enter Tryd.func8, Tryd.ntmps8
  go_wp2_with fail
  have hW1 : Bel w (w.alloc (.cells #[.int .i32 0, .int .u32 0] 32)) := (Bel.refl w).alloc _
  have hB2 : Blk (w.alloc (.cells #[.int .i32 0, .int .u32 0] 32)) w.heap.size 32 [.int .i32 0, .int .u32 0] := Blk.new w _ _
  have hsz : (w.alloc (.cells #[.int .i32 0, .int .u32 0] 32)).heap.size = w.heap.size + 1 := by simp
  generalize w.alloc (.cells #[.int .i32 0, .int .u32 0] 32) = W at hW1 hB2 hsz ⊢
  have d3 := hW1.cell c3
  have di := hW1.cell hci
  have HW := Lib.hid (And.intro hW1 (And.intro hB2 hsz))
  clear hW1 hB2 hsz
  have wl : IntKind.u64.wrap l = l := IntWalk.u64_in _ (by omega)
  have wcc : IntKind.u64.wrap c = c := IntWalk.u64_in _ (by omega)
  go_region_held3 (fun w' => w'.cell? ⟨f, 3, none⟩ = some (.slice (some ⟨ga, 0, none⟩) gs.length cv) ∧ w'.cell? ⟨ga, i, none⟩ = some (ptr g))
    (first | exact k2 | exact k1 | go_keep)
    (first
      | (go_at_call 13; (with_reducible refine (makePos_any _ l c _ ⟨_, rfl⟩ h0 hl h1 hc).mono ?_); rintro e w1 ⟨rfl, hb1⟩; have k1 : w1.cell? ⟨f, 3, none⟩ = some (.slice (some ⟨ga, 0, none⟩) gs.length cv) ∧ w1.cell? ⟨ga, i, none⟩ = some (ptr g) := ⟨hb1.cell (by exact d3), hb1.cell (by exact di)⟩)
      | (go_at_call 12; (with_reducible refine (HGI.out ▸ xpos_tab f _ _ gs nms reg S i (l * 4096 + c * 16) _ (((HT.out.bel HW.out.1).bel (Bel.refl W).drew).bel hb1) hi).mono ?_); rintro e w2 ⟨S', rfl, hT2, hS2, hk2, ho2⟩; have k2 : w2.cell? ⟨f, 3, none⟩ = some (.slice (some ⟨ga, 0, none⟩) gs.length cv) ∧ w2.cell? ⟨ga, i, none⟩ = some (ptr g) := ⟨(by obtain ⟨⟨_, ⟨_, _, _, hb⟩ | ⟨gv, bi, bn, _, _, cap, hb, _⟩⟩, _⟩ := hT2; exact hb.cell 3; exact hb.cell 3), hk2.cell k1.2 hgaS⟩; have hB3 := ((HW.out.2.1.drew).bel hb1).kept hk2 (fun hx => Nat.lt_irrefl _ (HLT.out _ hx)); have m0 : w2.cell? ⟨w.heap.size, 0, none⟩ = some (.int .i32 0) := hB3.cell 0; have m1 : w2.cell? ⟨w.heap.size, 1, none⟩ = some (.int .u32 0) := hB3.cell 1; have n0 := hB3.frozen 0; have n1 := hB3.frozen 1))
  clear wl wcc
  go_wp2
  refine bodyPost_ret (v := .agg #[.int .i32 (idx reg i), .int .u32 (l * 4096 + c * 16)]) (by simp [results, Tryd.results8, go_sem, m0, m1]) rfl ?_
  have hsz := HW.out.2.2
  have hs1 := hb1.size
  rw [World.size_drew, hsz] at hs1
  have hne : ∀ x ∈ f :: gs ++ S, x ≠ w.heap.size := fun x hx e => by have := HLT.out _ hx; omega
  have hk3 : Kept [w.heap.size] w2 ((w2.setCell ⟨w.heap.size, 0, none⟩ (.int .i32 (idx reg i))).setCell ⟨w.heap.size, 1, none⟩ (.int .u32 (l * 4096 + c * 16))) := ((Kept.refl _ w2).setCell (p := ⟨w.heap.size, 0, none⟩) (.inl (by simp)) _).setCell (p := ⟨w.heap.size, 1, none⟩) (.inl (by simp)) _
  have hS3 : ∀ x ∈ S', x ∈ S ∨ w.heap.size + 1 ≤ x := fun x hx => by
    rcases hS2 x hx with h | h
    · exact .inl h
    · right; omega
  have hk4 : Kept (f :: gs ++ S) w w2 := (Kept.of_bel ((HW.out.1.drew).trans hb1)).trans hk2 (fun i hi => .inl hi)
  refine ⟨S', rfl, ⟨.slice (some ⟨ga, 0, none⟩) gs.length cv, hT2.kept hk3 ?_ ?_ ?_, ?_, ?_⟩, fun x hx => ?_, ?_, fun hm => ?_⟩
  · simp; exact hne f (by simp)
  · intro x hx; simp; exact hne x (by simp [hx])
  · intro x hx; simp
    rcases hS3 x hx with h | h
    · exact hne x (by simp [h])
    · omega
  · refine own_kept (own_kept HO.out hk4 (fun k hk => ?_)) hk3 (fun k hk => ?_)
    · have : ga = k := by simpa [Value.ownBlock] using hk
      exact this ▸ hgaS
    · have : ga = k := by simpa [Value.ownBlock] using hk
      simp; omega
  · intro k hk hx
    have hgk : ga = k := by simpa [Value.ownBlock] using hk
    rcases hS3 k hx with h | h
    · exact HVS.out k hk h
    · omega
  · rcases hS3 x hx with h | h
    · exact .inl h
    · exact .inr (by omega)
  · exact hk4.trans hk3 (fun i hi => by simp at hi; exact .inr (by omega))
  · exact Below.setCell (Below.setCell (((HW.out.1.drew).trans hb1).trans (ho2 hm)) (p := ⟨w.heap.size, 0, none⟩) (Nat.le_refl _) _) (p := ⟨w.heap.size, 1, none⟩) (Nat.le_refl _) _
end Go.Proofs.YtbekmpmfkblgnaaDoor
