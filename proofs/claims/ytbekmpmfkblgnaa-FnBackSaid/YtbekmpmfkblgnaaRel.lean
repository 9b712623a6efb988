/- Positions told relative to a line directive. -/
import Derived.Test.YtbekmpmfkblgnaaPos7
import Derived.Test.YtbekmpmfkblgnaaTail
namespace Go.Proofs.Ytbekmpmfkblgnaa
open Go.RowKit Go.BigFrame

set_option maxHeartbeats 1000000 in
theorem baseName_any (g : Nat) (s : ByteArray) (w : World) (h : w.cell? ⟨g, 2, none⟩ = some (.string s)) :
    Calls Try.prog 57 #[ptr g] w fun e w' => e = .returned (.string s) ∧ w = w' := by
  go_enter Try.func57, Try.ntmps57
  go_wp2
  go_ret
  exact ⟨rfl, rfl⟩
set_option maxHeartbeats 1000000 in
theorem baseLine_any (g : Nat) (l : Int) (w : World) (h : w.cell? ⟨g, 4, none⟩ = some (.int .u64 l)) :
    Calls Try.prog 58 #[ptr g] w fun e w' => e = .returned (.int .u64 l) ∧ w = w' := by
  go_enter Try.func58, Try.ntmps58
  go_wp2
  go_ret
  exact ⟨rfl, rfl⟩
set_option maxHeartbeats 1000000 in
theorem baseCol_any (g : Nat) (l : Int) (w : World) (h : w.cell? ⟨g, 5, none⟩ = some (.int .u64 l)) :
    Calls Try.prog 60 #[ptr g] w fun e w' => e = .returned (.int .u64 l) ∧ w = w' := by
  go_enter Try.func60, Try.ntmps60
  go_wp2
  go_ret
  exact ⟨rfl, rfl⟩
set_option maxHeartbeats 1000000 in
theorem basePos_any (g : Nat) (w : World) :
    Calls Try.prog 59 #[ptr g] w fun e w' => e = .returned (ptr g) ∧ w = w' := by
  go_enter Try.func59, Try.ntmps59
  go_wp2
  go_ret
  exact ⟨rfl, rfl⟩
set_option maxHeartbeats 1000000 in
theorem relName_any (g : Nat) (lc : Int) (s : ByteArray) (w : World) (h : w.cell? ⟨g, 2, none⟩ = some (.string s)) :
    Calls Try.prog 41 #[.agg #[ptr g, .int .u32 lc]] w fun e w' => e = .returned (.string s) ∧ Bel w w' := by
  go_enter Try.func41, Try.ntmps41
  go_wp2_with fail
  refine (baseName_any g s _ (((Bel.refl w).alloc _).cell h)).mono ?_
  rintro e w' ⟨rfl, rfl⟩
  go_wp2
  go_ret
  exact ⟨rfl, (Bel.refl w).alloc _⟩
set_option maxHeartbeats 1000000 in
theorem newLineBase_any (p : Value) (lc l c : Int) (nm : ByteArray) (w : World) (hp : ∃ a, p = .pointer a) :
    Calls Try.prog 40 #[.agg #[p, .int .u32 lc], .string nm, .string nm, .int .u64 l, .int .u64 c] w fun e w' => ∃ g, e = .returned (ptr g) ∧ w.heap.size ≤ g ∧ Blk w' g 93 (baseCells p lc nm l c (-1)) ∧ Bel w w' := by
  obtain ⟨a, rfl⟩ := hp
  go_enter Try.func40, Try.ntmps40
  go_wp2
  go_ret
  refine ⟨w.heap.size + 1, rfl, by omega, ?_, ((Bel.refl w).alloc _).alloc _⟩
  have := Blk.new (w.alloc (.cells #[.pointer a, .int .u32 lc] 65)) 93 (baseCells (.pointer a) lc nm l c (-1))
  rwa [World.size_alloc] at this

set_option maxRecDepth 100000 in
set_option maxHeartbeats 1000000 in
theorem relLine_any (g : Nat) (lc bc l : Int) (w : World) (h4 : w.cell? ⟨g, 4, none⟩ = some (.int .u64 l)) (h1 : w.cell? ⟨g, 1, none⟩ = some (.int .u32 bc)) (hl : 1 ≤ l) (hl' : l ≤ 1000000) (h0 : 0 ≤ lc) (hx : lc < 4294967296) (hb0 : 0 ≤ bc) (hbx : bc < 4294967296) (hle : bc / 4096 ≤ lc / 4096) :
    Calls Try.prog 42 #[.agg #[ptr g, .int .u32 lc]] w fun e w' => e = .returned (.int .u64 (l + (lc / 4096 - bc / 4096))) ∧ Bel w w' := by
  go_enter Try.func42, Try.ntmps42
  go_wp2_with fail
  have hbw : Bel w (w.alloc (.cells #[ptr g, .int .u32 lc] 65)) := (Bel.refl w).alloc _
  have hB := Blk.new w 65 [ptr g, .int .u32 lc]
  refine (baseLine_any g l _ (hbw.cell h4)).mono ?_
  rintro e w' ⟨rfl, rfl⟩
  have c4 := hbw.cell h4
  have c1 := hbw.cell h1
  have d1 : (w.alloc (.cells #[ptr g, .int .u32 lc] 65)).cell? ⟨w.heap.size, 1, none⟩ = some (.int .u32 lc) := hB.cell 1
  have HBW := Lib.hid hbw; clear hbw hB h4 h1
  generalize w.alloc (.cells #[ptr g, .int .u32 lc] 65) = W at c4 c1 d1 HBW ⊢
  have e1 : IntKind.u64.wrap (lc / 4096 - bc / 4096) = lc / 4096 - bc / 4096 := IntWalk.u64_in _ (by omega)
  have e2 : IntKind.u64.wrap (l + (lc / 4096 - bc / 4096)) = l + (lc / 4096 - bc / 4096) := IntWalk.u64_in _ (by omega)
  have e0 : (l == 0) = false := by simp; omega
  go_wp2_with fail
  obtain ⟨c4, c1, d1⟩ := And.intro (Later.cell c4) (And.intro (Later.cell c1) (Later.cell d1))
  refine region_later (by kernel_rfl) (by kernel_rfl) ?_
  repeat (go_big_quiet_step (first
    | (go_at_call 58; exact call_same _ (baseLine_any g l _ (c4 _)))
    | (go_at_call 59; exact call_same _ (basePos_any g _))
    | (go_at_call 44; first | exact call_same _ (line_any lc _ h0 hx) | exact call_same _ (line_any bc _ hb0 hbx))))
  refine wpQuiet_nil ?_
  intro _ hw'
  obtain ⟨x, hx⟩ := hw'
  subst hx
  have hbw := Lib.hid (HBW.out.trans x.bel)
  go_wp2
  go_ret
  exact ⟨rfl, hbw.out⟩

def relC (lc bc c : Int) : Int := if lc / 4096 = bc / 4096 then c + (lc / 16 % 256 - bc / 16 % 256) else lc / 16 % 256

set_option maxRecDepth 100000 in
set_option maxHeartbeats 1000000 in
theorem relCol_same (g : Nat) (lc bc c : Int) (w : World) (h5 : w.cell? ⟨g, 5, none⟩ = some (.int .u64 c)) (h1 : w.cell? ⟨g, 1, none⟩ = some (.int .u32 bc)) (hl : 1 ≤ c) (hl' : c ≤ 250) (h0 : 0 ≤ lc) (hx : lc < 4294967296) (hb0 : 0 ≤ bc) (hbx : bc < 4294967296) (heq : lc / 4096 = bc / 4096) (hle : bc / 16 % 256 ≤ lc / 16 % 256) :
    Calls Try.prog 43 #[.agg #[ptr g, .int .u32 lc]] w fun e w' => e = .returned (.int .u64 (c + (lc / 16 % 256 - bc / 16 % 256))) ∧ Bel w w' := by
  go_enter Try.func43, Try.ntmps43
  go_wp2_with fail
  have hbw : Bel w (w.alloc (.cells #[ptr g, .int .u32 lc] 65)) := (Bel.refl w).alloc _
  have hB := Blk.new w 65 [ptr g, .int .u32 lc]
  have c5 := hbw.cell h5
  have c1 := hbw.cell h1
  have d1 : (w.alloc (.cells #[ptr g, .int .u32 lc] 65)).cell? ⟨w.heap.size, 1, none⟩ = some (.int .u32 lc) := hB.cell 1
  have HBW := Lib.hid hbw; clear hbw hB h5 h1
  generalize w.alloc (.cells #[ptr g, .int .u32 lc] 65) = W at c5 c1 d1 HBW ⊢
  refine (baseCol_any g c _ c5).mono ?_
  rintro e w' ⟨rfl, rfl⟩
  have e0 : (c == 0) = false := by simp; omega
  have e3 : (lc / 4096 == bc / 4096) = true := by simp [heq]
  have e1 : IntKind.u64.wrap (lc / 16 % 256 - bc / 16 % 256) = lc / 16 % 256 - bc / 16 % 256 := IntWalk.u64_in _ (by omega)
  have e2 : IntKind.u64.wrap (c + (lc / 16 % 256 - bc / 16 % 256)) = c + (lc / 16 % 256 - bc / 16 % 256) := IntWalk.u64_in _ (by omega)
  go_wp2_with fail
  refine (line_any lc _ h0 hx).mono ?_
  rintro e w' ⟨rfl, rfl⟩
  go_wp2_with fail
  refine (basePos_any g _).mono ?_
  rintro e w' ⟨rfl, rfl⟩
  go_wp2_with fail
  refine (line_any bc _ hb0 hbx).mono ?_
  rintro e w' ⟨rfl, rfl⟩
  go_wp2_with fail
  obtain ⟨c5, c1, d1⟩ := And.intro (Later.cell c5) (And.intro (Later.cell c1) (Later.cell d1))
  refine region_later (by kernel_rfl) (by kernel_rfl) ?_
  repeat (go_big_quiet_step (first
    | (go_at_call 60; exact call_same _ (baseCol_any g c _ (c5 _)))
    | (go_at_call 59; exact call_same _ (basePos_any g _))
    | (go_at_call 45; first | exact call_same _ (col_any lc _ h0 hx) | exact call_same _ (col_any bc _ hb0 hbx))))
  refine wpQuiet_nil ?_
  intro _ hw'
  obtain ⟨x, hx⟩ := hw'
  subst hx
  have hbw := Lib.hid (HBW.out.trans x.bel)
  go_wp2
  go_ret
  exact ⟨rfl, hbw.out⟩

set_option maxRecDepth 100000 in
set_option maxHeartbeats 1000000 in
theorem relCol_far (g : Nat) (lc bc c : Int) (w : World) (h5 : w.cell? ⟨g, 5, none⟩ = some (.int .u64 c)) (h1 : w.cell? ⟨g, 1, none⟩ = some (.int .u32 bc)) (hl : 1 ≤ c) (h0 : 0 ≤ lc) (hx : lc < 4294967296) (hb0 : 0 ≤ bc) (hbx : bc < 4294967296) (hne : lc / 4096 ≠ bc / 4096) :
    Calls Try.prog 43 #[.agg #[ptr g, .int .u32 lc]] w fun e w' => e = .returned (.int .u64 (lc / 16 % 256)) ∧ Bel w w' := by
  go_enter Try.func43, Try.ntmps43
  go_wp2_with fail
  have hbw : Bel w (w.alloc (.cells #[ptr g, .int .u32 lc] 65)) := (Bel.refl w).alloc _
  have hB := Blk.new w 65 [ptr g, .int .u32 lc]
  have c5 := hbw.cell h5
  have c1 := hbw.cell h1
  have d1 : (w.alloc (.cells #[ptr g, .int .u32 lc] 65)).cell? ⟨w.heap.size, 1, none⟩ = some (.int .u32 lc) := hB.cell 1
  have HBW := Lib.hid hbw; clear hbw hB h5 h1
  generalize w.alloc (.cells #[ptr g, .int .u32 lc] 65) = W at c5 c1 d1 HBW ⊢
  refine (baseCol_any g c _ c5).mono ?_
  rintro e w' ⟨rfl, rfl⟩
  have e0 : (c == 0) = false := by simp; omega
  have e3 : (lc / 4096 == bc / 4096) = false := by simpa using hne
  go_wp2_with fail
  refine (line_any lc _ h0 hx).mono ?_
  rintro e w' ⟨rfl, rfl⟩
  go_wp2_with fail
  refine (basePos_any g _).mono ?_
  rintro e w' ⟨rfl, rfl⟩
  go_wp2_with fail
  refine (line_any bc _ hb0 hbx).mono ?_
  rintro e w' ⟨rfl, rfl⟩
  go_wp2_with fail
  refine (col_any lc _ h0 hx).mono ?_
  rintro e w' ⟨rfl, rfl⟩
  go_wp2
  go_ret
  exact ⟨rfl, HBW.out⟩

theorem relCol_any (g : Nat) (lc bc c : Int) (w : World) (h5 : w.cell? ⟨g, 5, none⟩ = some (.int .u64 c)) (h1 : w.cell? ⟨g, 1, none⟩ = some (.int .u32 bc)) (hl : 1 ≤ c) (hl' : c ≤ 250) (h0 : 0 ≤ lc) (hx : lc < 4294967296) (hb0 : 0 ≤ bc) (hbx : bc < 4294967296) (hle : lc / 4096 = bc / 4096 → bc / 16 % 256 ≤ lc / 16 % 256) :
    Calls Try.prog 43 #[.agg #[ptr g, .int .u32 lc]] w fun e w' => e = .returned (.int .u64 (relC lc bc c)) ∧ Bel w w' := by
  unfold relC
  split
  · rename_i h
    exact relCol_same g lc bc c w h5 h1 hl hl' h0 hx hb0 hbx h (hle h)
  · rename_i h
    exact relCol_far g lc bc c w h5 h1 hl h0 hx hb0 hbx h
end Go.Proofs.Ytbekmpmfkblgnaa
