/- Known and KnownIn: whether a position is known. -/
import Derived.Test.YtbekmpmfkblgnaaPos5
namespace Go.Proofs.Ytbekmpmfkblgnaa
open Go.RowKit Go.BigFrame

/-- The worlds of a class, for a region whose callees stay in the class. -/
def In (P : World → Prop) : Type := { W : World // P W }
def In.at {P : World → Prop} (x : In P) : World := x.1
theorem In.holds {P : World → Prop} (x : In P) : P x.at := x.2
theorem region_in {P : World → Prop} {id : Nat} {Q : Exit → Act → World → Prop} {a : Act} {w : World} {l : List Oper} (hP : P w.drew) (hm : Try.prog.follows .mixedOrders = true) (hB : Region.lexB .any l.toArray = true)
    (h : wpQuiet Try.prog l.toArray (fun w' => ∃ x : In P, w' = x.at) (fun a' => ∀ w', (∃ x : In P, w' = x.at) → Q .normal a' w') l a) : (Code.region id l.toArray true).wp Try.prog Q a w :=
  wp_region_quiet (C := fun w' => ∃ x : In P, w' = x.at) hm hB ⟨⟨_, hP⟩, rfl⟩ (by simpa using h)
theorem call_in {P : World → Prop} {f : FuncId} {args : Array Value} {v : Value} (x : In P) (h : Calls Try.prog f args x.at fun e w' => e = .returned v ∧ P w') : Calls Try.prog f args x.at fun e w'' => e = .returned v ∧ ∃ y : In P, w'' = y.at :=
  h.mono fun _ w' h => ⟨h.1, ⟨w', h.2⟩, rfl⟩

set_option maxHeartbeats 1000000 in
theorem posKnown_some (g : Nat) (lc : Int) (w : World) :
    Calls Try.prog 37 #[.agg #[ptr g, .int .u32 lc]] w fun e w' => e = .returned (.bool true) ∧ Bel w w' := by
  go_enter Try.func37, Try.ntmps37
  go_wp2
  go_ret
  exact ⟨rfl, (Bel.refl w).alloc _⟩

set_option maxHeartbeats 1000000 in
theorem posKnown_none (lc : Int) (w : World) (h0 : 0 ≤ lc) (hx : lc < 4294967296) :
    Calls Try.prog 37 #[.agg #[.pointer none, .int .u32 lc]] w fun e w' => e = .returned (.bool (lc / 4096 != 0)) ∧ Bel w w' := by
  go_enter Try.func37, Try.ntmps37
  go_wp2_with (go_at_call 44; refine (line_any lc _ h0 hx).mono ?_; rintro e w' ⟨rfl, rfl⟩)
  go_ret
  exact ⟨rfl, (Bel.refl w).alloc _⟩

set_option maxHeartbeats 1000000 in
theorem xKnown_one (lc : Int) (w : World) :
    Calls Try.prog 39 #[.agg #[.int .i32 1, .int .u32 lc]] w fun e w' => e = .returned (.bool true) ∧ Bel w w' := by
  go_enter Try.func39, Try.ntmps39
  go_wp2
  go_ret
  exact ⟨rfl, (Bel.refl w).alloc _⟩

/-- The worlds behind the first statements of KnownIn. -/
def KT (w : World) (b t g : Nat) (nm : ByteArray) (lc : Int) (W : World) : Prop :=
  Bel w W ∧ W.cell? ⟨b, 0, none⟩ = some (ptr g) ∧ W.cell? ⟨b, 1, none⟩ = some (.int .u32 lc) ∧
    ∃ reg S, (reg = [] ∨ reg = [0]) ∧ TabB W t 71 [] [g] [nm] reg S ∧ ∀ x ∈ t :: [g] ++ S, w.heap.size ≤ x ∧ x ≠ b

theorem KT.bel {w W W' : World} {b t g : Nat} {nm : ByteArray} {lc : Int} (h : KT w b t g nm lc W) (hb : Bel W W') : KT w b t g nm lc W' := by
  obtain ⟨h1, h2, h3, reg, S, h4, h5, h6⟩ := h
  exact ⟨h1.trans hb, hb.cell h2, hb.cell h3, reg, S, h4, h5.bel hb, h6⟩

theorem xpos_kt {w W : World} {b t g : Nat} {nm : ByteArray} {lc : Int} (h : KT w b t g nm lc W) (hbs : b < W.heap.size) :
    Calls Try.prog 38 #[ptr t, .agg #[ptr g, .int .u32 lc]] W fun e w' => e = .returned (.agg #[.int .i32 1, .int .u32 lc]) ∧ KT w b t g nm lc w' := by
  obtain ⟨h1, h2, h3, reg, S, h4, h5, h6⟩ := h
  refine (xpos_tab t _ [] [g] [nm] reg S 0 lc W h5 (by simp)).mono ?_
  rintro e w' ⟨S', rfl, hT, hS, hk, _⟩
  have hr : idx reg 0 = 1 ∧ (regAdd reg 0 = [0]) := by rcases h4 with rfl | rfl <;> exact ⟨rfl, rfl⟩
  rw [hr.1]
  have hb : b ∉ t :: [g] ++ S := fun hx => (h6 b hx).2 rfl
  refine ⟨rfl, h1.kept hk (fun x hx => (h6 x hx).1), hk.cell h2 hb, hk.cell h3 hb, _, S', .inr hr.2, hT, fun x hx => ?_⟩
  rcases (by simpa using hx : x = t ∨ x = g ∨ x ∈ S') with rfl | rfl | hx
  · exact h6 _ (by simp)
  · exact h6 _ (by simp)
  · rcases hS x hx with h | h
    · exact h6 x (by simp [h])
    · have := h1.size
      exact ⟨by omega, by omega⟩

set_option maxRecDepth 100000 in
set_option maxHeartbeats 1000000 in
theorem knownIn_any (l c : Int) (w : World) (h0 : 0 ≤ l) (h1 : l ≤ 1000000) (h2 : 0 ≤ c) (h3 : c ≤ 250) :
    Calls Try.prog 20 #[.int .i64 l, .int .i64 c] w fun e w' => e = .returned (.tuple #[.bool true, .bool true]) ∧ Bel w w' := by
  go_enter Try.func20, Try.ntmps20
  go_wp2_with fail
  refine (newFileBase_any _ _).mono ?_
  rintro e w1 ⟨g, rfl, hg, hB, hb1⟩
  have HB := Lib.hid hB; clear hB
  go_wp2_with fail
  refine (makePos_any _ l c _ ⟨_, rfl⟩ h0 (by omega) h2 (by omega)).mono ?_
  rintro e w2 ⟨rfl, hb2⟩
  generalize hlc : l * 4096 + c * 16 = lc
  have HLC := Lib.hid hlc; clear hlc
  go_wp2_with fail
  have hK : KT w w2.heap.size (w2.heap.size + 1) g ⟨#[97]⟩ lc (((w2.alloc (.cells #[ptr g, .int .u32 lc] 65)).alloc (.cells #[.slice none 0 0, .map none, .map none] 71)).drew) := by
    have hB2 := Blk.drew ((HB.out.bel hb2).alloc (.cells #[ptr g, .int .u32 lc] 65) |>.alloc (.cells #[.slice none 0 0, .map none, .map none] 71))
    have hP := Blk.drew ((Blk.new w2 65 [ptr g, .int .u32 lc]).alloc (.cells #[.slice none 0 0, .map none, .map none] 71))
    have hT := Blk.drew (Blk.new (w2.alloc (.cells #[ptr g, .int .u32 lc] 65)) 71 [.slice none 0 0, .map none, .map none])
    rw [World.size_alloc] at hT
    have hgl := (HB.out.bel hb2).lt
    have hs1 := hb1.size
    have hs2 := hb2.size
    refine ⟨(((hb1.trans hb2).alloc _).alloc _).drew, hP.cell 0, hP.cell 1, [], [], .inl rfl, ⟨⟨rfl, .inl ⟨rfl, rfl, rfl, hT⟩⟩, Bases.mk' rfl (by simp) (fun i hi => ?_), by simp, by simp, by simp, by simp, by decide, by decide⟩, fun x hx => ?_⟩
    · obtain rfl : i = 0 := by simpa using hi
      exact hB2
    · rcases (by simpa using hx : x = w2.heap.size + 1 ∨ x = g) with rfl | rfl
      · omega
      · omega
  generalize (w2.alloc (.cells #[ptr g, .int .u32 lc] 65)).alloc (.cells #[.slice none 0 0, .map none, .map none] 71) = W at hK ⊢
  have hin : Nonempty (In (KT w w2.heap.size (w2.heap.size + 1) g ⟨#[97]⟩ lc)) := ⟨⟨_, hK⟩⟩
  have c0 : ∀ x : In (KT w w2.heap.size (w2.heap.size + 1) g ⟨#[97]⟩ lc), x.at.cell? ⟨w2.heap.size, 0, none⟩ = some (ptr g) := fun x => x.holds.2.1
  have c1 : ∀ x : In (KT w w2.heap.size (w2.heap.size + 1) g ⟨#[97]⟩ lc), x.at.cell? ⟨w2.heap.size, 1, none⟩ = some (.int .u32 lc) := fun x => x.holds.2.2.1
  have hlt : ∀ x : In (KT w w2.heap.size (w2.heap.size + 1) g ⟨#[97]⟩ lc), w2.heap.size < x.at.heap.size := fun x => World.block_lt_of_cell? _ _ (c0 x)
  refine region_in hK (by kernel_rfl) (by kernel_rfl) ?_
  repeat (go_big_quiet_step (first
    | (go_at_call 37; exact call_in _ ((posKnown_some g lc _).mono fun _ _ h => ⟨h.1, KT.bel (In.holds _) h.2⟩))
    | (go_at_call 38; exact call_in _ (xpos_kt (In.holds _) (hlt _)))
    | (go_at_call 39; exact call_in _ ((xKnown_one lc _).mono fun _ _ h => ⟨h.1, KT.bel (In.holds _) h.2⟩))))
  refine wpQuiet_nil ?_
  intro _ hw'
  obtain ⟨x, hx⟩ := hw'
  subst hx
  have hbw := Lib.hid x.holds.1
  go_wp2
  refine bodyPost_ret (results_tmp2 rfl _ _ _) rfl ?_
  exact ⟨rfl, hbw.out⟩

set_option maxHeartbeats 1000000 in
theorem known_any (l c : Int) (w : World) (h0 : 0 ≤ l) (h1 : l ≤ 1000000) (h2 : 0 ≤ c) (h3 : c ≤ 250) :
    Calls Try.prog 21 #[.int .i64 l, .int .i64 c] w fun e w' => e = .returned (.bool (l != 0)) ∧ Bel w w' := by
  go_enter Try.func21, Try.ntmps21
  go_wp2_with fail
  refine (makePos_any _ l c _ ⟨_, rfl⟩ h0 (by omega) h2 (by omega)).mono ?_
  rintro e w2 ⟨rfl, hb2⟩
  have hd : (l * 4096 + c * 16) / 4096 = l := by omega
  have hr := posKnown_none (l * 4096 + c * 16) w2 (by omega) (by omega)
  rw [hd] at hr
  clear hd
  go_wp2_with fail
  refine hr.mono ?_
  rintro e w3 ⟨rfl, hb3⟩
  go_wp2
  go_ret
  exact ⟨rfl, hb2.trans hb3⟩
end Go.Proofs.Ytbekmpmfkblgnaa
