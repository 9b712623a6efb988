/- Joined: XPos1, XPos2, XPosB, XKnown, XRel, XNames. -/
import Derived.Test.YtmlimedmeolegaaDoorMem
import Derived.Test.YtmlimedmeolegaaDoorPlainBits
import Derived.Laws.BitsAllLaws
import Derived.Laws.BitsLemmas
namespace Go.Proofs.YtmlimedmeolegaaDoor
open Go.RowKit

theorem ret_int {k : IntKind} {a b : Int} (h : a = b) : Ending.returned (.int k a) = .returned (.int k b) := by rw [h]

theorem bits_line (l c : Int) (h0 : 0 ≤ l) (hl : l < 1048576) (h1 : 0 ≤ c) (hc : c < 256) : bits BinOp.or IntKind.u64 (l * 4096) (c * 16) % 4294967296 = l * 4096 + c * 16 := by
  obtain ⟨l, rfl⟩ := Int.eq_ofNat_of_zero_le h0
  obtain ⟨c, rfl⟩ := Int.eq_ofNat_of_zero_le h1
  have h := u64_or_nat (l * 4096) (c * 16) (by omega) (by omega)
  rw [Pl.or_line l c (by omega)] at h
  have e1 : ((l * 4096 : Nat) : Int) = (l : Int) * 4096 := by omega
  have e2 : ((c * 16 : Nat) : Int) = (c : Int) * 16 := by omega
  rw [e1, e2] at h
  rw [h]
  omega

theorem bits_and255 (x : Int) (h0 : 0 ≤ x) (hx : x < 4294967296) : bits BinOp.and IntKind.u64 x 255 = x % 256 := by
  obtain ⟨x, rfl⟩ := Int.eq_ofNat_of_zero_le h0
  have h := u64_and_nat x 255 (by omega) (by omega)
  rw [Pl.and_255] at h
  exact h.trans (by omega)

theorem bits_and3 (x : Int) (h0 : 0 ≤ x) (hx : x < 4294967296) : bits BinOp.and IntKind.u64 x 3 = x % 4 := by
  obtain ⟨x, rfl⟩ := Int.eq_ofNat_of_zero_le h0
  have h := u64_and_nat x 3 (by omega) (by omega)
  rw [Pl.and_3] at h
  exact h.trans (by omega)

theorem bits_stmt (x s : Int) (h0 : 0 ≤ x) (hx : x < 4294967296) (h1 : 0 ≤ s) (hs : s < 4) :
    bits BinOp.or IntKind.u64 (bits BinOp.and IntKind.u64 x 18446744073709551612) s % 4294967296 = x / 4 * 4 + s := by
  obtain ⟨x, rfl⟩ := Int.eq_ofNat_of_zero_le h0
  obtain ⟨s, rfl⟩ := Int.eq_ofNat_of_zero_le h1
  have h := u64_and_nat x 18446744073709551612 (by omega) (by decide)
  rw [Pl.and_not3 x (by omega)] at h
  have h2 := u64_or_nat (x / 4 * 4) s (by omega) (by omega)
  rw [Pl.or_low2 x s (by omega)] at h2
  have e : bits BinOp.and IntKind.u64 (x : Int) 18446744073709551612 = ((x / 4 * 4 : Nat) : Int) := h
  rw [e, h2]
  omega

theorem bits_logue (x g : Int) (h0 : 0 ≤ x) (hx : x < 4294967296) (h1 : 0 ≤ g) (hg : g < 4) :
    bits BinOp.or IntKind.u64 (bits BinOp.and IntKind.u64 x 18446744073709551603) (g * 4) % 4294967296 = x / 16 * 16 + g * 4 + x % 4 := by
  obtain ⟨x, rfl⟩ := Int.eq_ofNat_of_zero_le h0
  obtain ⟨g, rfl⟩ := Int.eq_ofNat_of_zero_le h1
  have h := u64_and_nat x 18446744073709551603 (by omega) (by decide)
  rw [Pl.and_not12 x (by omega)] at h
  have h2 := u64_or_nat (x / 16 * 16 + x % 4) (g * 4) (by omega) (by omega)
  rw [Pl.or_mid x g (by omega)] at h2
  have e : bits BinOp.and IntKind.u64 (x : Int) 18446744073709551603 = ((x / 16 * 16 + x % 4 : Nat) : Int) := h
  have e2 : ((g * 4 : Nat) : Int) = (g : Int) * 4 := by omega
  rw [e2] at h2
  rw [e, h2]
  omega

theorem bits_same (x y : Int) (h0 : 0 ≤ x) (hx : x < 4294967296) (h1 : 0 ≤ y) (hy : y < 4294967296) :
    ((0 : Int) == bits BinOp.andNot IntKind.u32 (bits BinOp.xor IntKind.u32 x y) 4095) = decide (x / 4096 = y / 4096) := by
  obtain ⟨x, rfl⟩ := Int.eq_ofNat_of_zero_le h0
  obtain ⟨y, rfl⟩ := Int.eq_ofNat_of_zero_le h1
  have hlt : x ^^^ y < 4294967296 := Nat.xor_lt_two_pow (n := 32) (by omega) (by omega)
  rw [u32_xor_nat x y (by omega) (by omega)]
  have h := u32_andNot_nat (x ^^^ y) 4095 hlt (by omega)
  have e : bits BinOp.andNot IntKind.u32 ((x ^^^ y : Nat) : Int) 4095 = (((x ^^^ y) &&& (4294967295 - 4095) : Nat) : Int) := h
  rw [e, Bool.eq_iff_iff]
  simp only [beq_iff_eq, decide_eq_true_eq]
  have hs := Pl.same_line x y (by omega) (by omega)
  constructor
  · intro hz
    have := hs.1 (by omega)
    omega
  · intro hz
    have := hs.2 (by omega)
    omega

theorem makeLicoRaw_any (l c : Int) (w : World) (h0 : 0 ≤ l) (hl : l < 1048576) (h1 : 0 ≤ c) (hc : c < 256) :
    Calls Tryd.prog 13 #[.int .u64 l, .int .u64 c] w fun e w' => e = .returned (.int .u32 (l * 4096 + c * 16)) ∧ w = w' := by
  go_enter Tryd.func13, Tryd.ntmps13
  go_wp2
  go_ret
  exact ⟨ret_int (bits_line l c h0 hl h1 hc), rfl⟩

theorem makeLico_any (l c : Int) (w : World) (h0 : 0 ≤ l) (hl : l < 1048574) (h1 : 0 ≤ c) (hc : c < 256) :
    Calls Tryd.prog 10 #[.int .u64 l, .int .u64 c] w fun e w' => e = .returned (.int .u32 (l * 4096 + c * 16)) ∧ w = w' := by
  have h3 : ¬ (1048574 : Int) ≤ l := by omega
  have h4 : ¬ (255 : Int) < c := by omega
  go_enter Tryd.func10, Tryd.ntmps10
  go_wp2_with (go_at_call 13; refine (makeLicoRaw_any _ _ _ h0 (by omega) h1 hc).mono ?_; rintro e w' ⟨rfl, rfl⟩)
  go_ret
  exact ⟨rfl, rfl⟩

theorem line_any (x : Int) (w : World) (h0 : 0 ≤ x) (hx : x < 4294967296) :
    Calls Tryd.prog 19 #[.int .u32 x] w fun e w' => e = .returned (.int .u64 (x / 4096)) ∧ w = w' := by
  go_enter Tryd.func19, Tryd.ntmps19
  go_wp2
  go_ret
  exact ⟨rfl, rfl⟩

theorem col_any (x : Int) (w : World) (h0 : 0 ≤ x) (hx : x < 4294967296) :
    Calls Tryd.prog 20 #[.int .u32 x] w fun e w' => e = .returned (.int .u64 (x / 16 % 256)) ∧ w = w' := by
  go_enter Tryd.func20, Tryd.ntmps20
  go_wp2
  go_ret
  exact ⟨ret_int (bits_and255 _ (by omega) (by omega)), rfl⟩

/-- A position in full. -/
theorem makePos_any (b : Value) (l c : Int) (w : World) (hb : ∃ a, b = .pointer a) (h0 : 0 ≤ l) (hl : l < 1048574) (h1 : 0 ≤ c) (hc : c < 256) :
    Calls Tryd.prog 7 #[b, .int .u64 l, .int .u64 c] w fun e w' => e = .returned (.agg #[b, .int .u32 (l * 4096 + c * 16)]) ∧ Bel w w' := by
  obtain ⟨a, rfl⟩ := hb
  go_enter Tryd.func7, Tryd.ntmps7
  go_wp2_with (go_at_call 10; refine (makeLico_any _ _ _ h0 hl h1 hc).mono ?_; rintro e w' ⟨rfl, rfl⟩)
  go_returns
  exact ⟨rfl, (Bel.refl _).alloc _⟩


/-- The cells of a base: the position at which it is, the names, line and column, and the index of its file. -/
def baseCells (p : Value) (lc : Int) (nm : ByteArray) (l c : Int) (fi : Int) : List Value :=
  [p, .int .u32 lc, .string nm, .string nm, .int .u64 l, .int .u64 c, .int .i64 (-1), .int .i64 fi]
abbrev ptr (g : Nat) : Value := .pointer (some ⟨g, 0, none⟩)
/-- The base of a file, in block g. -/
def fileBase (g : Nat) (nm : ByteArray) (fi : Int) : List Value := baseCells (ptr g) 4112 nm 1 1 fi

set_option maxHeartbeats 400000 in
theorem newFileBase_any (nm : ByteArray) (w : World) :
    Calls Tryd.prog 8 #[.string nm, .string nm] w fun e w' => ∃ g, e = .returned (ptr g) ∧ w.heap.size ≤ g ∧ Blk w' g 40 (fileBase g nm (-1)) ∧ Bel w w' := by
  go_enter Tryd.func8, Tryd.ntmps8
  go_wp2_with fail
  refine (makePos_any _ 1 1 _ ⟨_, rfl⟩ (by omega) (by omega) (by omega) (by omega)).mono ?_
  rintro e w' ⟨rfl, hb⟩
  have hB : Blk w' w.heap.size 40 (baseCells (.pointer none) 0 nm 1 1 (-1)) := (Blk.new w _ (baseCells (.pointer none) 0 nm 1 1 (-1))).bel hb
  have c0 : w'.cell? ⟨w.heap.size, 0, none⟩ = some (.pointer none) := hB.cell 0
  have c1 : w'.cell? ⟨w.heap.size, 1, none⟩ = some (.int .u32 0) := hB.cell 1
  have f0 := hB.frozen 0
  have f1 := hB.frozen 1
  have HB := Lib.hid hB; clear hB
  go_wp2
  go_ret
  refine ⟨w.heap.size, rfl, Nat.le_refl _, (HB.out.set 0 _).set 1 _, ?_⟩
  have hb0 : Bel w w' := (((Bel.refl w).alloc _).trans hb)
  exact Below.setCell (Below.setCell hb0 (p := ⟨w.heap.size, 0, none⟩) (Nat.le_refl _) _) (p := ⟨w.heap.size, 1, none⟩) (Nat.le_refl _) _

/-- A place: its file, line, column and marks. -/
structure PlaceD where
  file : Int
  line : Int
  col : Int
  stmt : Int
  logue : Int

abbrev placeV (p : PlaceD) : Value := .agg #[.int .i64 p.file, .int .i64 p.line, .int .i64 p.col, .int .i64 p.stmt, .int .i64 p.logue]

/-- Each part is a number of 64 bits. -/
def PlaceIn (p : PlaceD) : Prop := (-9223372036854775808 ≤ p.file ∧ p.file ≤ 9223372036854775807) ∧ (-9223372036854775808 ≤ p.line ∧ p.line ≤ 9223372036854775807) ∧ (-9223372036854775808 ≤ p.col ∧ p.col ≤ 9223372036854775807) ∧ (-9223372036854775808 ≤ p.stmt ∧ p.stmt ≤ 9223372036854775807) ∧ (-9223372036854775808 ≤ p.logue ∧ p.logue ≤ 9223372036854775807)

def placedB (p : PlaceD) (n : Int) : Bool := decide (0 ≤ p.file ∧ p.file < n ∧ 1 ≤ p.line ∧ p.line ≤ 1000000 ∧ 1 ≤ p.col ∧ p.col ≤ 250)

theorem placedB_true {p : PlaceD} {n : Int} (h : placedB p n = true) : 0 ≤ p.file ∧ p.file < n ∧ 1 ≤ p.line ∧ p.line ≤ 1000000 ∧ 1 ≤ p.col ∧ p.col ≤ 250 := by simpa [placedB] using h
theorem ret_bool {a b : Bool} (h : a = b) : Ending.returned (.bool a) = .returned (.bool b) := by rw [h]

set_option maxHeartbeats 1000000 in
theorem placed_any (p : PlaceD) (n : Int) (w : World) :
    Calls Tryd.prog 4 #[placeV p, .int .i64 n] w fun e w' => e = .returned (.bool (placedB p n)) ∧ Bel w w' := by
  obtain ⟨file, line, col, stmt, logue⟩ := p
  by_cases h1 : 0 ≤ file
  · by_cases h2 : file < n
    · by_cases h3 : 1 ≤ line
      · by_cases h4 : line ≤ 1000000
        · by_cases h5 : 1 ≤ col
          · by_cases h6 : col ≤ 250
            · have hb : placedB ⟨file, line, col, stmt, logue⟩ n = true := by simp [placedB, h1, h2, h3, h4, h5, h6]
              rw [hb]; clear hb
              go_enter Tryd.func4, Tryd.ntmps4
              go_wp2
              go_ret
              exact ⟨rfl, (Bel.refl _).alloc _⟩
            · have hb : placedB ⟨file, line, col, stmt, logue⟩ n = false := by simp [placedB, h6]
              rw [hb]; clear hb
              go_enter Tryd.func4, Tryd.ntmps4
              go_wp2
              go_ret
              exact ⟨rfl, (Bel.refl _).alloc _⟩
          · have hb : placedB ⟨file, line, col, stmt, logue⟩ n = false := by simp [placedB, h5]
            rw [hb]; clear hb
            go_enter Tryd.func4, Tryd.ntmps4
            go_wp2
            go_ret
            exact ⟨rfl, (Bel.refl _).alloc _⟩
        · have hb : placedB ⟨file, line, col, stmt, logue⟩ n = false := by simp [placedB, h4]
          rw [hb]; clear hb
          go_enter Tryd.func4, Tryd.ntmps4
          go_wp2
          go_ret
          exact ⟨rfl, (Bel.refl _).alloc _⟩
      · have hb : placedB ⟨file, line, col, stmt, logue⟩ n = false := by simp [placedB, h3]
        rw [hb]; clear hb
        go_enter Tryd.func4, Tryd.ntmps4
        go_wp2
        go_ret
        exact ⟨rfl, (Bel.refl _).alloc _⟩
    · have hb : placedB ⟨file, line, col, stmt, logue⟩ n = false := by simp [placedB, h2]
      rw [hb]; clear hb
      go_enter Tryd.func4, Tryd.ntmps4
      go_wp2
      go_ret
      exact ⟨rfl, (Bel.refl _).alloc _⟩
  · have hb : placedB ⟨file, line, col, stmt, logue⟩ n = false := by simp [placedB, h1]
    rw [hb]; clear hb
    go_enter Tryd.func4, Tryd.ntmps4
    go_wp2
    go_ret
    exact ⟨rfl, (Bel.refl _).alloc _⟩


open Go.RowKit Go.BigFrame

set_option maxHeartbeats 1000000 in
theorem posKnown_some (g : Nat) (lc : Int) (w : World) :
    Calls Tryd.prog 14 #[.agg #[ptr g, .int .u32 lc]] w fun e w' => e = .returned (.bool true) ∧ Bel w w' := by
  go_enter Tryd.func14, Tryd.ntmps14
  go_wp2
  go_ret
  exact ⟨rfl, (Bel.refl w).alloc _⟩

set_option maxHeartbeats 1000000 in
theorem baseName_any (g : Nat) (s : ByteArray) (w : World) (h : w.cell? ⟨g, 2, none⟩ = some (.string s)) :
    Calls Tryd.prog 25 #[ptr g] w fun e w' => e = .returned (.string s) ∧ w = w' := by
  go_enter Tryd.func25, Tryd.ntmps25
  go_wp2
  go_ret
  exact ⟨rfl, rfl⟩
set_option maxHeartbeats 1000000 in
theorem basePos_any (g : Nat) (w : World) :
    Calls Tryd.prog 16 #[ptr g] w fun e w' => e = .returned (ptr g) ∧ w = w' := by
  go_enter Tryd.func16, Tryd.ntmps16
  go_wp2
  go_ret
  exact ⟨rfl, rfl⟩
set_option maxHeartbeats 1000000 in
theorem relName_any (g : Nat) (lc : Int) (s : ByteArray) (w : World) (h : w.cell? ⟨g, 2, none⟩ = some (.string s)) :
    Calls Tryd.prog 21 #[.agg #[ptr g, .int .u32 lc]] w fun e w' => e = .returned (.string s) ∧ Bel w w' := by
  go_enter Tryd.func21, Tryd.ntmps21
  go_wp2_with fail
  refine (baseName_any g s _ (((Bel.refl w).alloc _).cell h)).mono ?_
  rintro e w' ⟨rfl, rfl⟩
  go_wp2
  go_ret
  exact ⟨rfl, (Bel.refl w).alloc _⟩

/-- The name of a position in full. -/
theorem fileName_any (g : Nat) (lc fi : Int) (nm : ByteArray) (w : World) (h : Blk w g 40 (fileBase g nm fi)) :
    Calls Tryd.prog 18 #[.agg #[ptr g, .int .u32 lc]] w fun e w' => e = .returned (.string nm) ∧ Bel w w' := by
  have h1 := h.alloc (.cells #[ptr g, .int .u32 lc] 33)
  have c0 : (w.alloc (.cells #[ptr g, .int .u32 lc] 33)).cell? ⟨g, 0, none⟩ = some (ptr g) := h1.cell 0
  have c1 : (w.alloc (.cells #[ptr g, .int .u32 lc] 33)).cell? ⟨g, 1, none⟩ = some (.int .u32 4112) := h1.cell 1
  have c2 : (w.alloc (.cells #[ptr g, .int .u32 lc] 33)).cell? ⟨g, 2, none⟩ = some (.string nm) := h1.cell 2
  have hb : Bel w (w.alloc (.cells #[ptr g, .int .u32 lc] 33)) := (Bel.refl w).alloc _
  clear h h1
  go_enter Tryd.func18, Tryd.ntmps18
  go_wp2_with fail
  refine (basePos_any g _).mono ?_
  rintro e w' ⟨rfl, rfl⟩
  go_wp2_with fail
  refine (relName_any g 4112 nm _ c2).mono ?_
  rintro e w' ⟨rfl, hb2⟩
  have hb3 := hb.trans hb2
  go_wp2
  go_ret
  exact ⟨rfl, hb3⟩

end Go.Proofs.YtmlimedmeolegaaDoor
