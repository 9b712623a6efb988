/- The laws' bounds of a position; the reference's Before; impl.Same. -/
import Derived.Test.YtbekmpmfkblgnaaPos5
namespace Go.Proofs.Ytbekmpmfkblgnaa
open Go.RowKit

/-- A place: its file, line, column and marks. -/
structure PlaceD where
  file : Int
  line : Int
  col : Int
  stmt : Int
  logue : Int

abbrev placeV (p : PlaceD) : Value := .agg #[.int .i64 p.file, .int .i64 p.line, .int .i64 p.col, .int .i64 p.stmt, .int .i64 p.logue]

/-- Each part is a number of 64 bits. -/
def PlaceIn (p : PlaceD) : Prop := (-9223372036854775808 ≤ p.file ∧ p.file ≤ 9223372036854775807) ∧ (-9223372036854775808 ≤ p.line ∧ p.line ≤ 9223372036854775807) ∧ (-9223372036854775808 ≤ p.col ∧ p.col ≤ 9223372036854775807) ∧ (-9223372036854775808 ≤ p.stmt ∧ p.stmt ≤ 9223372036854775807) ∧ (-9223372036854775808 ≤ p.logue ∧ p.logue ≤ 9223372036854775807)

def placedB (p : PlaceD) (n : Int) : Bool := decide (0 ≤ p.file ∧ p.file < n ∧ 1 ≤ p.line ∧ p.line ≤ 1000000 ∧ 1 ≤ p.col ∧ p.col ≤ 250)

theorem placedB_true {p : PlaceD} {n : Int} (h : placedB p n = true) : 0 ≤ p.file ∧ p.file < n ∧ 1 ≤ p.line ∧ p.line ≤ 1000000 ∧ 1 ≤ p.col ∧ p.col ≤ 250 := by simpa [placedB] using h
theorem ret_bool {a b : Bool} (h : a = b) : Ending.returned (.bool a) = .returned (.bool b) := by rw [h]

set_option maxHeartbeats 1000000 in
theorem placed_any (p : PlaceD) (n : Int) (w : World) :
    Calls Try.prog 16 #[placeV p, .int .i64 n] w fun e w' => e = .returned (.bool (placedB p n)) ∧ Bel w w' := by
  obtain ⟨file, line, col, stmt, logue⟩ := p
  by_cases h1 : 0 ≤ file
  · by_cases h2 : file < n
    · by_cases h3 : 1 ≤ line
      · by_cases h4 : line ≤ 1000000
        · by_cases h5 : 1 ≤ col
          · by_cases h6 : col ≤ 250
            · have hb : placedB ⟨file, line, col, stmt, logue⟩ n = true := by simp [placedB, h1, h2, h3, h4, h5, h6]
              rw [hb]; clear hb
              go_enter Try.func16, Try.ntmps16
              go_wp2
              go_ret
              exact ⟨rfl, (Bel.refl _).alloc _⟩
            · have hb : placedB ⟨file, line, col, stmt, logue⟩ n = false := by simp [placedB, h6]
              rw [hb]; clear hb
              go_enter Try.func16, Try.ntmps16
              go_wp2
              go_ret
              exact ⟨rfl, (Bel.refl _).alloc _⟩
          · have hb : placedB ⟨file, line, col, stmt, logue⟩ n = false := by simp [placedB, h5]
            rw [hb]; clear hb
            go_enter Try.func16, Try.ntmps16
            go_wp2
            go_ret
            exact ⟨rfl, (Bel.refl _).alloc _⟩
        · have hb : placedB ⟨file, line, col, stmt, logue⟩ n = false := by simp [placedB, h4]
          rw [hb]; clear hb
          go_enter Try.func16, Try.ntmps16
          go_wp2
          go_ret
          exact ⟨rfl, (Bel.refl _).alloc _⟩
      · have hb : placedB ⟨file, line, col, stmt, logue⟩ n = false := by simp [placedB, h3]
        rw [hb]; clear hb
        go_enter Try.func16, Try.ntmps16
        go_wp2
        go_ret
        exact ⟨rfl, (Bel.refl _).alloc _⟩
    · have hb : placedB ⟨file, line, col, stmt, logue⟩ n = false := by simp [placedB, h2]
      rw [hb]; clear hb
      go_enter Try.func16, Try.ntmps16
      go_wp2
      go_ret
      exact ⟨rfl, (Bel.refl _).alloc _⟩
  · have hb : placedB ⟨file, line, col, stmt, logue⟩ n = false := by simp [placedB, h1]
    rw [hb]; clear hb
    go_enter Try.func16, Try.ntmps16
    go_wp2
    go_ret
    exact ⟨rfl, (Bel.refl _).alloc _⟩

/-- The names a, b, c, d. -/
def four : List ByteArray := [⟨#[97]⟩, ⟨#[98]⟩, ⟨#[99]⟩, ⟨#[100]⟩]
theorem four_nodup : four.Nodup := by decide

theorem strs_four (w : World) (H : Nat) (hH : w.heap.size = H) : Strs (w.alloc (.cells #[.string ⟨#[97]⟩, .string ⟨#[98]⟩, .string ⟨#[99]⟩, .string ⟨#[100]⟩] 9)) (some ⟨H, 0, none⟩) 4 four := by
  subst hH
  refine ⟨rfl, fun _ => ⟨w.heap.size, 0, rfl, fun i s hs => ?_⟩⟩
  have hb := Blk.new w 9 [.string ⟨#[97]⟩, .string ⟨#[98]⟩, .string ⟨#[99]⟩, .string ⟨#[100]⟩]
  rw [Nat.zero_add]
  refine (hb.cell i).trans ?_
  match i, hs with
  | 0, hs => simp [four] at hs; subst hs; rfl
  | 1, hs => simp [four] at hs; subst hs; rfl
  | 2, hs => simp [four] at hs; subst hs; rfl
  | 3, hs => simp [four] at hs; subst hs; rfl

/-- Compact positions are one just if both parts are. -/
theorem eql_xpos (w : World) (a b c d : Int) : (binOp .eql 77 (.agg #[.int .i32 a, .int .u32 b]) (.agg #[.int .i32 c, .int .u32 d])).run Try.prog w = .ok (.bool (decide (a = c ∧ b = d))) w := by
  simp [go_sem]
  by_cases h1 : a = c <;> by_cases h2 : b = d <;> simp [h1, h2]

attribute [local go_sem ↓] eql_xpos

theorem Place_cells {w : World} {b c : Nat} {t : TypeId} {p0 p1 p2 p3 p4 q0 q1 q2 q3 q4 : Value} (hBp : Blk w b t [p0, p1, p2, p3, p4]) (hBq : Blk w c t [q0, q1, q2, q3, q4]) :
    w.cell? ⟨b, 0, none⟩ = some p0 ∧ w.cell? ⟨b, 1, none⟩ = some p1 ∧ w.cell? ⟨b, 2, none⟩ = some p2 ∧ w.cell? ⟨c, 0, none⟩ = some q0 ∧ w.cell? ⟨c, 1, none⟩ = some q1 ∧ w.cell? ⟨c, 2, none⟩ = some q2 :=
  ⟨hBp.cell 0, hBp.cell 1, hBp.cell 2, hBq.cell 0, hBq.cell 1, hBq.cell 2⟩

set_option maxRecDepth 100000 in
set_option maxHeartbeats 1000000 in
theorem same_any (p q : PlaceD) (w : World) (hp : placedB p 4 = true) (hq : placedB q 4 = true) :
    Calls Try.prog 19 #[placeV p, placeV q] w fun e w' => e = .returned (.bool (decide (p.file = q.file ∧ p.line = q.line ∧ p.col = q.col))) ∧ Bel w w' := by
  obtain ⟨p0, p1, p2, p3, p4, p5⟩ := placedB_true hp
  obtain ⟨q0, q1, q2, q3, q4, q5⟩ := placedB_true hq
  clear hp hq
  obtain ⟨i, hi⟩ := Int.eq_ofNat_of_zero_le p0
  obtain ⟨j, hj⟩ := Int.eq_ofNat_of_zero_le q0
  obtain ⟨pf, pl, pc, ps, px⟩ := p
  obtain ⟨qf, ql, qc, qs, qx⟩ := q
  simp only at *
  subst hi hj
  go_enter Try.func19, Try.ntmps19
  go_wp2_with fail
  refine (newFiles_any _ 4 _ four _ (strs_four _ _ (by simp)) (by omega)).mono ?_
  rintro e w1 ⟨f, gs, rfl, hnf, hb1⟩
  obtain ⟨hF, hge⟩ := hnf.files four_nodup (by decide)
  have hgl : gs.length = 4 := by obtain ⟨v, h, _⟩ := hF; exact h.2.1.1
  have hBp : Blk w1 w.heap.size 23 [.int .i64 i, .int .i64 pl, .int .i64 pc, .int .i64 ps, .int .i64 px] := (((Blk.new w _ _).alloc _).alloc _).bel hb1
  have hBq : Blk w1 (w.heap.size + 1) 23 [.int .i64 j, .int .i64 ql, .int .i64 qc, .int .i64 qs, .int .i64 qx] := by
    have := ((Blk.new (w.alloc (.cells #[.int .i64 i, .int .i64 pl, .int .i64 pc, .int .i64 ps, .int .i64 px] 23)) 23 [.int .i64 j, .int .i64 ql, .int .i64 qc, .int .i64 qs, .int .i64 qx]).alloc (.cells #[.string ⟨#[97]⟩, .string ⟨#[98]⟩, .string ⟨#[99]⟩, .string ⟨#[100]⟩] 9)).bel hb1
    rwa [World.size_alloc] at this
  have hbw : Bel w w1 := ((((Bel.refl w).alloc _).alloc _).alloc _).trans hb1
  have hge2 : ∀ x ∈ f :: gs, w.heap.size + 2 < x := fun x hx => by have := hge x hx; simp at this; omega
  clear hge hnf hb1
  go_wp2_with fail
  have c0 : w1.cell? ⟨w.heap.size, 0, none⟩ = some (.int .i64 i) := hBp.cell 0
  have c1 : w1.cell? ⟨w.heap.size, 1, none⟩ = some (.int .i64 pl) := hBp.cell 1
  have c2 : w1.cell? ⟨w.heap.size, 2, none⟩ = some (.int .i64 pc) := hBp.cell 2
  have d0 : w1.cell? ⟨w.heap.size + 1, 0, none⟩ = some (.int .i64 j) := hBq.cell 0
  have d1 : w1.cell? ⟨w.heap.size + 1, 1, none⟩ = some (.int .i64 ql) := hBq.cell 1
  have d2 : w1.cell? ⟨w.heap.size + 1, 2, none⟩ = some (.int .i64 qc) := hBq.cell 2
  have HF := Lib.hid hF; clear hF
  have HGE := Lib.hid hge2; clear hge2
  have HGL := Lib.hid hgl; clear hgl
  have HBP := Lib.hid hBp; clear hBp
  have HBQ := Lib.hid hBq; clear hBq
  have HBW := Lib.hid hbw; clear hbw
  go_region_held3 (fun w' => w'.cell? ⟨w.heap.size, 0, none⟩ = some (.int .i64 i) ∧ w'.cell? ⟨w.heap.size, 1, none⟩ = some (.int .i64 pl) ∧ w'.cell? ⟨w.heap.size, 2, none⟩ = some (.int .i64 pc) ∧
      w'.cell? ⟨w.heap.size + 1, 0, none⟩ = some (.int .i64 j) ∧ w'.cell? ⟨w.heap.size + 1, 1, none⟩ = some (.int .i64 ql) ∧ w'.cell? ⟨w.heap.size + 1, 2, none⟩ = some (.int .i64 qc))
    (first | exact k2 | exact k1 | go_keep)
    (first
      | (go_at_call 35; (with_reducible refine (at_files f gs four (regAdd [] i) S1 j ql qc _ hF1 (by rw [HGL.out]; omega) (by omega) (by omega) (by omega) (by omega)).mono ?_); rintro e w3 ⟨S2, rfl, hF2, hS2, hk2, _⟩; have k2 := Place_cells (HP1.out.kept hk2 (fun hx => by have := HGE1.out _ hx; omega)) (HQ1.out.kept hk2 (fun hx => by have := HGE1.out _ hx; omega)))
      | (go_at_call 35; (with_reducible refine (at_files f gs four [] [] i pl pc _ (HF.out.bel (Bel.refl w1).drew) (by rw [HGL.out]; omega) (by omega) (by omega) (by omega) (by omega)).mono ?_); rintro e w2 ⟨S1, rfl, hF1, hS1, hk1, _⟩; have HP1 := Lib.hid (HBP.out.drew.kept hk1 (fun hx => by have := HGE.out _ (by simpa using hx); omega)); have HQ1 := Lib.hid (HBQ.out.drew.kept hk1 (fun hx => by have := HGE.out _ (by simpa using hx); omega)); have k1 := Place_cells HP1.out HQ1.out; have HGE1 : Hid (∀ x ∈ f :: gs ++ S1, w.heap.size + 1 < x) := fun x hx => by { rcases List.mem_append.1 hx with h | h; exact Nat.lt_of_succ_lt (HGE.out x h); rcases hS1 x h with h' | h'; cases h'; have h2 := HBQ.out.lt; have h3 : w1.drew.heap.size = w1.heap.size := World.size_drew _; omega }))
  go_wp2
  go_ret
  refine ⟨ret_bool ?_, ?_⟩
  · rw [Bool.eq_iff_iff]
    simp only [Bool.and_eq_true, decide_eq_true_eq, idx_two]
    omega
  · have hk : Kept (f :: gs ++ S1) w1 w3 := ((Kept.of_bel (Bel.refl w1).drew).trans hk1 (fun i hi => .inl (by simpa using Or.imp_right (fun h => Or.inl h) (by simpa using hi)))).trans hk2 (fun i hi => .inl hi)
    exact HBW.out.kept hk (fun i hi => by have := HGE1.out i hi; omega)

/-- Block b holds the place p. -/
def PBox (w : World) (b : Nat) (p : PlaceD) : Prop := Blk w b 23 [.int .i64 p.file, .int .i64 p.line, .int .i64 p.col, .int .i64 p.stmt, .int .i64 p.logue]
theorem PBox.bel {w w' : World} {b : Nat} {p : PlaceD} (h : PBox w b p) (hb : Bel w w') : PBox w' b p := Blk.bel h hb
theorem PBox.new (w : World) (p : PlaceD) (H : Nat) (hH : w.heap.size = H) : PBox (w.alloc (.cells #[.int .i64 p.file, .int .i64 p.line, .int .i64 p.col, .int .i64 p.stmt, .int .i64 p.logue] 23)) H p := by
  subst hH; exact Blk.new w _ _
theorem PBox.all {w : World} {b : Nat} {p : PlaceD} (h : PBox w b p) : w.cell? ⟨b, 0, none⟩ = some (.int .i64 p.file) ∧ w.cell? ⟨b, 1, none⟩ = some (.int .i64 p.line) ∧ w.cell? ⟨b, 2, none⟩ = some (.int .i64 p.col) ∧ w.cell? ⟨b, 3, none⟩ = some (.int .i64 p.stmt) ∧ w.cell? ⟨b, 4, none⟩ = some (.int .i64 p.logue) :=
  ⟨Blk.cell h 0, Blk.cell h 1, Blk.cell h 2, Blk.cell h 3, Blk.cell h 4⟩
theorem PBox.two {w : World} {b c : Nat} {p q : PlaceD} (h : PBox w b p) (k : PBox w c q) : w.cell? ⟨b, 0, none⟩ = some (.int .i64 p.file) ∧ w.cell? ⟨b, 1, none⟩ = some (.int .i64 p.line) ∧ w.cell? ⟨b, 2, none⟩ = some (.int .i64 p.col) ∧ w.cell? ⟨b, 3, none⟩ = some (.int .i64 p.stmt) ∧ w.cell? ⟨b, 4, none⟩ = some (.int .i64 p.logue) ∧
    w.cell? ⟨c, 0, none⟩ = some (.int .i64 q.file) ∧ w.cell? ⟨c, 1, none⟩ = some (.int .i64 q.line) ∧ w.cell? ⟨c, 2, none⟩ = some (.int .i64 q.col) ∧ w.cell? ⟨c, 3, none⟩ = some (.int .i64 q.stmt) ∧ w.cell? ⟨c, 4, none⟩ = some (.int .i64 q.logue) :=
  ⟨Blk.cell h 0, Blk.cell h 1, Blk.cell h 2, Blk.cell h 3, Blk.cell h 4, Blk.cell k 0, Blk.cell k 1, Blk.cell k 2, Blk.cell k 3, Blk.cell k 4⟩
/-- A slice of places reads as a list. -/
def Places (w : World) (a : Option Addr) (n : Nat) (l : List PlaceD) : Prop :=
  l.length = n ∧ (0 < n → ∃ b o, a = some ⟨b, o, none⟩ ∧ ∀ i p, l[i]? = some p → w.cell? ⟨b, o + i * 5, none⟩ = some (.int .i64 p.file) ∧ w.cell? ⟨b, o + i * 5 + 1, none⟩ = some (.int .i64 p.line) ∧ w.cell? ⟨b, o + i * 5 + 2, none⟩ = some (.int .i64 p.col) ∧ w.cell? ⟨b, o + i * 5 + 3, none⟩ = some (.int .i64 p.stmt) ∧ w.cell? ⟨b, o + i * 5 + 4, none⟩ = some (.int .i64 p.logue))
theorem Places.bel {w w' : World} {a : Option Addr} {n : Nat} {l : List PlaceD} (h : Places w a n l) (hb : Bel w w') : Places w' a n l :=
  ⟨h.1, fun hn => by
    obtain ⟨b, o, ha, hc⟩ := h.2 hn
    exact ⟨b, o, ha, fun i e he => ⟨hb.cell (hc i e he).1, hb.cell (hc i e he).2.1, hb.cell (hc i e he).2.2.1, hb.cell (hc i e he).2.2.2.1, hb.cell (hc i e he).2.2.2.2⟩⟩⟩
end Go.Proofs.Ytbekmpmfkblgnaa
