/- Marks of a compact position: what setting and reading them comes to. -/
import Derived.Test.YtbekmpmfkblgnaaPos6
namespace Go.Proofs.Ytbekmpmfkblgnaa
open Go.RowKit Go.BigFrame

theorem withStmt_any (x s : Int) (w : World) (h0 : 0 < x) (hx : x < 4294967296) (h1 : 0 ≤ s) (hs : s < 4) :
    Calls Try.prog 75 #[.int .u32 x, .int .u64 s] w fun e w' => e = .returned (.int .u32 (x / 4 * 4 + s)) ∧ w = w' := by
  have hne : (x == 0) = false := by simp; omega
  have hb := bits_stmt x s (by omega) hx h1 hs
  have HB := Lib.hid hb; clear hb
  go_enter Try.func75, Try.ntmps75
  go_wp2
  go_ret
  exact ⟨ret_int HB.out, rfl⟩

theorem withXlogue_any (x g : Int) (w : World) (h0 : 0 < x) (hx : x < 4294967296) (h1 : 0 ≤ g) (hg : g < 4) :
    Calls Try.prog 74 #[.int .u32 x, .int .u64 g] w fun e w' => e = .returned (.int .u32 (x / 16 * 16 + g * 4 + x % 4)) ∧ w = w' := by
  have hne : (x == 0) = false := by simp; omega
  have hb := bits_logue x g (by omega) hx h1 hg
  have HB := Lib.hid hb; clear hb
  go_enter Try.func74, Try.ntmps74
  go_wp2
  go_ret
  exact ⟨ret_int HB.out, rfl⟩

theorem isStmt_any (x : Int) (w : World) (h0 : 0 < x) (hx : x < 4294967296) :
    Calls Try.prog 62 #[.int .u32 x] w fun e w' => e = .returned (.int .u64 (x % 4)) ∧ w = w' := by
  have hne : (x == 0) = false := by simp; omega
  have hb := bits_and3 x (by omega) hx
  have HB := Lib.hid hb; clear hb
  go_enter Try.func62, Try.ntmps62
  go_wp2
  go_ret
  exact ⟨ret_int HB.out, rfl⟩

theorem xlogue_any (x : Int) (w : World) (h0 : 0 < x) (hx : x < 4294967296) :
    Calls Try.prog 63 #[.int .u32 x] w fun e w' => e = .returned (.int .u64 (x / 4 % 4)) ∧ w = w' := by
  have hb := bits_and3 (x / 4) (by omega) (by omega)
  have HB := Lib.hid hb; clear hb
  go_enter Try.func63, Try.ntmps63
  go_wp2
  go_ret
  exact ⟨ret_int HB.out, rfl⟩

theorem withIsStmt_any (x : Int) (w : World) (h0 : 0 < x) (hx : x < 4294967296) :
    Calls Try.prog 70 #[.int .u32 x] w fun e w' => e = .returned (.int .u32 (x / 4 * 4 + 1)) ∧ w = w' := by
  go_enter Try.func70, Try.ntmps70
  go_wp2_with (go_at_call 75; refine (withStmt_any _ 1 _ h0 hx (by omega) (by omega)).mono ?_; rintro e w' ⟨rfl, rfl⟩)
  go_ret
  exact ⟨rfl, rfl⟩
theorem withNotStmt_any (x : Int) (w : World) (h0 : 0 < x) (hx : x < 4294967296) :
    Calls Try.prog 71 #[.int .u32 x] w fun e w' => e = .returned (.int .u32 (x / 4 * 4 + 2)) ∧ w = w' := by
  go_enter Try.func71, Try.ntmps71
  go_wp2_with (go_at_call 75; refine (withStmt_any _ 2 _ h0 hx (by omega) (by omega)).mono ?_; rintro e w' ⟨rfl, rfl⟩)
  go_ret
  exact ⟨rfl, rfl⟩
theorem withDefaultStmt_any (x : Int) (w : World) (h0 : 0 < x) (hx : x < 4294967296) :
    Calls Try.prog 72 #[.int .u32 x] w fun e w' => e = .returned (.int .u32 (x / 4 * 4)) ∧ w = w' := by
  go_enter Try.func72, Try.ntmps72
  go_wp2_with (go_at_call 75; refine (withStmt_any _ 0 _ h0 hx (by omega) (by omega)).mono ?_; rintro e w' ⟨rfl, rfl⟩)
  go_ret
  exact ⟨ret_int (by omega), rfl⟩
theorem atColumn1_any (x : Int) (w : World) (h0 : 4096 ≤ x) (hx : x / 4096 < 1048574) :
    Calls Try.prog 73 #[.int .u32 x] w fun e w' => e = .returned (.int .u32 (x / 4096 * 4096 + 17)) ∧ w = w' := by
  go_enter Try.func73, Try.ntmps73
  go_wp2_with (first
    | (go_at_call 44; refine (line_any x _ (by omega) (by omega)).mono ?_; rintro e w' ⟨rfl, rfl⟩)
    | (go_at_call 55; refine (makeLico_any (x / 4096) 1 _ (by omega) hx (by omega) (by omega)).mono ?_; rintro e w' ⟨rfl, rfl⟩)
    | (go_at_call 70; refine (withIsStmt_any _ _ (by omega) (by omega)).mono ?_; rintro e w' ⟨rfl, rfl⟩))
  go_ret
  exact ⟨ret_int (by omega), rfl⟩

abbrev xpV (i l : Int) : Value := .agg #[.int .i32 i, .int .u32 l]

theorem xIs_any (i x : Int) (w : World) (h0 : 0 < x) (hx : x < 4294967296) :
    Calls Try.prog 64 #[xpV i x] w fun e w' => e = .returned (xpV i (x / 4 * 4 + 1)) ∧ Bel w w' := by
  go_enter Try.func64, Try.ntmps64
  go_wp2_with (go_at_call 70; refine (withIsStmt_any _ _ h0 hx).mono ?_; rintro e w' ⟨rfl, rfl⟩)
  go_returns
  exact ⟨rfl, ((Bel.refl _).alloc _).alloc _⟩
theorem xNot_any (i x : Int) (w : World) (h0 : 0 < x) (hx : x < 4294967296) :
    Calls Try.prog 65 #[xpV i x] w fun e w' => e = .returned (xpV i (x / 4 * 4 + 2)) ∧ Bel w w' := by
  go_enter Try.func65, Try.ntmps65
  go_wp2_with (go_at_call 71; refine (withNotStmt_any _ _ h0 hx).mono ?_; rintro e w' ⟨rfl, rfl⟩)
  go_returns
  exact ⟨rfl, ((Bel.refl _).alloc _).alloc _⟩
theorem xDef_any (i x : Int) (w : World) (h0 : 0 < x) (hx : x < 4294967296) :
    Calls Try.prog 66 #[xpV i x] w fun e w' => e = .returned (xpV i (x / 4 * 4)) ∧ Bel w w' := by
  go_enter Try.func66, Try.ntmps66
  go_wp2_with (go_at_call 72; refine (withDefaultStmt_any _ _ h0 hx).mono ?_; rintro e w' ⟨rfl, rfl⟩)
  go_returns
  exact ⟨rfl, ((Bel.refl _).alloc _).alloc _⟩
theorem xCol1_any (i x : Int) (w : World) (h0 : 4096 ≤ x) (hx : x / 4096 < 1048574) :
    Calls Try.prog 67 #[xpV i x] w fun e w' => e = .returned (xpV i (x / 4096 * 4096 + 17)) ∧ Bel w w' := by
  go_enter Try.func67, Try.ntmps67
  go_wp2_with (go_at_call 73; refine (atColumn1_any _ _ h0 hx).mono ?_; rintro e w' ⟨rfl, rfl⟩)
  go_returns
  exact ⟨rfl, ((Bel.refl _).alloc _).alloc _⟩
theorem xLogue_any (i x g : Int) (w : World) (h0 : 0 < x) (hx : x < 4294967296) (h1 : 0 ≤ g) (hg : g < 4) :
    Calls Try.prog 68 #[xpV i x, .int .u64 g] w fun e w' => e = .returned (xpV i (x / 16 * 16 + g * 4 + x % 4)) ∧ Bel w w' := by
  go_enter Try.func68, Try.ntmps68
  go_wp2_with (go_at_call 74; refine (withXlogue_any _ _ _ h0 hx h1 hg).mono ?_; rintro e w' ⟨rfl, rfl⟩)
  go_returns
  exact ⟨rfl, ((Bel.refl _).alloc _).alloc _⟩

set_option maxRecDepth 100000 in
set_option maxHeartbeats 1000000 in
theorem place_tells (i x file : Int) (w : World) (h0 : 0 < x) (hx : x < 4294967296) :
    Calls Try.prog 53 #[xpV i x, .int .i64 file] w fun e w' => e = .returned (placeV ⟨file, x / 4096, x / 16 % 256, x % 4, x / 4 % 4⟩) ∧ Bel w w' := by
  go_enter Try.func53, Try.ntmps53
  go_wp2_with fail
  have e1 : IntKind.i64.wrap (x / 4096) = x / 4096 := IntWalk.i64_in _ (by omega)
  have e2 : IntKind.i64.wrap (x / 16 % 256) = x / 16 % 256 := IntWalk.i64_in _ (by omega)
  have e3 : IntKind.i64.wrap (x % 4) = x % 4 := IntWalk.i64_in _ (by omega)
  have e4 : IntKind.i64.wrap (x / 4 % 4) = x / 4 % 4 := IntWalk.i64_in _ (by omega)
  have hx0 : 0 ≤ x := by omega
  go_region_held3 (fun w' => w'.cell? ⟨w.heap.size, 1, none⟩ = some (.int .u32 x))
    (first | go_keep)
    (first
      | (go_at_call 44; refine (line_any x _ hx0 hx).mono ?_; rintro e w' ⟨rfl, rfl⟩)
      | (go_at_call 45; refine (col_any x _ hx0 hx).mono ?_; rintro e w' ⟨rfl, rfl⟩)
      | (go_at_call 62; refine (isStmt_any x _ h0 hx).mono ?_; rintro e w' ⟨rfl, rfl⟩)
      | (go_at_call 63; refine (xlogue_any x _ h0 hx).mono ?_; rintro e w' ⟨rfl, rfl⟩))
  clear e1 e2 e3 e4
  go_wp2
  go_returns
  exact ⟨rfl, (((Bel.refl _).alloc _).alloc _).drew⟩
end Go.Proofs.Ytbekmpmfkblgnaa
