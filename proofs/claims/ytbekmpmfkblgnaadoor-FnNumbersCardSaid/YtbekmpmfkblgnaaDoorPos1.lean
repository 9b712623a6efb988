/- The compact encoding of line and column: what the functions on it compute. -/
import Derived.Test.YtbekmpmfkblgnaaDoorMem
import Derived.Test.YtbekmpmfkblgnaaDoorPlainBits
import Derived.Laws.BitsAllLaws
import Derived.Laws.BitsLemmas
namespace Go.Proofs.YtbekmpmfkblgnaaDoor
open Go.RowKit

theorem ret_int {k : IntKind} {a b : Int} (h : a = b) : Ending.returned (.int k a) = .returned (.int k b) := by rw [h]

theorem bits_line (l c : Int) (h0 : 0 ≤ l) (hl : l < 1048576) (h1 : 0 ≤ c) (hc : c < 256) : bits BinOp.or IntKind.u64 (l * 4096) (c * 16) % 4294967296 = l * 4096 + c * 16 := by
  obtain ⟨l, rfl⟩ := Int.eq_ofNat_of_zero_le h0
  obtain ⟨c, rfl⟩ := Int.eq_ofNat_of_zero_le h1
  have h := u64_or_nat (l * 4096) (c * 16) (by omega) (by omega)
  rw [Pl.or_line l c (by omega)] at h
  have e1 : ((l * 4096 : Nat) : Int) = (l : Int) * 4096 := by omega
  have e2 : ((c * 16 : Nat) : Int) = (c : Int) * 16 := by omega
  rw [e1, e2] at h
  rw [h]
  omega

theorem bits_and255 (x : Int) (h0 : 0 ≤ x) (hx : x < 4294967296) : bits BinOp.and IntKind.u64 x 255 = x % 256 := by
  obtain ⟨x, rfl⟩ := Int.eq_ofNat_of_zero_le h0
  have h := u64_and_nat x 255 (by omega) (by omega)
  rw [Pl.and_255] at h
  exact h.trans (by omega)

theorem bits_and3 (x : Int) (h0 : 0 ≤ x) (hx : x < 4294967296) : bits BinOp.and IntKind.u64 x 3 = x % 4 := by
  obtain ⟨x, rfl⟩ := Int.eq_ofNat_of_zero_le h0
  have h := u64_and_nat x 3 (by omega) (by omega)
  rw [Pl.and_3] at h
  exact h.trans (by omega)

theorem bits_stmt (x s : Int) (h0 : 0 ≤ x) (hx : x < 4294967296) (h1 : 0 ≤ s) (hs : s < 4) :
    bits BinOp.or IntKind.u64 (bits BinOp.and IntKind.u64 x 18446744073709551612) s % 4294967296 = x / 4 * 4 + s := by
  obtain ⟨x, rfl⟩ := Int.eq_ofNat_of_zero_le h0
  obtain ⟨s, rfl⟩ := Int.eq_ofNat_of_zero_le h1
  have h := u64_and_nat x 18446744073709551612 (by omega) (by decide)
  rw [Pl.and_not3 x (by omega)] at h
  have h2 := u64_or_nat (x / 4 * 4) s (by omega) (by omega)
  rw [Pl.or_low2 x s (by omega)] at h2
  have e : bits BinOp.and IntKind.u64 (x : Int) 18446744073709551612 = ((x / 4 * 4 : Nat) : Int) := h
  rw [e, h2]
  omega

theorem bits_logue (x g : Int) (h0 : 0 ≤ x) (hx : x < 4294967296) (h1 : 0 ≤ g) (hg : g < 4) :
    bits BinOp.or IntKind.u64 (bits BinOp.and IntKind.u64 x 18446744073709551603) (g * 4) % 4294967296 = x / 16 * 16 + g * 4 + x % 4 := by
  obtain ⟨x, rfl⟩ := Int.eq_ofNat_of_zero_le h0
  obtain ⟨g, rfl⟩ := Int.eq_ofNat_of_zero_le h1
  have h := u64_and_nat x 18446744073709551603 (by omega) (by decide)
  rw [Pl.and_not12 x (by omega)] at h
  have h2 := u64_or_nat (x / 16 * 16 + x % 4) (g * 4) (by omega) (by omega)
  rw [Pl.or_mid x g (by omega)] at h2
  have e : bits BinOp.and IntKind.u64 (x : Int) 18446744073709551603 = ((x / 16 * 16 + x % 4 : Nat) : Int) := h
  have e2 : ((g * 4 : Nat) : Int) = (g : Int) * 4 := by omega
  rw [e2] at h2
  rw [e, h2]
  omega

theorem bits_same (x y : Int) (h0 : 0 ≤ x) (hx : x < 4294967296) (h1 : 0 ≤ y) (hy : y < 4294967296) :
    ((0 : Int) == bits BinOp.andNot IntKind.u32 (bits BinOp.xor IntKind.u32 x y) 4095) = decide (x / 4096 = y / 4096) := by
  obtain ⟨x, rfl⟩ := Int.eq_ofNat_of_zero_le h0
  obtain ⟨y, rfl⟩ := Int.eq_ofNat_of_zero_le h1
  have hlt : x ^^^ y < 4294967296 := Nat.xor_lt_two_pow (n := 32) (by omega) (by omega)
  rw [u32_xor_nat x y (by omega) (by omega)]
  have h := u32_andNot_nat (x ^^^ y) 4095 hlt (by omega)
  have e : bits BinOp.andNot IntKind.u32 ((x ^^^ y : Nat) : Int) 4095 = (((x ^^^ y) &&& (4294967295 - 4095) : Nat) : Int) := h
  rw [e, Bool.eq_iff_iff]
  simp only [beq_iff_eq, decide_eq_true_eq]
  have hs := Pl.same_line x y (by omega) (by omega)
  constructor
  · intro hz
    have := hs.1 (by omega)
    omega
  · intro hz
    have := hs.2 (by omega)
    omega

theorem makeLicoRaw_any (l c : Int) (w : World) (h0 : 0 ≤ l) (hl : l < 1048576) (h1 : 0 ≤ c) (hc : c < 256) :
    Calls Tryd.prog 22 #[.int .u64 l, .int .u64 c] w fun e w' => e = .returned (.int .u32 (l * 4096 + c * 16)) ∧ w = w' := by
  go_enter Tryd.func22, Tryd.ntmps22
  go_wp2
  go_ret
  exact ⟨ret_int (bits_line l c h0 hl h1 hc), rfl⟩

theorem makeLico_any (l c : Int) (w : World) (h0 : 0 ≤ l) (hl : l < 1048574) (h1 : 0 ≤ c) (hc : c < 256) :
    Calls Tryd.prog 19 #[.int .u64 l, .int .u64 c] w fun e w' => e = .returned (.int .u32 (l * 4096 + c * 16)) ∧ w = w' := by
  have h3 : ¬ (1048574 : Int) ≤ l := by omega
  have h4 : ¬ (255 : Int) < c := by omega
  go_enter Tryd.func19, Tryd.ntmps19
  go_wp2_with (go_at_call 22; refine (makeLicoRaw_any _ _ _ h0 (by omega) h1 hc).mono ?_; rintro e w' ⟨rfl, rfl⟩)
  go_ret
  exact ⟨rfl, rfl⟩

theorem line_any (x : Int) (w : World) (h0 : 0 ≤ x) (hx : x < 4294967296) :
    Calls Tryd.prog 20 #[.int .u32 x] w fun e w' => e = .returned (.int .u64 (x / 4096)) ∧ w = w' := by
  go_enter Tryd.func20, Tryd.ntmps20
  go_wp2
  go_ret
  exact ⟨rfl, rfl⟩

theorem col_any (x : Int) (w : World) (h0 : 0 ≤ x) (hx : x < 4294967296) :
    Calls Tryd.prog 17 #[.int .u32 x] w fun e w' => e = .returned (.int .u64 (x / 16 % 256)) ∧ w = w' := by
  go_enter Tryd.func17, Tryd.ntmps17
  go_wp2
  go_ret
  exact ⟨ret_int (bits_and255 _ (by omega) (by omega)), rfl⟩

/-- A position in full. -/
theorem makePos_any (b : Value) (l c : Int) (w : World) (hb : ∃ a, b = .pointer a) (h0 : 0 ≤ l) (hl : l < 1048574) (h1 : 0 ≤ c) (hc : c < 256) :
    Calls Tryd.prog 13 #[b, .int .u64 l, .int .u64 c] w fun e w' => e = .returned (.agg #[b, .int .u32 (l * 4096 + c * 16)]) ∧ Bel w w' := by
  obtain ⟨a, rfl⟩ := hb
  go_enter Tryd.func13, Tryd.ntmps13
  go_wp2_with (go_at_call 19; refine (makeLico_any _ _ _ h0 hl h1 hc).mono ?_; rintro e w' ⟨rfl, rfl⟩)
  go_returns
  exact ⟨rfl, (Bel.refl _).alloc _⟩

end Go.Proofs.YtbekmpmfkblgnaaDoor
