/- Plain facts on bits: the fields of a compact position. No program in sight. -/
namespace Go.Proofs.YtmlimedmeolegaaDoor.Pl

theorem or_line (l c : Nat) (hc : c < 256) : (l * 4096) ||| (c * 16) = l * 4096 + c * 16 := by
  have h := Nat.two_pow_add_eq_or_of_lt (i := 12) (b := c * 16) (by omega) l
  rw [show (2 : Nat) ^ 12 = 4096 by rfl] at h
  rw [Nat.mul_comm l 4096, ← h]

theorem and_255 (x : Nat) : x &&& 255 = x % 256 := Nat.and_two_pow_sub_one_eq_mod x 8
theorem and_3 (x : Nat) : x &&& 3 = x % 4 := Nat.and_two_pow_sub_one_eq_mod x 2

theorem or_low2 (x s : Nat) (hs : s < 4) : (x / 4 * 4) ||| s = x / 4 * 4 + s := by
  have h := Nat.two_pow_add_eq_or_of_lt (i := 2) (b := s) (by omega) (x / 4)
  rw [show (2 : Nat) ^ 2 = 4 by rfl] at h
  rw [Nat.mul_comm (x / 4) 4, ← h]

/-- The two lowest bits struck. -/
theorem and_not3 (x : Nat) (hx : x < 4294967296) : x &&& 18446744073709551612 = x / 4 * 4 := by
  apply Nat.eq_of_testBit_eq
  intro i
  rw [Nat.testBit_and]
  have e1 : (18446744073709551612 : Nat) = (2 ^ 62 - 1) <<< 2 := by decide
  have e2 : x / 4 * 4 = (x >>> 2) <<< 2 := by rw [Nat.shiftLeft_eq, Nat.shiftRight_eq_div_pow]
  rw [e1, e2, Nat.testBit_shiftLeft, Nat.testBit_shiftLeft, Nat.testBit_two_pow_sub_one, Nat.testBit_shiftRight]
  by_cases hi : 2 ≤ i
  · rw [show 2 + (i - 2) = i by omega]
    by_cases h2 : i - 2 < 62
    · simp [hi, h2]
    · have : x.testBit i = false := Nat.testBit_lt_two_pow (Nat.lt_of_lt_of_le hx (by
        have : (2 : Nat) ^ 64 ≤ 2 ^ i := Nat.pow_le_pow_right (by omega) (by omega)
        exact Nat.le_trans (by decide) this))
      simp [this]
  · simp [hi]

/-- Bits 2 and 3 struck. -/
theorem and_not12 (x : Nat) (hx : x < 4294967296) : x &&& 18446744073709551603 = x / 16 * 16 + x % 4 := by
  have hb : x % 4 < 2 ^ 4 := by omega
  have h := Nat.two_pow_add_eq_or_of_lt (i := 4) (b := x % 4) (by omega) (x / 16)
  rw [show (2 : Nat) ^ 4 = 16 by rfl] at h
  rw [Nat.mul_comm (x / 16) 16, h]
  apply Nat.eq_of_testBit_eq
  intro i
  have e1 : (18446744073709551603 : Nat) = ((2 ^ 60 - 1) <<< 4) ||| (2 ^ 2 - 1) := by decide
  have e2 : 16 * (x / 16) = (x >>> 4) <<< 4 := by rw [Nat.shiftLeft_eq, Nat.shiftRight_eq_div_pow, Nat.mul_comm]
  have e3 : x % 4 = x &&& (2 ^ 2 - 1) := (Nat.and_two_pow_sub_one_eq_mod x 2).symm
  rw [e1, e2, e3, Nat.testBit_and, Nat.testBit_or, Nat.testBit_or, Nat.testBit_and, Nat.testBit_shiftLeft, Nat.testBit_shiftLeft, Nat.testBit_two_pow_sub_one, Nat.testBit_two_pow_sub_one, Nat.testBit_shiftRight]
  by_cases hi : 4 ≤ i
  · rw [show 4 + (i - 4) = i by omega]
    by_cases h2 : i - 4 < 60
    · simp [hi, h2]
      intro h _
      exact h
    · have : x.testBit i = false := Nat.testBit_lt_two_pow (Nat.lt_of_lt_of_le hx (by
        have : (2 : Nat) ^ 64 ≤ 2 ^ i := Nat.pow_le_pow_right (by omega) (by omega)
        exact Nat.le_trans (by decide) this))
      simp [this]
  · simp [hi]

theorem or_mid (x g : Nat) (hg : g < 4) : (x / 16 * 16 + x % 4) ||| (g * 4) = x / 16 * 16 + g * 4 + x % 4 := by
  have h1 := Nat.two_pow_add_eq_or_of_lt (i := 4) (b := x % 4) (by omega) (x / 16)
  have h2 := Nat.two_pow_add_eq_or_of_lt (i := 2) (b := x % 4) (by omega) g
  have h3 := Nat.two_pow_add_eq_or_of_lt (i := 4) (b := g * 4 + x % 4) (by omega) (x / 16)
  rw [show (2 : Nat) ^ 4 = 16 by rfl] at h1 h3
  rw [show (2 : Nat) ^ 2 = 4 by rfl] at h2
  have a1 : x / 16 * 16 + x % 4 = 16 * (x / 16) + x % 4 := by omega
  have a2 : x / 16 * 16 + g * 4 + x % 4 = 16 * (x / 16) + (g * 4 + x % 4) := by omega
  have a3 : g * 4 + x % 4 = 4 * g + x % 4 := by omega
  rw [a1, a2, h1, h3, a3, h2, Nat.or_assoc, Nat.or_comm (x % 4), Nat.mul_comm g 4]

/-- No bit above the twelve lowest differs just if the quotients are one. -/
theorem same_line (x y : Nat) (hx : x < 4294967296) (hy : y < 4294967296) : ((x ^^^ y) &&& (4294967295 - 4095) = 0) ↔ x / 4096 = y / 4096 := by
  have e1 : (4294967295 - 4095 : Nat) = (2 ^ 20 - 1) <<< 12 := by decide
  have hb : ∀ i, 32 ≤ i → ∀ z : Nat, z < 4294967296 → z.testBit i = false := fun i hi z hz => Nat.testBit_lt_two_pow (Nat.lt_of_lt_of_le hz (by
    have : (2 : Nat) ^ 32 ≤ 2 ^ i := Nat.pow_le_pow_right (by omega) (by omega)
    exact Nat.le_trans (by decide) this))
  have d : ∀ z : Nat, z / 4096 = z >>> 12 := fun z => by rw [Nat.shiftRight_eq_div_pow]
  rw [e1, d, d]
  constructor
  · intro h
    apply Nat.eq_of_testBit_eq
    intro i
    rw [Nat.testBit_shiftRight, Nat.testBit_shiftRight]
    have := congrArg (fun z => z.testBit (12 + i)) h
    simp only [Nat.testBit_and, Nat.testBit_xor, Nat.testBit_shiftLeft, Nat.testBit_two_pow_sub_one, Nat.zero_testBit] at this
    by_cases hi : i < 20
    · have e : 12 + i - 12 = i := by omega
      rw [e] at this
      simp [hi] at this
      exact this
    · rw [hb (12 + i) (by omega) x hx, hb (12 + i) (by omega) y hy]
  · intro h
    apply Nat.eq_of_testBit_eq
    intro i
    simp only [Nat.testBit_and, Nat.testBit_xor, Nat.testBit_shiftLeft, Nat.testBit_two_pow_sub_one, Nat.zero_testBit]
    by_cases hi : 12 ≤ i
    · have := congrArg (fun z => z.testBit (i - 12)) h
      simp only [Nat.testBit_shiftRight] at this
      rw [show 12 + (i - 12) = i by omega] at this
      simp [this]
    · simp [hi]

end Go.Proofs.YtmlimedmeolegaaDoor.Pl
