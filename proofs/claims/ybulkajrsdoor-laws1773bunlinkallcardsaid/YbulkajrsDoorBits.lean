import Derived.Laws.Bits64b
import Derived.Laws.BitsAllLaws
import Derived.Lib.TrailingZeros
namespace Go.Proofs.YbulkajrsDoor
open Go

theorem pow64 : (2 : Nat) ^ 64 = 18446744073709551616 := by decide
theorem two_wrap (r : Nat) (hr : r < 64) : IntKind.u64.wrap (2 ^ r) = ((2 ^ r : Nat) : Int) := by
  have h1 : 2 ^ r < 2 ^ 64 := Nat.pow_lt_pow_right (by omega) hr
  rw [pow64] at h1
  have e : (2 : Int) ^ r = ((2 ^ r : Nat) : Int) := by simp
  rw [e, IntKind.wrap_u64]
  generalize 2 ^ r = p at h1 ⊢
  omega
theorem two_lt (r : Nat) (hr : r < 64) : 2 ^ r < 18446744073709551616 := by
  have h1 : 2 ^ r < 2 ^ 64 := Nat.pow_lt_pow_right (by omega) hr
  rwa [pow64] at h1

theorem and_two_pow' (x r : Nat) : x &&& 2 ^ r = (x.testBit r).toNat * 2 ^ r := by
  apply Nat.eq_of_testBit_eq
  intro i
  rw [Nat.testBit_and, Nat.testBit_two_pow]
  by_cases e : r = i
  · subst e
    cases h : x.testBit r <;> simp
  · cases h : x.testBit r <;> simp [e]
/-- 'x & (1 << r) == 0'. -/
theorem bit_and (x r : Nat) (hx : x < 18446744073709551616) (hr : r < 64) : bits .and .u64 (x : Int) (IntKind.u64.wrap (2 ^ r)) = (((x.testBit r).toNat * 2 ^ r : Nat) : Int) := by
  rw [two_wrap r hr, bits_and_u64_nat x _ hx (two_lt r hr), and_two_pow']
theorem bit_zero (x r : Nat) (hx : x < 18446744073709551616) (hr : r < 64) : (bits .and .u64 (x : Int) (IntKind.u64.wrap (2 ^ r)) == 0) = !x.testBit r := by
  rw [bit_and x r hx hr]
  have := Nat.two_pow_pos r
  cases hb : x.testBit r
  · simp
  · simp only [Bool.toNat_true, Nat.one_mul, Bool.not_true, beq_eq_false_iff_ne]; omega
theorem bit_nonzero (x r : Nat) (hx : x < 18446744073709551616) (hr : r < 64) : (bits .and .u64 (x : Int) (IntKind.u64.wrap (2 ^ r)) != 0) = x.testBit r := by
  rw [bne, bit_zero x r hx hr, Bool.not_not]

/-- 'x | (1 << r)'. -/
def setBit (x r : Nat) : Nat := x ||| 2 ^ r
theorem bit_or (x r : Nat) (hx : x < 18446744073709551616) (hr : r < 64) : bits .or .u64 (x : Int) (IntKind.u64.wrap (2 ^ r)) = ((setBit x r : Nat) : Int) := by
  rw [two_wrap r hr, bits_or_u64_nat x _ hx (two_lt r hr)]; rfl
theorem setBit_lt (x r : Nat) (hx : x < 18446744073709551616) (hr : r < 64) : setBit x r < 18446744073709551616 := by
  rw [← pow64] at hx ⊢
  exact Nat.or_lt_two_pow hx (Nat.pow_lt_pow_right (by omega) hr)
theorem testBit_setBit (x r i : Nat) : (setBit x r).testBit i = (x.testBit i || decide (r = i)) := by
  unfold setBit; rw [Nat.testBit_or, Nat.testBit_two_pow]

/-- 'x &^ y'. -/
def clearAll (x y : Nat) : Nat := x &&& (18446744073709551615 - y)
theorem bits_clear (x y : Nat) (hx : x < 18446744073709551616) (hy : y < 18446744073709551616) : bits .andNot .u64 (x : Int) (y : Int) = ((clearAll x y : Nat) : Int) := u64_andNot_nat x y hx hy
theorem testBit_clearAll (x y i : Nat) (hx : x < 18446744073709551616) (hy : y < 18446744073709551616) : (clearAll x y).testBit i = (x.testBit i && !y.testBit i) := by
  unfold clearAll
  rw [Nat.testBit_and]
  have e : 18446744073709551615 - y = 2 ^ 64 - (y + 1) := by rw [pow64]; omega
  rw [e, Nat.testBit_two_pow_sub_succ (by rw [pow64]; exact hy)]
  by_cases hi : i < 64
  · simp [hi]
  · have : x.testBit i = false := Nat.testBit_lt_two_pow (Nat.lt_of_lt_of_le (by rw [pow64]; exact hx : x < 2 ^ 64) (Nat.pow_le_pow_right (by omega) (by omega)))
    simp [this]
theorem clearAll_lt (x y : Nat) (hx : x < 18446744073709551616) : clearAll x y < 18446744073709551616 := Nat.lt_of_le_of_lt Nat.and_le_left hx
theorem bit_clear (x r : Nat) (hx : x < 18446744073709551616) (hr : r < 64) : bits .andNot .u64 (x : Int) (IntKind.u64.wrap (2 ^ r)) = ((clearAll x (2 ^ r) : Nat) : Int) := by
  rw [two_wrap r hr, bits_clear x _ hx (two_lt r hr)]
theorem testBit_clearBit (x r i : Nat) (hx : x < 18446744073709551616) (hr : r < 64) : (clearAll x (2 ^ r)).testBit i = (x.testBit i && !decide (r = i)) := by
  rw [testBit_clearAll x _ i hx (two_lt r hr), Nat.testBit_two_pow]

/-- The lowest set bit. -/
theorem ctz_spec (x : Nat) (hx : x < 18446744073709551616) (h0 : x ≠ 0) : Lib.ctz 64 x < 64 ∧ x.testBit (Lib.ctz 64 x) = true ∧ ∀ r, r < Lib.ctz 64 x → x.testBit r = false := by
  have e : Lib.ctz 64 x = Lib.ctzFrom 64 x := by unfold Lib.ctz; rw [if_neg h0]
  obtain ⟨m, hm, hk⟩ := Lib.ctzFrom_spec 64 x (by omega) (by rw [pow64]; exact hx)
  rw [e]
  generalize Lib.ctzFrom 64 x = k at hm hk
  refine ⟨hk, ?_, ?_⟩
  · rw [hm, Nat.mul_comm, Nat.testBit_mul_two_pow]
    simp
  · intro r hr
    rw [hm, Nat.mul_comm, Nat.testBit_mul_two_pow]
    simp; omega
theorem zero_of_bits (x : Nat) (hx : x < 18446744073709551616) (h : ∀ r, r < 64 → x.testBit r = false) : x = 0 := by
  apply Nat.eq_of_testBit_eq
  intro i
  rw [Nat.zero_testBit]
  by_cases hi : i < 64
  · exact h i hi
  · exact Nat.testBit_lt_two_pow (Nat.lt_of_lt_of_le (by rw [pow64]; exact hx : x < 2 ^ 64) (Nat.pow_le_pow_right (by omega) (by omega)))

/-- 'x &^ (1<<r - 1)': the bits from r on. -/
theorem low_clear (x r : Nat) (hx : x < 18446744073709551616) (hr : r < 64) :
    bits .andNot .u64 (x : Int) ((2 ^ r : Nat) - 1 : Int) = ((clearAll x (2 ^ r - 1) : Nat) : Int) := by
  have := Nat.two_pow_pos r
  have e : ((2 ^ r : Nat) - 1 : Int) = ((2 ^ r - 1 : Nat) : Int) := by
    generalize 2 ^ r = p at this ⊢
    omega
  have hlt := two_lt r hr
  rw [e, bits_clear x _ hx (Nat.lt_of_le_of_lt (Nat.sub_le _ _) hlt)]
theorem testBit_lowClear (x r i : Nat) (hx : x < 18446744073709551616) (hr : r < 64) : (clearAll x (2 ^ r - 1)).testBit i = (x.testBit i && decide (r ≤ i)) := by
  rw [testBit_clearAll x _ i hx (Nat.lt_of_le_of_lt (Nat.sub_le _ _) (two_lt r hr)), Nat.testBit_two_pow_sub_one]
  by_cases h : i < r
  · simp [h]
  · simp [h]; omega

/-- Slot t is held, by the words H. -/
def heldBit (H : Nat → Nat) (t : Nat) : Bool := (H (t / 64)).testBit (t % 64)

end Go.Proofs.YbulkajrsDoor
