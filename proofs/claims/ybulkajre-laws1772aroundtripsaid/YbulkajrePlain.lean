import Derived.Laws.Bits64b
namespace Go.Proofs.Ybulkajre
open Go

/-- All bits of a cell of 2^sh bits. -/
def lowN (sh : Nat) : Nat := 2 ^ (2 ^ sh) - 1
/-- The bits of the cell that begins at bit b of a word. -/
def maskN (sh b : Nat) : Nat := lowN sh * 2 ^ b % 18446744073709551616
/-- The cell's value. -/
def cellV (sh b x : Nat) : Nat := x / 2 ^ b % 2 ^ (2 ^ sh)
/-- The word behind 'decrement'. -/
def decW (sh b x : Nat) : Nat := if cellV sh b x = 0 ∨ cellV sh b x = lowN sh then x else x - 2 ^ b

theorem seven {P : Nat → Prop} (h0 : P 0) (h1 : P 1) (h2 : P 2) (h3 : P 3) (h4 : P 4) (h5 : P 5) (h6 : P 6) (sh : Nat) (h : sh ≤ 6) : P sh := by
  match sh, h with
  | 0, _ => exact h0
  | 1, _ => exact h1
  | 2, _ => exact h2
  | 3, _ => exact h3
  | 4, _ => exact h4
  | 5, _ => exact h5
  | 6, _ => exact h6

/-- A cell that begins at a multiple of its width ends within the word. -/
theorem fits (sh b : Nat) (h : sh ≤ 6) (hb : b < 64) (hd : 2 ^ sh ∣ b) : b + 2 ^ sh ≤ 64 := by
  have key : ∀ d, d ∣ 64 → d ∣ b → b + d ≤ 64 := by
    intro d h1 h2
    obtain ⟨p, hp⟩ := h1
    obtain ⟨q, hq⟩ := h2
    have hlt : q < p := by
      apply Nat.lt_of_mul_lt_mul_left (a := d)
      omega
    have : d * (q + 1) ≤ d * p := Nat.mul_le_mul_left d hlt
    rw [Nat.mul_add, Nat.mul_one] at this
    omega
  exact key _ (seven (P := fun sh => 2 ^ sh ∣ 64) (by decide) (by decide) (by decide) (by decide) (by decide) (by decide) (by decide) sh h) hd

theorem low_pos (sh : Nat) : 1 ≤ lowN sh := by
  have h1 : 2 ^ 0 < 2 ^ sh ∨ sh = 0 := by
    rcases Nat.eq_zero_or_pos sh with h | h
    · exact .inr h
    · exact .inl (Nat.pow_lt_pow_right (by omega) h)
  have h2 : 2 ^ 1 ≤ 2 ^ (2 ^ sh) := Nat.pow_le_pow_right (by omega) (Nat.pos_of_ne_zero (by simp))
  unfold lowN; omega
theorem low_succ (sh : Nat) : lowN sh + 1 = 2 ^ (2 ^ sh) := by
  have := Nat.two_pow_pos (2 ^ sh)
  unfold lowN; omega

theorem mask_eq (sh b : Nat) (hf : b + 2 ^ sh ≤ 64) : maskN sh b = lowN sh * 2 ^ b := by
  refine Nat.mod_eq_of_lt ?_
  have h1 : (lowN sh + 1) * 2 ^ b ≤ 2 ^ 64 := by
    rw [low_succ, ← Nat.pow_add]
    exact Nat.pow_le_pow_right (by omega) (by omega)
  rw [Nat.add_mul, Nat.one_mul] at h1
  have := Nat.two_pow_pos b
  have h64 : (2 : Nat) ^ 64 = 18446744073709551616 := by decide
  omega

theorem and_mask (sh b x : Nat) : x &&& lowN sh * 2 ^ b = cellV sh b x * 2 ^ b := by
  unfold lowN cellV
  rw [← Nat.shiftLeft_eq, ← Nat.shiftLeft_eq, ← Nat.shiftRight_eq_div_pow]
  apply Nat.eq_of_testBit_eq
  intro i
  simp only [Nat.testBit_and, Nat.testBit_shiftLeft, Nat.testBit_two_pow_sub_one, Nat.testBit_mod_two_pow, Nat.testBit_shiftRight]
  by_cases h : b ≤ i
  · have e : b + (i - b) = i := by omega
    simp [h, e, Bool.and_comm]
  · simp [h]
theorem and_low (sh y : Nat) : y &&& lowN sh = y % 2 ^ (2 ^ sh) := Nat.and_two_pow_sub_one_eq_mod y (2 ^ sh)

theorem low_lt (sh : Nat) (h : sh ≤ 6) : lowN sh < 18446744073709551616 :=
  seven (P := fun sh => lowN sh < 18446744073709551616) (by decide) (by decide) (by decide) (by decide) (by decide) (by decide) (by decide) sh h

theorem bits_mask (sh b x : Nat) (hx : x < 18446744073709551616) (hf : b + 2 ^ sh ≤ 64) : bits .and .u64 (x : Int) (maskN sh b : Nat) = ((cellV sh b x * 2 ^ b : Nat) : Int) := by
  have hm : maskN sh b < 18446744073709551616 := Nat.mod_lt _ (by omega)
  rw [bits_and_u64_nat x (maskN sh b) hx hm, mask_eq sh b hf, and_mask]
theorem bits_low (sh b x : Nat) (h : sh ≤ 6) (hx : x < 18446744073709551616) : bits .and .u64 ((x : Int) / 2 ^ b) (lowN sh : Nat) = ((cellV sh b x : Nat) : Int) := by
  have e : (x : Int) / 2 ^ b = ((x / 2 ^ b : Nat) : Int) := by simp
  have hlt : x / 2 ^ b < 18446744073709551616 := Nat.lt_of_le_of_lt (Nat.div_le_self _ _) hx
  rw [e, bits_and_u64_nat _ _ hlt (low_lt sh h), and_low]; rfl

/-- Whether the masked word is nought, as the code asks it. -/
theorem zero_iff (sh b x : Nat) (hx : x < 18446744073709551616) (hf : b + 2 ^ sh ≤ 64) :
    (bits .and .u64 (x : Int) (maskN sh b : Nat) == 0) = decide (cellV sh b x = 0) := by
  rw [bits_mask sh b x hx hf, Bool.eq_iff_iff]
  have := Nat.two_pow_pos b
  simp only [beq_iff_eq, decide_eq_true_eq]
  rw [show (0 : Int) = ((0 : Nat) : Int) from rfl, Int.ofNat_inj]
  constructor
  · intro h; rcases Nat.mul_eq_zero.1 h with h | h
    · exact h
    · omega
  · intro h; rw [h, Nat.zero_mul]
theorem full_iff (sh b x : Nat) (hx : x < 18446744073709551616) (hf : b + 2 ^ sh ≤ 64) :
    (bits .and .u64 (x : Int) (maskN sh b : Nat) == (maskN sh b : Int)) = decide (cellV sh b x = lowN sh) := by
  rw [bits_mask sh b x hx hf, mask_eq sh b hf, Bool.eq_iff_iff]
  simp only [beq_iff_eq, decide_eq_true_eq]
  rw [Int.ofNat_inj]
  constructor
  · intro h; exact Nat.eq_of_mul_eq_mul_right (Nat.two_pow_pos b) h
  · intro h; rw [h]

/-- A cell that is not nought lets the word be lowered by its lowest bit. -/
theorem pow_le (sh b x : Nat) (h : cellV sh b x ≠ 0) : 2 ^ b ≤ x := by
  apply Nat.le_of_not_lt
  intro hl
  apply h
  unfold cellV
  rw [Nat.div_eq_of_lt hl, Nat.zero_mod]
theorem one_wrap (b : Nat) (hb : b < 64) : IntKind.u64.wrap (2 ^ b) = ((2 ^ b : Nat) : Int) := by
  have h1 : 2 ^ b < 2 ^ 64 := Nat.pow_lt_pow_right (by omega) hb
  have h64 : (2 : Nat) ^ 64 = 18446744073709551616 := by decide
  have e : (2 : Int) ^ b = ((2 ^ b : Nat) : Int) := by simp
  rw [e, IntKind.wrap_u64]
  generalize 2 ^ b = p at h1 ⊢
  omega
theorem sub_wrap (sh b x : Nat) (hb : b < 64) (hx : x < 18446744073709551616) (h0 : cellV sh b x ≠ 0) :
    IntKind.u64.wrap ((x : Int) - IntKind.u64.wrap (2 ^ b)) = ((x - 2 ^ b : Nat) : Int) := by
  have h1 := pow_le sh b x h0
  rw [one_wrap b hb, IntKind.wrap_u64]
  generalize 2 ^ b = p at h1 ⊢
  omega
theorem cell_lowered (sh b x : Nat) (h0 : cellV sh b x ≠ 0) : cellV sh b (x - 2 ^ b) = cellV sh b x - 1 := by
  have hp := Nat.two_pow_pos b
  have e : (x - 2 ^ b) / 2 ^ b = x / 2 ^ b - 1 := by
    have := Nat.sub_mul_div x (2 ^ b) 1
    simpa using this
  unfold cellV at h0 ⊢
  rw [e]
  have hm := Nat.two_pow_pos (2 ^ sh)
  generalize x / 2 ^ b = q at h0 ⊢
  generalize 2 ^ 2 ^ sh = m at h0 hm ⊢
  have hq := Nat.div_add_mod q m
  have hr := Nat.mod_lt q hm
  have e2 : q - 1 = m * (q / m) + (q % m - 1) := by omega
  rw [e2, Nat.mul_add_mod]
  exact Nat.mod_eq_of_lt (by omega)
theorem cell_le (sh b x : Nat) : cellV sh b x ≤ lowN sh := by
  have := Nat.mod_lt (x / 2 ^ b) (Nat.two_pow_pos (2 ^ sh))
  have := low_succ sh
  unfold cellV; omega
theorem decW_lt (sh b x : Nat) (hx : x < 18446744073709551616) : decW sh b x < 18446744073709551616 := by
  unfold decW; split
  · exact hx
  · exact Nat.lt_of_le_of_lt (Nat.sub_le _ _) hx

/-- The number of the cell's first bit, as the code reckons it. -/
theorem bit_of (len sh x : Nat) (h : sh ≤ 6) (hl : len ≤ 1024) (h0 : 0 < len) :
    0 < len * 64 / 2 ^ sh ∧ (x % (len * 64 / 2 ^ sh)) * 2 ^ sh < len * 64 := by
  have hp := Nat.two_pow_pos sh
  have hle : 2 ^ sh ≤ 64 := seven (P := fun sh => 2 ^ sh ≤ 64) (by decide) (by decide) (by decide) (by decide) (by decide) (by decide) (by decide) sh h
  have hpos : 0 < len * 64 / 2 ^ sh := Nat.div_pos (by omega) hp
  refine ⟨hpos, ?_⟩
  have h1 := Nat.mod_lt x hpos
  have h2 : (x % (len * 64 / 2 ^ sh)) * 2 ^ sh < (len * 64 / 2 ^ sh) * 2 ^ sh := Nat.mul_lt_mul_of_pos_right h1 hp
  have h3 := Nat.div_mul_le_self (len * 64) (2 ^ sh)
  omega
theorem dvd_off (i sh : Nat) (h : sh ≤ 6) : 2 ^ sh ∣ i * 2 ^ sh % 64 := by
  have h64 : 2 ^ sh ∣ 64 := seven (P := fun sh => 2 ^ sh ∣ 64) (by decide) (by decide) (by decide) (by decide) (by decide) (by decide) (by decide) sh h
  exact (Nat.dvd_mod_iff h64).2 (Nat.dvd_mul_left _ _)

end Go.Proofs.Ybulkajre
