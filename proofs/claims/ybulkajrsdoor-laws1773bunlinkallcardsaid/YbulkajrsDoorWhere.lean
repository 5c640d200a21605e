import Derived.Test.YbulkajrsDoorNew
import Derived.Test.YbulkajrsDoorShelf
import Derived.Lib.BitFns
import Derived.Lib.ItoaNum
import Derived.Laws.Bits64
namespace Go.Proofs.YbulkajrsDoor
open Go.RowKit
set_option linter.unusedVariables false

/-- d's highest digit in base N is digit l. -/
def IsLev (N d l : Nat) : Prop := N ^ l ≤ d ∧ d < N ^ (l + 1)
theorem IsLev.unique {N d l l' : Nat} (hN : 2 ≤ N) (h : IsLev N d l) (h' : IsLev N d l') : l = l' := by
  apply Nat.le_antisymm
  · apply Nat.le_of_not_lt; intro hlt
    have : N ^ (l' + 1) ≤ N ^ l := Nat.pow_le_pow_right (by omega) hlt
    have := h.1; have := h'.2; omega
  · apply Nat.le_of_not_lt; intro hlt
    have : N ^ (l + 1) ≤ N ^ l' := Nat.pow_le_pow_right (by omega) hlt
    have := h.2; have := h'.1; omega
theorem IsLev.digit {N d l : Nat} (hN : 2 ≤ N) (h : IsLev N d l) : 1 ≤ d / N ^ l ∧ d / N ^ l < N := by
  have hp : 0 < N ^ l := Nat.pow_pos (by omega)
  refine ⟨(Nat.le_div_iff_mul_le hp).2 (by rw [Nat.one_mul]; exact h.1), (Nat.div_lt_iff_lt_mul hp).2 ?_⟩
  have := h.2
  rwa [Nat.pow_succ, Nat.mul_comm] at this
theorem IsLev.lt64 {N d l : Nat} (hN : 2 ≤ N) (hd : d < 18446744073709551616) (h : IsLev N d l) : l < 64 := by
  apply Nat.lt_of_not_le; intro hle
  have h1 : 2 ^ 64 ≤ 2 ^ l := Nat.pow_le_pow_right (by omega) hle
  have h2 : 2 ^ l ≤ N ^ l := Nat.pow_le_pow_left hN l
  have h64 : (2 : Nat) ^ 64 = 18446744073709551616 := by decide
  have := h.1
  omega

theorem bitLen_spec (x : Nat) (h0 : 1 ≤ x) (h : x < 18446744073709551616) : 1 ≤ Lib.bitLen x ∧ Lib.bitLen x ≤ 64 ∧ 2 ^ (Lib.bitLen x - 1) ≤ x ∧ x < 2 ^ Lib.bitLen x := by
  have hx : x < 2 ^ 64 := by have h64 : (2 : Nat) ^ 64 = 18446744073709551616 := by decide
                             omega
  obtain ⟨a, b, c⟩ := Lib.bitLenAux_bounds 64 x hx (by omega)
  exact ⟨a, Lib.bitLen_le x 64 (by omega) hx, b, c⟩

theorem ret3 {a a' b b' c c' : Int} (h1 : a = a') (h2 : b = b') (h3 : c = c') : Ending.returned (.tuple #[.int .i64 a, .int .u64 b, .int .u64 c]) = .returned (.tuple #[.int .i64 a', .int .u64 b', .int .u64 c']) := by
  subst h1 h2 h3; rfl

/-! ### zzs1773bwhere -/
set_option maxHeartbeats 400000 in
set_option maxRecDepth 100000 in
theorem where_any (N due l : Nat) (w : World) (hN : 2 ≤ N) (hN2 : N ≤ 100) (hd : due < 18446744073709551616) (hl : IsLev N due l) :
    Calls Ybad.prog 15 #[.int .u64 N, .int .u64 due] w fun e w' => e = .returned (.tuple #[.int .i64 l, .int .u64 ((due / N ^ l : Nat) : Int), .int .u64 ((due / N ^ l * N ^ l : Nat) : Int)]) ∧ w' = w := by
  have h64 := hl.lt64 hN hd
  have HL : Hid (IsLev N due l) := hl
  clear hl
  go_enter Ybad.func15, Ybad.ntmps15
  go_wp2
  go_loop [7, 8, 9] (fun dv sv lv => ∃ i D S : Nat, i ≤ l ∧ dv = .int .u64 D ∧ sv = .int .u64 S ∧ lv = .int .i64 i ∧ D < 18446744073709551616 ∧ S < 18446744073709551616 ∧ Hid (D = due / N ^ i ∧ S = N ^ i)) (fun _ _ lv => l - (intOf lv).toNat)
  case atStart => exact ⟨0, due, 1, Nat.zero_le _, rfl, rfl, rfl, hd, by omega, by simp, by simp⟩
  case round =>
    obtain ⟨i, D, S, hi, rfl, rfl, rfl, hD, hS, hDS⟩ := hrel
    have hp : 0 < N ^ i := Nat.pow_pos (by omega)
    by_cases hge : N ≤ D
    · have hil : i < l := by
        apply Nat.lt_of_not_le; intro hle
        have e : i = l := by omega
        have := (HL.out.digit hN).2
        rw [← e, ← hDS.out.1] at this
        omega
      have hSN : S * N < 18446744073709551616 := by
        rw [hDS.out.2, ← Nat.pow_succ]
        exact Nat.lt_of_le_of_lt (Nat.le_trans (Nat.pow_le_pow_right (by omega) hil) HL.out.1) hd
      have hw : IntKind.u64.wrap ((S : Int) * N) = ((S * N : Nat) : Int) := by rw [← Int.natCast_mul, wrap_nat, Nat.mod_eq_of_lt hSN]
      have hw2 : IntKind.u64.wrap ((D : Int) / N) = ((D / N : Nat) : Int) := by
        rw [← Int.natCast_ediv, wrap_nat, Nat.mod_eq_of_lt (Nat.lt_of_le_of_lt (Nat.div_le_self _ _) hD)]
      have hnx : Hid (D / N = due / N ^ (i + 1) ∧ S * N = N ^ (i + 1)) := by
        obtain ⟨e1, e2⟩ := hDS.out
        exact ⟨by rw [e1, Nat.div_div_eq_div_mul, Nat.pow_succ], by rw [e2, Nat.pow_succ]⟩
      clear hp
      go_wp2
      go_round
      case rel => exact ⟨i + 1, D / N, S * N, by omega, by first | rfl | (rw [hw2]), by first | rfl | (rw [hw]), by go_num, Nat.lt_of_le_of_lt (Nat.div_le_self _ _) hD, hSN, hnx⟩
      case measure => simp [intOf]; omega
    · have hil : i = l := by
        apply Nat.le_antisymm hi
        apply Nat.le_of_not_lt; intro hlt
        have h1 : N ^ (i + 1) ≤ N ^ l := Nat.pow_le_pow_right (by omega) hlt
        have h2 := HL.out.1
        have h3 : N * N ^ i ≤ due := by rw [Nat.mul_comm, ← Nat.pow_succ]; exact Nat.le_trans h1 h2
        have := (Nat.le_div_iff_mul_le hp).2 h3
        rw [← hDS.out.1] at this
        omega
      have hDS2 : Hid (D = due / N ^ l ∧ S = N ^ l) := by rw [← hil]; exact hDS
      have hDSl : D * S < 18446744073709551616 := by
        obtain ⟨e1, e2⟩ := hDS2.out
        rw [e1, e2]
        have := Nat.div_mul_le_self due (N ^ l)
        omega
      have hw : IntKind.u64.wrap ((D : Int) * S) = ((D * S : Nat) : Int) := by rw [← Int.natCast_mul, wrap_nat, Nat.mod_eq_of_lt hDSl]
      have HIL : Hid (i = l) := hil
      clear hil hp hDS
      go_wp2
      go_ret3
      obtain ⟨e1, e2⟩ := hDS2.out
      refine ⟨ret3 ?_ ?_ ?_, rfl⟩
      · rw [HIL.out]
      · rw [e1]; simp
      · rw [e1, e2]; simp
/-! ### zzs1773bslots -/
def slotsB (a : Int) : Nat := if a % 6 = 0 then 2 else if a % 6 = 1 then 3 else if a % 6 = 2 then 4 else if a % 6 = 3 then 8 else if a % 6 = 4 then 10 else 64
set_option maxHeartbeats 400000 in
set_option maxRecDepth 100000 in
theorem bslots_any (a : Int) (h0 : 0 ≤ a) (h1 : a ≤ 255) (w : World) :
    Calls Ybad.prog 11 #[.int .u8 a] w fun e w' => e = .returned (.int .u64 (slotsB a)) ∧ Below w.heap.size w w' := by
  have hc : a % 6 = 0 ∨ a % 6 = 1 ∨ a % 6 = 2 ∨ a % 6 = 3 ∨ a % 6 = 4 ∨ a % 6 = 5 := by omega
  rcases hc with h | h | h | h | h | h
  all_goals
    go_enter Ybad.func11, Ybad.ntmps11
    go_wp2
    go_ret
    refine ⟨ret_int ?_, (Below.refl _ _).alloc (Nat.le_refl _) _⟩
    simp [slotsB, h]
theorem slotsB_cases (a : Int) : slotsB a = 2 ∨ slotsB a = 3 ∨ slotsB a = 4 ∨ slotsB a = 8 ∨ slotsB a = 10 ∨ slotsB a = 64 := by
  unfold slotsB
  split; · simp
  split; · simp
  split; · simp
  split; · simp
  split <;> simp

/-! ### slot -/
set_option maxHeartbeats 400000 in
set_option maxRecDepth 100000 in
theorem slot_pow (L N sh due l : Nat) (s : Lv) (w : World) (hN2 : N ≤ 100) (hs1 : 1 ≤ sh) (hs6 : sh ≤ 6) (hNe : Hid (N = 2 ^ sh)) (hd1 : 1 ≤ due) (hd : due < 18446744073709551616) (hl : IsLev N due l)
    (hLv : LvIs w L s) (e0 : s.slots = N) (e1 : s.shift = sh) (e2 : s.dig = fun b => if b < 64 then b / sh else 0) (e3 : s.now = 0) :
    Calls Ybad.prog 24 #[.pointer (some ⟨L, 0, none⟩), .int .u64 due] w fun e w' => e = .returned (.tuple #[.int .i64 l, .int .u64 ((due / N ^ l : Nat) : Int), .int .u64 ((due / N ^ l * N ^ l : Nat) : Int)]) ∧ ∃ m, w' = w.drewN m := by
  have c0 : w.cell? ⟨L, 0, none⟩ = some (.int .u64 N) := by rw [← e0]; exact hLv.slots
  have c1 : w.cell? ⟨L, 1, none⟩ = some (.int .u64 sh) := by rw [← e1]; exact hLv.shift
  have c70 : w.cell? ⟨L, 70, none⟩ = some (.int .u64 0) := by rw [hLv.now, e3]; rfl
  obtain ⟨b1, b2, b3, b4⟩ := bitLen_spec due hd1 hd
  obtain ⟨k, hk⟩ : ∃ k, Lib.bitLen due = k + 1 := ⟨Lib.bitLen due - 1, by omega⟩
  rw [hk] at b2 b3 b4
  have hkl : k / sh = l := by
    refine IsLev.unique (N := N) (d := due) (by rw [hNe.out]; exact Nat.le_trans (by decide) (Nat.pow_le_pow_right (n := 2) (by omega) hs1)) ⟨?_, ?_⟩ hl
    · rw [hNe.out, ← Nat.pow_mul]
      exact Nat.le_trans (Nat.pow_le_pow_right (by omega) (Nat.mul_div_le k sh)) (by simpa using b3)
    · rw [hNe.out, ← Nat.pow_mul]
      refine Nat.lt_of_lt_of_le b4 (Nat.pow_le_pow_right (by omega) ?_)
      have := Nat.div_add_mod k sh
      have := Nat.mod_lt k (show 0 < sh by omega)
      rw [Nat.mul_add, Nat.mul_one]
      omega
  have hl64 : l < 64 := by
    rw [← hkl]; exact Nat.lt_of_le_of_lt (Nat.div_le_self _ _) (by omega)
  obtain ⟨wd, hwd⟩ : ∃ wd, wd = sh * l := ⟨_, rfl⟩
  have hwd64 : wd < 64 := by
    rw [hwd, ← hkl]
    exact Nat.lt_of_le_of_lt (Nat.mul_div_le k sh) (by omega)
  have hw1 : IntKind.u64.wrap ((sh : Int) * l) = wd := by rw [← Int.natCast_mul, ← hwd, wrap_nat]; omega
  have hNl : N ^ l = 2 ^ wd := by rw [hNe.out, ← Nat.pow_mul, ← hwd]
  have hq := hl.digit (by have := Nat.pow_le_pow_right (n := 2) (by omega) hs1; rw [hNe.out]; omega)
  rw [hNl] at hq
  obtain ⟨q, hqe⟩ : ∃ q, q = due / 2 ^ wd := ⟨_, rfl⟩
  rw [← hqe] at hq
  have hq1 : (due : Int) / 2 ^ wd = q := by rw [hqe]; simp
  have hqd : q ≤ due := by rw [hqe]; exact Nat.div_le_self _ _
  have hq2 : bits .and .u64 (q : Int) ((N : Int) - 1) = q := by
    have e1 : (N : Int) - 1 = ((N - 1 : Nat) : Int) := by omega
    rw [e1, bits_and_u64_nat q (N - 1) (by omega) (by omega), hNe.out, Nat.and_two_pow_sub_one_eq_mod, ← hNe.out, Nat.mod_eq_of_lt hq.2]
  have hq3 : IntKind.u64.wrap ((q : Int) * 2 ^ wd) = ((q * 2 ^ wd : Nat) : Int) := by
    have e1 : (q : Int) * 2 ^ wd = ((q * 2 ^ wd : Nat) : Int) := by simp
    have e2 : q * 2 ^ wd ≤ due := by rw [hqe]; exact Nat.div_mul_le_self _ _
    rw [e1, wrap_nat, Nat.mod_eq_of_lt (by omega)]
  have FIN : Hid (q = due / N ^ l ∧ 2 ^ wd = N ^ l) := ⟨by rw [hNl]; exact hqe, hNl.symm⟩
  have c2 : w.cell? ⟨L, 2 + k, none⟩ = some (.int .u8 l) := by
    rw [hLv.dig (by omega), e2]
    simp only [if_pos (show k < 64 by omega), hkl]
  have CL : Hid (∀ W, Calls Ybad.prog 30 #[.int .u64 due] W fun e w' => e = .returned (.int .i64 ((k : Int) + 1)) ∧ w' = W) := fun W => by
    have := len64_any (due : Int) W (by omega) (by omega)
    rw [Int.toNat_natCast, hk] at this
    exact this
  have hx : bits .xor .u64 (due : Int) 0 = due := by
    have := bits_xor_u64_nat due 0 hd (by omega)
    simpa using this
  have t1 : ((sh : Int) != 0) = true := by rw [bne_iff_ne]; omega
  have HB : Hid (2 ^ k ≤ due ∧ due < 2 ^ (k + 1)) := ⟨by simpa using b3, b4⟩
  have HKL : Hid (k / sh = l) := hkl
  have HLV : Hid (LvIs w L s) := hLv
  have HI : Hid (IsLev N due l) := hl
  clear hLv e0 e1 e2 e3 b1 b3 b4 hk hkl hl hwd hNl hqe
  go_enter Ybad.func24, Ybad.ntmps24
  go_wp2_with fail
  go_quiet ((go_at_call 30; exact Calls.quiet_of_same (CL.out _)))
  go_wp2_with fail
  go_quiet (fail)
  go_wp2
  go_ret3
  refine ⟨ret3 rfl ?_ ?_, _, World.drewN_drewN ..⟩
  · rw [FIN.out.1]
  · obtain ⟨g1, g2⟩ := FIN.out
    have g3 : (2 : Int) ^ wd = ((N ^ l : Nat) : Int) := by rw [← g2]; simp
    rw [g1, g3]
    simp

set_option maxHeartbeats 1000000 in
set_option maxRecDepth 100000 in
theorem slot_flat (L N due l : Nat) (s : Lv) (w : World) (hN : 2 ≤ N) (hN2 : N ≤ 100) (hd : due < 18446744073709551616) (hl : IsLev N due l)
    (hLv : LvIs w L s) (e0 : s.slots = N) (e1 : s.shift = 0) (e3 : s.now = 0) :
    Calls Ybad.prog 24 #[.pointer (some ⟨L, 0, none⟩), .int .u64 due] w fun e w' => e = .returned (.tuple #[.int .i64 l, .int .u64 ((due / N ^ l : Nat) : Int), .int .u64 ((due / N ^ l * N ^ l : Nat) : Int)]) ∧ ∃ m, w' = w.drewN m := by
  have c0 : w.cell? ⟨L, 0, none⟩ = some (.int .u64 N) := by rw [← e0]; exact hLv.slots
  have c1 : w.cell? ⟨L, 1, none⟩ = some (.int .u64 0) := by rw [hLv.shift, e1]; rfl
  obtain ⟨z, hz⟩ : ∃ z : Nat, z = 0 := ⟨_, rfl⟩
  have c70 : w.cell? ⟨L, 70, none⟩ = some (.int .u64 z) := by rw [hLv.now, e3, hz]
  have CU : Hid (∀ (q : Nat) (W : World), q < 18446744073709551616 → W.cell? ⟨L, 0, none⟩ = some (.int .u64 N) → W.cell? ⟨L, 1, none⟩ = some (.int .u64 0) →
      Calls Ybad.prog 19 #[.pointer (some ⟨L, 0, none⟩), .int .u64 q] W fun e w' => e = .returned (.int .u64 ((q / N : Nat) : Int)) ∧ w' = W) :=
    fun q W hq a0 a1 => up_any L N 0 q W hN hN2 (by omega) (.inl rfl) hq a0 a1
  have CD : Hid (∀ (q : Nat) (W : World), q < 18446744073709551616 → W.cell? ⟨L, 0, none⟩ = some (.int .u64 N) → W.cell? ⟨L, 1, none⟩ = some (.int .u64 0) →
      Calls Ybad.prog 20 #[.pointer (some ⟨L, 0, none⟩), .int .u64 q] W fun e w' => e = .returned (.int .u64 ((q % N : Nat) : Int)) ∧ w' = W) :=
    fun q W hq a0 a1 => digit_any L N 0 q W hN hN2 (by omega) (.inl rfl) hq a0 a1
  have h64 := hl.lt64 hN hd
  have HL : Hid (IsLev N due l) := hl
  have HZ : Hid (z = 0) := hz
  have hzl : z < 18446744073709551616 := by omega
  clear hLv e0 e1 e3 hl hz
  go_enter Ybad.func24, Ybad.ntmps24
  go_wp2_with fail
  go_loopw [1, 4, 8, 9] (fun dv lv zv sv wr => ∃ i D Z S m : Nat, i ≤ l ∧ dv = .int .u64 D ∧ zv = .int .u64 Z ∧ sv = .int .u64 S ∧ lv = .int .i64 i ∧ wr = w.drewN m ∧ D < 18446744073709551616 ∧ S < 18446744073709551616 ∧ Hid (Z = 0) ∧ Hid (D = due / N ^ i ∧ S = N ^ i))
    (fun _ lv _ _ _ => l - (intOf lv).toNat)
  case atStart => exact ⟨0, due, z, 1, 0, Nat.zero_le _, rfl, rfl, rfl, rfl, rfl, hd, by omega, HZ, by simp, by simp⟩
  case round =>
    obtain ⟨i, D, Z, S, m, hi, rfl, rfl, rfl, rfl, rfl, hD, hS, hZ, hDS⟩ := hrel
    have hZl : Z < 18446744073709551616 := by have := hZ.out; omega
    have hp : 0 < N ^ i := Nat.pow_pos (by omega)
    have hdn : (D : Int) / N = ((D / N : Nat) : Int) := by simp
    have hzn : (Z : Int) / N = ((Z / N : Nat) : Int) := by simp
    have hz0 : Z / N = 0 := by rw [hZ.out]; simp
    by_cases hge : N ≤ D
    · have hil : i < l := by
        apply Nat.lt_of_not_le; intro hle
        have e : i = l := by omega
        have := (HL.out.digit hN).2
        rw [← e, ← hDS.out.1] at this
        omega
      have hSN : S * N < 18446744073709551616 := by
        rw [hDS.out.2, ← Nat.pow_succ]
        exact Nat.lt_of_le_of_lt (Nat.le_trans (Nat.pow_le_pow_right (by omega) hil) HL.out.1) hd
      have hw : IntKind.u64.wrap ((S : Int) * N) = ((S * N : Nat) : Int) := by rw [← Int.natCast_mul, wrap_nat, Nat.mod_eq_of_lt hSN]
      have hnx : Hid (D / N = due / N ^ (i + 1) ∧ S * N = N ^ (i + 1)) := by
        obtain ⟨e1, e2⟩ := hDS.out
        exact ⟨by rw [e1, Nat.div_div_eq_div_mul, Nat.pow_succ], by rw [e2, Nat.pow_succ]⟩
      have hq1 : 1 ≤ D / N := (Nat.le_div_iff_mul_le (by omega)).2 (by omega)
      have ht : (((D / N : Nat) : Int) != ((Z / N : Nat) : Int)) = true := by rw [hz0, bne_iff_ne]; omega
      have HZ0 : Hid (Z / N = 0) := hz0
      clear hp hdn hzn hq1 hz0
      go_wp2_with ((go_at_call 19; refine (CU.out _ _ (by assumption) (by simp only [World.cell?_drewN]; exact c0) (by simp only [World.cell?_drewN]; exact c1)).mono ?_; rintro e w' ⟨rfl, rfl⟩))
      go_quiet ((go_at_call 19; refine (CU.out _ _ (by assumption) (by simp only [World.cell?_drewN]; exact c0) (by simp only [World.cell?_drewN]; exact c1)).mono ?_; rintro e w' ⟨rfl, rfl⟩; exact ⟨rfl, _, rfl⟩))
      go_wp2
      go_roundw
      case rel => exact ⟨i + 1, D / N, Z / N, S * N, _, by omega, rfl, rfl, by first | rfl | (rw [hw]), by go_num, World.drewN_drewN .., Nat.lt_of_le_of_lt (Nat.div_le_self _ _) hD, hSN, HZ0, hnx⟩
      case measure => simp [intOf]; omega
    · have hil : i = l := by
        apply Nat.le_antisymm hi
        apply Nat.le_of_not_lt; intro hlt
        have h1 : N ^ (i + 1) ≤ N ^ l := Nat.pow_le_pow_right (by omega) hlt
        have h2 := HL.out.1
        have h3 : N * N ^ i ≤ due := by rw [Nat.mul_comm, ← Nat.pow_succ]; exact Nat.le_trans h1 h2
        have := (Nat.le_div_iff_mul_le hp).2 h3
        rw [← hDS.out.1] at this
        omega
      have hDS2 : Hid (D = due / N ^ l ∧ S = N ^ l) := by rw [← hil]; exact hDS
      have hDSl : D * S < 18446744073709551616 := by
        obtain ⟨e1, e2⟩ := hDS2.out
        rw [e1, e2]
        have := Nat.div_mul_le_self due (N ^ l)
        omega
      have hw : IntKind.u64.wrap ((D : Int) * S) = ((D * S : Nat) : Int) := by rw [← Int.natCast_mul, wrap_nat, Nat.mod_eq_of_lt hDSl]
      have hq1 : D / N = 0 := Nat.div_eq_of_lt (by omega)
      have ht : (((D / N : Nat) : Int) != ((Z / N : Nat) : Int)) = false := by rw [hz0, hq1]; rfl
      have hmod : D % N = D := Nat.mod_eq_of_lt (by omega)
      have HMOD : Hid (D % N = D) := hmod
      have HIL : Hid (i = l) := hil
      clear hil hp hDS hdn hzn hq1 hz0 hmod
      go_wp2_with (first | (go_at_call 19; refine (CU.out _ _ (by assumption) (by simp only [World.cell?_drewN]; exact c0) (by simp only [World.cell?_drewN]; exact c1)).mono ?_; rintro e w' ⟨rfl, rfl⟩) | (go_at_call 20; refine (CD.out _ _ (by assumption) (by simp only [World.cell?_drewN]; exact c0) (by simp only [World.cell?_drewN]; exact c1)).mono ?_; rintro e w' ⟨rfl, rfl⟩))
      go_ret3
      obtain ⟨e1, e2⟩ := hDS2.out
      refine ⟨ret3 ?_ ?_ ?_, _, rfl⟩
      · rw [HIL.out]
      · rw [← e1, ← Int.natCast_emod, HMOD.out]
      · rw [e1, e2]; simp

/-- slot, at the numbers of slots that the laws hand it. -/
theorem slot_any (L N due l : Nat) (s : Lv) (w : World) (hg : GoodN N) (hd1 : 1 ≤ due) (hd : due < 18446744073709551616) (hl : IsLev N due l)
    (hLv : LvIs w L s) (e0 : s.slots = N) (e1 : s.shift = shOf N) (e2 : s.dig = fun b => if b < 64 then b / shOf N else 0) (e3 : s.now = 0) :
    Calls Ybad.prog 24 #[.pointer (some ⟨L, 0, none⟩), .int .u64 due] w fun e w' => e = .returned (.tuple #[.int .i64 l, .int .u64 ((due / N ^ l : Nat) : Int), .int .u64 ((due / N ^ l * N ^ l : Nat) : Int)]) ∧ ∃ m, w' = w.drewN m := by
  obtain ⟨hN, hN2⟩ := hg.bounds
  obtain ⟨h1, h2⟩ := hg.sh
  by_cases h0 : shOf N = 0
  · rw [h0] at e1
    exact slot_flat L N due l s w hN hN2 hd hl hLv e0 e1 e3
  · exact slot_pow L N (shOf N) due l s w hN2 (by omega) h2 (h1.resolve_left h0) hd1 hd hl hLv e0 e1 e2 e3
end Go.Proofs.YbulkajrsDoor
