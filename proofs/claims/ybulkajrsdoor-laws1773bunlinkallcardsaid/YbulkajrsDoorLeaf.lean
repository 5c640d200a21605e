import Derived.Test.YbulkajrsDoorRows
import Derived.WalkKit
import Derived.OpenShut
import Derived.Deep.QuietTactic
import Derived.BigQuiet
import Derived.Laws.Bits64b
import Derived.Lib.TrailingZeros
import Derived.WalkSmall
namespace Go.Proofs.YbulkajrsDoor
open Go.RowKit
set_option linter.unusedVariables false

theorem ret_int {k : IntKind} {a b : Int} (h : a = b) : Ending.returned (.int k a) = .returned (.int k b) := by rw [h]
theorem ret_true {b : Bool} (h : b = true) : Ending.returned (.bool b) = .returned (.bool true) := by rw [h]
theorem wrap_nat (n : Nat) : IntKind.u64.wrap (n : Int) = ((n % 18446744073709551616 : Nat) : Int) := by rw [IntKind.wrap_u64]; omega

/-! ### math/bits.TrailingZeros64, TrailingZeros -/
/-- The de Bruijn table lies in its variable (the program's first). -/
def TabAt (w : World) : Prop := ∀ j, j < Lib.deBruijn64tab.length → w.cell? ⟨0, j, none⟩ = some (.int .u8 (Lib.deBruijn64tab.getD j 0))

set_option maxHeartbeats 1000000 in
theorem tz64_core (x k idx : Nat) (w : World) (hx0 : ((x : Int) == 0) = false)
    (key : IntKind.u64.wrap (bits BinOp.and IntKind.u64 (x : Int) (IntKind.u64.wrap (-(x : Int))) * 285870213051353865) / 288230376151711744 = (idx : Int))
    (hi : idx < 64) (hk : k < 64) (hcell : w.cell? ⟨0, idx, none⟩ = some (.int .u8 k)) :
    Calls Ybad.prog 18 #[.int .u64 x] w fun e w' => e = .returned (.int .i64 k) ∧ w' = w := by
  go_enter Ybad.func18, Ybad.ntmps18
  go_wp2_with (simp only [key])
  go_ret
  exact ⟨rfl, rfl⟩

theorem tz64_key (x a : Nat) (hx : x < 18446744073709551616) (hx0 : x ≠ 0) (hlow : x &&& (18446744073709551616 - x) = a) :
    IntKind.u64.wrap (bits BinOp.and IntKind.u64 (x : Int) (IntKind.u64.wrap (-(x : Int))) * 285870213051353865) / 288230376151711744 = ((a * 285870213051353865 % 18446744073709551616 / 288230376151711744 : Nat) : Int) := by
  have e1 : IntKind.u64.wrap (-(x : Int)) = ((18446744073709551616 - x : Nat) : Int) := by rw [IntKind.wrap_u64]; omega
  rw [e1, bits_and_u64_nat x _ hx (by omega), hlow, IntKind.wrap_u64]
  omega

theorem tz64_any (x : Nat) (hx : x < 18446744073709551616) (hx0 : x ≠ 0) (w : World) (hT : TabAt w) :
    Calls Ybad.prog 18 #[.int .u64 x] w fun e w' => e = .returned (.int .i64 (Lib.ctz 64 x)) ∧ w' = w := by
  obtain ⟨hlow, hk⟩ := Lib.lowest_bit 64 x hx0 hx
  obtain ⟨hi, htab⟩ := Lib.deBruijn64_at _ hk
  have hcell := hT _ hi
  rw [htab] at hcell
  exact tz64_core x _ _ w (by simp; omega) (tz64_key x _ hx hx0 hlow) hi hk hcell

theorem tz_any (x : Nat) (hx : x < 18446744073709551616) (hx0 : x ≠ 0) (w : World) (hT : TabAt w) :
    Calls Ybad.prog 22 #[.int .u64 x] w fun e w' => e = .returned (.int .i64 (Lib.ctz 64 x)) ∧ w' = w := by
  have c64 := tz64_any x hx hx0 w hT
  have C : Hid (Calls Ybad.prog 18 #[.int .u64 x] w fun e w' => e = .returned (.int .i64 (Lib.ctz 64 x)) ∧ w' = w) := c64
  clear c64
  go_enter Ybad.func22, Ybad.ntmps22
  go_wp2_with ((go_at_call 18; refine C.out.mono ?_; rintro e w' ⟨rfl, rfl⟩))
  go_ret
  exact ⟨rfl, rfl⟩

/-! ### up, digit -/
/-- 'shift' is log2(slots) or 0. -/
def ShOk (N sh : Nat) : Prop := sh = 0 ∨ N = 2 ^ sh

theorem up_any (L N sh q : Nat) (w : World) (hN : 2 ≤ N) (hN2 : N ≤ 100) (h6 : sh ≤ 6) (hs : ShOk N sh) (hq : q < 18446744073709551616)
    (c0 : w.cell? ⟨L, 0, none⟩ = some (.int .u64 N)) (c1 : w.cell? ⟨L, 1, none⟩ = some (.int .u64 sh)) :
    Calls Ybad.prog 19 #[.pointer (some ⟨L, 0, none⟩), .int .u64 q] w fun e w' => e = .returned (.int .u64 ((q / N : Nat) : Int)) ∧ w' = w := by
  by_cases h0 : sh = 0
  · have t : ((sh : Int) != 0) = false := by simp [h0]
    clear h0 hs
    go_enter Ybad.func19, Ybad.ntmps19
    go_wp2
    go_ret
    refine ⟨ret_int ?_, rfl⟩
    show IntKind.u64.wrap ((q : Int) / N) = _
    rw [← Int.natCast_ediv, wrap_nat, Nat.mod_eq_of_lt (Nat.lt_of_le_of_lt (Nat.div_le_self _ _) hq)]
  · have t : ((sh : Int) != 0) = true := by rw [bne_iff_ne]; omega
    have e : N = 2 ^ sh := hs.resolve_left h0
    have E : Hid (N = 2 ^ sh) := e
    clear e h0 hs
    go_enter Ybad.func19, Ybad.ntmps19
    go_wp2
    go_ret
    exact ⟨ret_int (by rw [E.out]; simp), rfl⟩

theorem digit_any (L N sh q : Nat) (w : World) (hN : 2 ≤ N) (hN2 : N ≤ 100) (h6 : sh ≤ 6) (hs : ShOk N sh) (hq : q < 18446744073709551616)
    (c0 : w.cell? ⟨L, 0, none⟩ = some (.int .u64 N)) (c1 : w.cell? ⟨L, 1, none⟩ = some (.int .u64 sh)) :
    Calls Ybad.prog 20 #[.pointer (some ⟨L, 0, none⟩), .int .u64 q] w fun e w' => e = .returned (.int .u64 ((q % N : Nat) : Int)) ∧ w' = w := by
  by_cases h0 : sh = 0
  · have t : ((sh : Int) != 0) = false := by simp [h0]
    clear h0 hs
    go_enter Ybad.func20, Ybad.ntmps20
    go_wp2
    go_ret
    exact ⟨ret_int (by simp), rfl⟩
  · have t : ((sh : Int) != 0) = true := by rw [bne_iff_ne]; omega
    have e : N = 2 ^ sh := hs.resolve_left h0
    have E : Hid (N = 2 ^ sh) := e
    clear e h0 hs
    go_enter Ybad.func20, Ybad.ntmps20
    go_wp2
    go_ret
    refine ⟨ret_int ?_, rfl⟩
    show bits .and .u64 (q : Int) ((N : Int) - 1) = _
    have e1 : (N : Int) - 1 = ((N - 1 : Nat) : Int) := by omega
    rw [e1, bits_and_u64_nat q (N - 1) hq (by omega)]
    rw [E.out, Nat.and_two_pow_sub_one_eq_mod]

/-! ### the laws' own tables -/
def slotsA (a : Int) : Nat := if a % 7 = 0 then 2 else if a % 7 = 1 then 3 else if a % 7 = 2 then 4 else if a % 7 = 3 then 8 else if a % 7 = 4 then 10 else if a % 7 = 5 then 64 else 100

theorem aslots_any (a : Int) (h0 : 0 ≤ a) (h1 : a ≤ 255) (w : World) :
    Calls Ybad.prog 16 #[.int .u8 a] w fun e w' => e = .returned (.int .i64 (slotsA a)) ∧ w' = w := by
  go_enter Ybad.func16, Ybad.ntmps16
  go_wp2
  all_goals go_ret
  all_goals refine ⟨ret_int ?_, rfl⟩
  all_goals simp_all [slotsA]

theorem slotsA_cases (a : Int) : slotsA a = 2 ∨ slotsA a = 3 ∨ slotsA a = 4 ∨ slotsA a = 8 ∨ slotsA a = 10 ∨ slotsA a = 64 ∨ slotsA a = 100 := by
  unfold slotsA
  split; · simp
  split; · simp
  split; · simp
  split; · simp
  split; · simp
  split <;> simp

end Go.Proofs.YbulkajrsDoor
