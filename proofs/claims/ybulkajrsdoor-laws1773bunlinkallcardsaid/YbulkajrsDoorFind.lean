import Derived.Test.YbulkajrsDoorBase
import Derived.Test.YbulkajrsDoorBits
import Derived.WalkSpells
namespace Go.Proofs.YbulkajrsDoor
open Go.RowKit
set_option linter.unusedVariables false

/-! ### holds -/
set_option maxHeartbeats 400000 in
set_option maxRecDepth 100000 in
theorem holds_nil (L bh n l s : Nat) (w : World) (hl : l < n) (hn : n ≤ 64) (hs2 : s < 18446744073709551616)
    (c1 : w.cell? ⟨L, 67, none⟩ = some (.slice (some ⟨bh, 0, none⟩) n n)) (c2 : w.cell? ⟨bh, l, none⟩ = some (.slice none 0 0)) :
    Calls Ybad.prog 10 #[.pointer (some ⟨L, 0, none⟩), .int .i64 l, .int .u64 s] w fun e w' => e = .returned (.bool false) ∧ w' = w := by
  have hne := fun (w : World) (a : Option Addr) (n c : Nat) => run_neq_slice_nil_any (P := Ybad.prog) w 34 22 a n c 0 0 Ybad.underlying34
  go_enter Ybad.func10, Ybad.ntmps10
  go_wp2
  go_ret
  exact ⟨rfl, rfl⟩

set_option maxHeartbeats 400000 in
set_option maxRecDepth 100000 in
theorem holds_any (L bh hb n nw l s x : Nat) (w : World) (hl : l < n) (hn : n ≤ 64) (hs : s / 64 < nw) (hnw : nw ≤ 2) (hs2 : s < 18446744073709551616) (hx : x < 18446744073709551616)
    (c1 : w.cell? ⟨L, 67, none⟩ = some (.slice (some ⟨bh, 0, none⟩) n n)) (c2 : w.cell? ⟨bh, l, none⟩ = some (.slice (some ⟨hb, 0, none⟩) nw nw))
    (c3 : w.cell? ⟨hb, s / 64, none⟩ = some (.int .u64 x)) :
    Calls Ybad.prog 10 #[.pointer (some ⟨L, 0, none⟩), .int .i64 l, .int .u64 s] w fun e w' => e = .returned (.bool (x.testBit (s % 64))) ∧ w' = w := by
  have hne := fun (w : World) (a : Option Addr) (n c : Nat) => run_neq_slice_nil_any (P := Ybad.prog) w 34 22 a n c 0 0 Ybad.underlying34
  go_enter Ybad.func10, Ybad.ntmps10
  go_wp2
  go_ret
  refine ⟨congrArg (fun b => Ending.returned (Value.bool b)) ?_, rfl⟩
  exact bit_nonzero x (s % 64) hx (by omega)

/-! ### heldAfter -/
/-- What heldAfter answers: no slot behind s is held; or the first that is. -/
def AfterPost (nw : Nat) (H : Nat → Nat) (s : Nat) (w : World) (e : Ending) (w' : World) : Prop :=
  w' = w ∧ ((e = .returned (.tuple #[.int .u64 0, .bool false]) ∧ ∀ t, s < t → t < 64 * nw → heldBit H t = false) ∨
    ∃ t : Nat, e = .returned (.tuple #[.int .u64 t, .bool true]) ∧ s < t ∧ t < 64 * nw ∧ heldBit H t = true ∧ ∀ t', s < t' → t' < t → heldBit H t' = false)

set_option maxHeartbeats 1000000 in
set_option maxRecDepth 100000 in
theorem after_any (L bh hb n nw l s : Nat) (H : Nat → Nat) (w : World) (hl : l < n) (hn : n ≤ 64) (hs : s < 64 * nw) (hnw : nw ≤ 2) (hH : ∀ q, H q < 18446744073709551616) (hT : TabAt w)
    (c1 : w.cell? ⟨L, 67, none⟩ = some (.slice (some ⟨bh, 0, none⟩) n n)) (c2 : w.cell? ⟨bh, l, none⟩ = some (.slice (some ⟨hb, 0, none⟩) nw nw))
    (c3 : ∀ q, q < nw → w.cell? ⟨hb, q, none⟩ = some (.int .u64 (H q))) :
    Calls Ybad.prog 21 #[.pointer (some ⟨L, 0, none⟩), .int .i64 l, .int .u64 s] w (AfterPost nw H s w) := by
  have hTT : Hid (TabAt w) := hT
  have h3 : Hid (∀ q, q < nw → w.cell? ⟨hb, q, none⟩ = some (.int .u64 (H q))) := c3
  have hHH : Hid (∀ q, H q < 18446744073709551616) := hH
  clear hT c3 hH
  by_cases hend : (s + 1) / 64 = nw
  · have t1 : (((s : Int) + 1) / 64 == (nw : Int)) = true := beq_iff_eq.2 (by omega)
    have fin : Hid (∀ t, s < t → t < 64 * nw → heldBit H t = false) := fun t h1 h2 => by omega
    go_enter Ybad.func21, Ybad.ntmps21
    go_wp2
    go_ret2
    exact ⟨rfl, .inl ⟨rfl, fin.out⟩⟩
  · have t1 : (((s : Int) + 1) / 64 == (nw : Int)) = false := beq_eq_false_iff_ne.2 (by omega)
    have hlt : (s + 1) / 64 < nw := by omega
    have c4 := h3.out _ hlt
    have hr : (s + 1) % 64 < 64 := Nat.mod_lt _ (by omega)
    obtain ⟨X, hX⟩ : ∃ X, X = clearAll (H ((s + 1) / 64)) (2 ^ ((s + 1) % 64) - 1) := ⟨_, rfl⟩
    have hXlt : X < 18446744073709551616 := by rw [hX]; exact clearAll_lt _ _ (hHH.out _)
    have hXb : Hid (∀ r, r < 64 → X.testBit r = ((H ((s + 1) / 64)).testBit r && decide (s < 64 * ((s + 1) / 64) + r))) := fun r hr' => by
      rw [hX, testBit_lowClear _ _ _ (hHH.out _) hr]
      congr 1
      rw [Bool.eq_iff_iff]
      simp only [decide_eq_true_eq]
      omega
    have w3 : bits .andNot .u64 (H ((s + 1) / 64) : Int) (IntKind.u64.wrap (IntKind.u64.wrap (2 ^ ((s + 1) % 64)) - 1)) = X := by
      have e : IntKind.u64.wrap (IntKind.u64.wrap (2 ^ ((s + 1) % 64)) - 1) = ((2 ^ ((s + 1) % 64) : Nat) : Int) - 1 := by
        have h1 := two_lt _ hr
        have h2 := Nat.two_pow_pos ((s + 1) % 64)
        rw [two_wrap _ hr]
        generalize 2 ^ ((s + 1) % 64) = p at *
        rw [IntKind.wrap_u64]; omega
      rw [e, hX]
      exact low_clear _ _ (hHH.out _) hr
    clear hend hX
    go_enter Ybad.func21, Ybad.ntmps21
    go_wp2
    go_loop [9, 10] (fun v9 v10 => ∃ i x : Nat, i < nw ∧ (s + 1) / 64 ≤ i ∧ v9 = .int .u64 i ∧ v10 = .int .u64 x ∧ x < 18446744073709551616 ∧ Hid (∀ r, r < 64 → x.testBit r = ((H i).testBit r && decide (s < 64 * i + r))) ∧
        Hid (∀ t, s < t → t < 64 * i → heldBit H t = false)) (fun v9 _ => nw - (intOf v9).toNat)
    case atStart => exact ⟨(s + 1) / 64, X, hlt, Nat.le_refl _, by go_num, rfl, hXlt, hXb, fun t h1 h2 => by omega⟩
    case round =>
      obtain ⟨i, x, hi, hle, rfl, rfl, hx, hxb, hno⟩ := hrel
      clear w3 hXlt hXb c4 t1
      by_cases hx0 : x = 0
      · have t0 : ((x : Int) == 0) = true := beq_iff_eq.2 (by omega)
        have hno2 : Hid (∀ t, s < t → t < 64 * (i + 1) → heldBit H t = false) := fun t h1 h2 => by
          by_cases h : t < 64 * i
          · exact hno.out t h1 h
          · have e1 : t / 64 = i := by omega
            have := hxb.out (t % 64) (Nat.mod_lt _ (by omega))
            rw [hx0, Nat.zero_testBit] at this
            unfold heldBit
            rw [e1]
            have e2 : decide (s < 64 * i + t % 64) = true := by simp; omega
            rw [e2, Bool.and_true] at this
            exact this.symm
        clear hx0
        by_cases hl2 : i + 1 = nw
        · have t2 : ((i : Int) + 1 == (nw : Int)) = true := beq_iff_eq.2 (by omega)
          have hno3 : Hid (∀ t, s < t → t < 64 * nw → heldBit H t = false) := by rw [← hl2]; exact hno2
          clear hl2
          go_wp2
          go_ret2
          exact ⟨rfl, .inl ⟨rfl, hno3.out⟩⟩
        · have t2 : ((i : Int) + 1 == (nw : Int)) = false := beq_eq_false_iff_ne.2 (by omega)
          have hi2 : i + 1 < nw := by omega
          have c5 := h3.out _ hi2
          clear hl2
          go_wp2
          go_round
          case rel => exact ⟨i + 1, H (i + 1), hi2, by omega, by go_num, rfl, hHH.out _, fun r _ => by rw [show decide (s < 64 * (i + 1) + r) = true by simp; omega, Bool.and_true], hno2.out⟩
          case measure => simp [intOf]; omega
      · have t0 : ((x : Int) == 0) = false := beq_eq_false_iff_ne.2 (by omega)
        obtain ⟨k1, k2, k3⟩ := ctz_spec x hx hx0
        have C := tz64_any x hx hx0 w hTT.out
        generalize Lib.ctz 64 x = k at k1 k2 k3 C
        have fin : Hid (s < i * 64 + k ∧ i * 64 + k < 64 * nw ∧ heldBit H (i * 64 + k) = true ∧ ∀ t', s < t' → t' < i * 64 + k → heldBit H t' = false) := by
          have e1 : (i * 64 + k) / 64 = i := by omega
          have e2 : (i * 64 + k) % 64 = k := by omega
          have e3 := hxb.out k k1
          rw [k2] at e3
          have e4 : (H i).testBit k = true ∧ s < 64 * i + k := by simpa using e3.symm
          refine ⟨by omega, by omega, by unfold heldBit; rw [e1, e2]; exact e4.1, fun t' h1 h2 => ?_⟩
          by_cases h : t' < 64 * i
          · exact hno.out t' h1 h
          · have e5 : t' / 64 = i := by omega
            have e6 := hxb.out (t' % 64) (Nat.mod_lt _ (by omega))
            rw [k3 (t' % 64) (by omega)] at e6
            unfold heldBit
            rw [e5]
            have e7 : decide (s < 64 * i + t' % 64) = true := by simp; omega
            rw [e7, Bool.and_true] at e6
            exact e6.symm
        have CC : Hid (Calls Ybad.prog 18 #[.int .u64 x] w fun e w' => e = .returned (.int .i64 k) ∧ w' = w) := C
        clear hx0 k2 k3 C
        go_wp2_with ((go_at_call 18; refine CC.out.mono ?_; rintro e w' ⟨rfl, rfl⟩))
        go_ret2
        exact ⟨rfl, .inr ⟨i * 64 + k, congrArg (fun z : Int => Ending.returned (.tuple #[.int .u64 z, .bool true])) (by omega), fin.out⟩⟩

end Go.Proofs.YbulkajrsDoor
