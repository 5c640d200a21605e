import Derived.Test.YbulkajrsDoorFind
namespace Go.Proofs.YbulkajrsDoor
open Go.RowKit
set_option linter.unusedVariables false

/-- The tick at which slot t of the level starts: q now's digits from there up, S the level's span. -/
def tickOf (q N S t : Nat) : Nat := (q / N * N + t) * S % 18446744073709551616

theorem emod_mul' (x s m : Int) : (x % m * s) % m = (x * s) % m := by
  rw [Int.mul_emod, Int.emod_emod, ← Int.mul_emod]
theorem tick_eq (Q N S t : Nat) : IntKind.u64.wrap (IntKind.u64.wrap (IntKind.u64.wrap ((Q : Int) - (Q : Int) % N) + t) * S) = ((tickOf Q N S t : Nat) : Int) := by
  have e : (Q : Int) - (Q : Int) % N = ((Q / N * N : Nat) : Int) := by
    have := Nat.div_add_mod Q N
    rw [← Int.natCast_emod]
    rw [Nat.mul_comm] at this
    omega
  rw [e, IntKind.wrap_u64, IntKind.wrap_u64, IntKind.wrap_u64, Int.emod_add_emod, emod_mul']
  unfold tickOf
  rw [← Int.natCast_add, ← Int.natCast_mul, Int.natCast_emod]
  rfl

def FirstPost (N busy now nw : Nat) (H : Nat → Nat → Nat) (w : World) (e : Ending) (w' : World) : Prop :=
  (∃ m, w' = w.drewN m) ∧ ((busy = 0 ∧ e = .returned (.tuple #[.int .u64 0, .int .i64 0, .int .u64 0, .bool false])) ∨
    (busy ≠ 0 ∧ ∃ l, l = Lib.ctz 64 busy ∧
      ((∃ tick : Int, e = .returned (.tuple #[.int .u64 tick, .int .i64 l, .int .u64 0, .bool false]) ∧ ∀ t, now / N ^ l % N < t → t < 64 * nw → heldBit (H l) t = false) ∨
       (∃ t : Nat, e = .returned (.tuple #[.int .u64 (tickOf (now / N ^ l) N (N ^ l % 18446744073709551616) t), .int .i64 l, .int .u64 t, .bool true]) ∧
          now / N ^ l % N < t ∧ t < 64 * nw ∧ heldBit (H l) t = true ∧ ∀ t', now / N ^ l % N < t' → t' < t → heldBit (H l) t' = false))))

set_option maxHeartbeats 1000000 in
set_option maxRecDepth 100000 in
theorem first_idle (L N now nw : Nat) (H : Nat → Nat → Nat) (w : World) (c69 : w.cell? ⟨L, 69, none⟩ = some (.int .u64 0)) :
    Calls Ybad.prog 8 #[.pointer (some ⟨L, 0, none⟩)] w (FirstPost N 0 now nw H w) := by
  go_enter Ybad.func8, Ybad.ntmps8
  go_wp2
  refine bodyPost_ret (v := .tuple #[.int .u64 0, .int .i64 0, .int .u64 0, .bool false]) (by simp [results, Ybad.results8, go_sem]) rfl ?_
  exact ⟨⟨0, rfl⟩, .inl ⟨rfl, rfl⟩⟩

set_option maxHeartbeats 1000000 in
set_option maxRecDepth 100000 in
theorem first_any (L bh n N sh busy now nw l : Nat) (hb : Nat) (H : Nat → Nat → Nat) (w : World) (hN : 2 ≤ N) (hN2 : N ≤ 100) (h6 : sh ≤ 6) (hsh : ShOk N sh) (hnow : now < 18446744073709551616)
    (hbz : busy ≠ 0) (hbb : busy < 18446744073709551616) (hctz : Lib.ctz 64 busy = l) (hl : l < n) (hn : n ≤ 64) (hnw : nw ≤ 2) (hNw : N ≤ 64 * nw) (hH : ∀ q, H l q < 18446744073709551616) (hT : TabAt w)
    (c0 : w.cell? ⟨L, 0, none⟩ = some (.int .u64 N)) (c1 : w.cell? ⟨L, 1, none⟩ = some (.int .u64 sh)) (c67 : w.cell? ⟨L, 67, none⟩ = some (.slice (some ⟨bh, 0, none⟩) n n))
    (c69 : w.cell? ⟨L, 69, none⟩ = some (.int .u64 busy)) (c70 : w.cell? ⟨L, 70, none⟩ = some (.int .u64 now)) (c2 : w.cell? ⟨bh, l, none⟩ = some (.slice (some ⟨hb, 0, none⟩) nw nw))
    (c3 : ∀ q, q < nw → w.cell? ⟨hb, q, none⟩ = some (.int .u64 (H l q))) :
    Calls Ybad.prog 8 #[.pointer (some ⟨L, 0, none⟩)] w (FirstPost N busy now nw H w) := by
  have t0 : ((busy : Int) == 0) = false := beq_eq_false_iff_ne.2 (by omega)
  have CT : Hid (Calls Ybad.prog 18 #[.int .u64 busy] w fun e w' => e = .returned (.int .i64 l) ∧ w' = w) := by
    have := tz64_any busy hbb hbz w hT
    rw [hctz] at this; exact this
  have CU : Hid (∀ (q : Nat) (W : World), q < 18446744073709551616 → W.cell? ⟨L, 0, none⟩ = some (.int .u64 N) → W.cell? ⟨L, 1, none⟩ = some (.int .u64 sh) →
      Calls Ybad.prog 19 #[.pointer (some ⟨L, 0, none⟩), .int .u64 q] W fun e w' => e = .returned (.int .u64 ((q / N : Nat) : Int)) ∧ w' = W) :=
    fun q W hq a0 a1 => up_any L N sh q W hN hN2 h6 hsh hq a0 a1
  have CD : Hid (∀ q m : Nat, q < 18446744073709551616 → Calls Ybad.prog 20 #[.pointer (some ⟨L, 0, none⟩), .int .u64 q] (w.drewN m) fun e w' => e = .returned (.int .u64 ((q % N : Nat) : Int)) ∧ w' = w.drewN m) :=
    fun q m hq => digit_any L N sh q (w.drewN m) hN hN2 h6 hsh hq (by simpa using c0) (by simpa using c1)
  have CA : Hid (∀ s m : Nat, s < N → Calls Ybad.prog 21 #[.pointer (some ⟨L, 0, none⟩), .int .i64 l, .int .u64 s] (w.drewN m) (AfterPost nw (H l) s (w.drewN m))) :=
    fun s m hs => after_any L bh hb n nw l s (H l) (w.drewN m) hl hn (by omega) hnw hH hT (by simpa using c67) (by simpa using c2) (fun q hq => by simpa using c3 q hq)
  have K : Hid (busy ≠ 0 ∧ Lib.ctz 64 busy = l) := ⟨hbz, hctz⟩
  clear hbz hctz hT c2 c3 hH c67
  go_enter Ybad.func8, Ybad.ntmps8
  go_wp2_with ((go_at_call 18; refine CT.out.mono ?_; rintro e w ⟨rfl, rfl⟩))
  go_loopw [6, 7, 24] (fun q sp k wr => ∃ i m Q S : Nat, i ≤ l ∧ q = .int .u64 Q ∧ sp = .int .u64 S ∧ k = .int .i64 i ∧ wr = w.drewN m ∧ Q < 18446744073709551616 ∧ S < 18446744073709551616 ∧
      Hid (Q = now / N ^ i ∧ S = N ^ i % 18446744073709551616)) (fun _ _ k _ => l - (intOf k).toNat)
  case atStart => exact ⟨0, 0, now, 1, Nat.zero_le _, rfl, rfl, rfl, rfl, hnow, by omega, by simp, by simp⟩
  case round =>
    obtain ⟨i, m, Q, S, hi, rfl, rfl, rfl, rfl, hQ, hS, hQS⟩ := hrel
    by_cases hlt : i < l
    · have hw : IntKind.u64.wrap ((S : Int) * N) = ((S * N % 18446744073709551616 : Nat) : Int) := by rw [← Int.natCast_mul, wrap_nat]
      have hnx : Hid (Q / N = now / N ^ (i + 1) ∧ S * N % 18446744073709551616 = N ^ (i + 1) % 18446744073709551616) := by
        obtain ⟨e1, e2⟩ := hQS.out
        refine ⟨by rw [e1, Nat.div_div_eq_div_mul, Nat.pow_succ], ?_⟩
        rw [e2, Nat.pow_succ, Nat.mod_mul_mod]
      go_wp2
      go_quiet ((go_at_call 19; refine (CU.out Q _ hQ (by simp only [World.cell?_drewN]; exact c0) (by simp only [World.cell?_drewN]; exact c1)).mono ?_; rintro e w' ⟨rfl, rfl⟩; exact ⟨rfl, _, rfl⟩))
      go_wp2
      go_roundw
      case rel => exact ⟨i + 1, _, Q / N, _, by omega, rfl, rfl, by go_num, rfl, Nat.lt_of_le_of_lt (Nat.div_le_self _ _) hQ, Nat.mod_lt _ (by omega), hnx⟩
      case measure => simp [intOf]; omega
    · have hQS2 : Hid (Q = now / N ^ l ∧ S = N ^ l % 18446744073709551616) := by rw [← show i = l by omega]; exact hQS.out
      have hqd : Q % N < N := Nat.mod_lt _ (by omega)
      clear hQS
      go_wp2_with ((go_at_call 20; refine (CD.out Q _ hQ).mono ?_; rintro e w' ⟨rfl, rfl⟩))
      refine (CA.out (Q % N) _ hqd).mono ?_
      rintro e w' ⟨rfl, h⟩
      rcases h with ⟨rfl, h⟩ | ⟨t, rfl, h1, h2, h3, h4⟩
      · have h' : Hid (∀ t, Q % N < t → t < 64 * nw → heldBit (H l) t = false) := h
        clear h
        go_wp2
        refine bodyPost_ret (v := .tuple #[.int .u64 (IntKind.u64.wrap (IntKind.u64.wrap (IntKind.u64.wrap ((Q : Int) - (Q : Int) % N)) * S)), .int .i64 l, .int .u64 0, .bool false]) (by simp [results, Ybad.results8, go_sem]) rfl ?_
        have hh := h'.out
        rw [hQS2.out.1] at hh
        exact ⟨⟨_, rfl⟩, .inr ⟨K.out.1, l, K.out.2.symm, .inl ⟨_, rfl, hh⟩⟩⟩
      · have h' : Hid (Q % N < t ∧ t < 64 * nw ∧ heldBit (H l) t = true ∧ ∀ t', Q % N < t' → t' < t → heldBit (H l) t' = false) := ⟨h1, h2, h3, h4⟩
        clear h1 h3 h4
        go_wp2
        refine bodyPost_ret (v := .tuple #[.int .u64 (IntKind.u64.wrap (IntKind.u64.wrap (IntKind.u64.wrap ((Q : Int) - (Q : Int) % N) + t) * S)), .int .i64 l, .int .u64 t, .bool true]) (by simp [results, Ybad.results8, go_sem]) rfl ?_
        have hh := h'.out
        rw [tick_eq]
        rw [hQS2.out.1] at hh ⊢
        rw [hQS2.out.2]
        exact ⟨⟨_, rfl⟩, .inr ⟨K.out.1, l, K.out.2.symm, .inr ⟨t, rfl, hh⟩⟩⟩
end Go.Proofs.YbulkajrsDoor
