import Derived.Test.YbulkajrsDoorLeaf
namespace Go.Proofs.YbulkajrsDoor
open Go.RowKit
set_option linter.unusedVariables false

/-- What the law's own model answers. -/
def ModelPost (N now k : Nat) (ML MS : Nat → Nat) (w : World) (e : Ending) (w' : World) : Prop :=
  w' = w ∧ ∃ m, (∃ i, i < k ∧ ML i = m) ∧ (∀ i, i < k → m ≤ ML i) ∧
    ((e = .returned (.tuple #[.int .i64 m, .int .u64 ((now / N ^ m : Nat) : Int), .int .u64 ((N ^ m % 18446744073709551616 : Nat) : Int), .int .u64 ((now / N ^ m % N : Nat) : Int), .int .u64 0, .bool false]) ∧
        ∀ i, i < k → ML i = m → MS i ≤ now / N ^ m % N) ∨
     (∃ b : Nat, e = .returned (.tuple #[.int .i64 m, .int .u64 ((now / N ^ m : Nat) : Int), .int .u64 ((N ^ m % 18446744073709551616 : Nat) : Int), .int .u64 ((now / N ^ m % N : Nat) : Int), .int .u64 b, .bool true]) ∧
        (∃ i, i < k ∧ ML i = m ∧ MS i = b) ∧ now / N ^ m % N < b ∧ ∀ i, i < k → ML i = m → now / N ^ m % N < MS i → b ≤ MS i))

/-- What holds behind j rounds of the third loop. -/
def Best (m d j : Nat) (ML MS : Nat → Nat) (f : Bool) (b : Nat) : Prop :=
  (f = false ∧ b = 0 ∧ ∀ i, i < j → ML i = m → MS i ≤ d) ∨
  (f = true ∧ (∃ i, i < j ∧ ML i = m ∧ MS i = b) ∧ d < b ∧ ∀ i, i < j → ML i = m → d < MS i → b ≤ MS i)

theorem Best.skip {m d j : Nat} {ML MS : Nat → Nat} {f : Bool} {b : Nat} (h : Best m d j ML MS f b) (hs : ML j = m → MS j ≤ d ∨ (f = true ∧ b ≤ MS j)) : Best m d (j + 1) ML MS f b := by
  rcases h with ⟨h1, h2, h3⟩ | ⟨h1, ⟨i0, g1, g2, g3⟩, h3, h4⟩
  · refine .inl ⟨h1, h2, fun i hi he => ?_⟩
    by_cases e : i = j
    · subst e; rcases hs he with h | h
      · exact h
      · simp [h1] at h
    · exact h3 i (by omega) he
  · refine .inr ⟨h1, ⟨i0, by omega, g2, g3⟩, h3, fun i hi he hd => ?_⟩
    by_cases e : i = j
    · subst e; rcases hs he with h | h
      · omega
      · exact h.2
    · exact h4 i (by omega) he hd
theorem Best.take {m d j : Nat} {ML MS : Nat → Nat} {f : Bool} {b : Nat} (h : Best m d j ML MS f b) (he : ML j = m) (hd : d < MS j) (hb : f = false ∨ MS j < b) : Best m d (j + 1) ML MS true (MS j) := by
  refine .inr ⟨rfl, ⟨j, by omega, he, rfl⟩, hd, fun i hi he' hd' => ?_⟩
  by_cases e : i = j
  · subst e; exact Nat.le_refl _
  · rcases h with ⟨h1, h2, h3⟩ | ⟨h1, h2, h3, h4⟩
    · have := h3 i (by omega) he'; omega
    · have := h4 i (by omega) he' hd'
      rcases hb with h | h
      · simp [h] at h1
      · omega

set_option maxHeartbeats 2000000 in
set_option maxRecDepth 100000 in
theorem model_any (N now k bm bs : Nat) (ML MS : Nat → Nat) (w : World) (hN : 2 ≤ N) (hN2 : N ≤ 100) (hnow : now < 18446744073709551616) (hk : 1 ≤ k) (hk2 : k ≤ 1024)
    (hML : ∀ i, ML i ≤ 63) (hMS : ∀ i, MS i ≤ 100)
    (cm : ∀ i, i < k → w.cell? ⟨bm, i, none⟩ = some (.int .i64 (ML i))) (cs : ∀ i, i < k → w.cell? ⟨bs, i, none⟩ = some (.int .u64 (MS i))) :
    Calls Ybad.prog 9 #[.int .u64 N, .int .u64 now, .slice (some ⟨bm, 0, none⟩) k k, .slice (some ⟨bs, 0, none⟩) k k] w (ModelPost N now k ML MS w) := by
  have Hm : Hid (∀ i, i < k → w.cell? ⟨bm, i, none⟩ = some (.int .i64 (ML i))) := cm
  have Hs : Hid (∀ i, i < k → w.cell? ⟨bs, i, none⟩ = some (.int .u64 (MS i))) := cs
  have BM : Hid (∀ i, ML i ≤ 63) := hML
  have BS : Hid (∀ i, MS i ≤ 100) := hMS
  have c0 := cm 0 (by omega)
  have b0 := hML 0
  clear cm cs hML hMS
  go_enter Ybad.func9, Ybad.ntmps9
  go_wp2
  go_loop [8, 22] (fun v8 v22 => ∃ j m : Nat, j ≤ k ∧ m ≤ 63 ∧ v22 = .int .i64 j ∧ v8 = .int .i64 m ∧ Hid ((∃ i, i < k ∧ ML i = m) ∧ ∀ i, i < j → m ≤ ML i)) (fun _ v22 => k - (intOf v22).toNat)
  case atStart => exact ⟨0, ML 0, Nat.zero_le _, b0, rfl, rfl, ⟨0, by omega, rfl⟩, fun i hi => by omega⟩
  case round =>
    obtain ⟨j, m, hj, hm, rfl, rfl, hmin⟩ := hrel
    clear c0 b0
    by_cases hlt : j < k
    · have cj := Hm.out j hlt
      have bj := BM.out j
      by_cases hless : ML j < m
      · have hnx : Hid ((∃ i, i < k ∧ ML i = ML j) ∧ ∀ i, i < j + 1 → ML j ≤ ML i) := ⟨⟨j, hlt, rfl⟩, fun i hi => by
          by_cases e : i = j
          · rw [e]; exact Nat.le_refl _
          · have := hmin.out.2 i (by omega); omega⟩
        go_wp2
        go_round
        case rel => exact ⟨j + 1, ML j, by omega, bj, by go_num, rfl, hnx⟩
        case measure => simp [intOf]; omega
      · have hnx : Hid ((∃ i, i < k ∧ ML i = m) ∧ ∀ i, i < j + 1 → m ≤ ML i) := ⟨hmin.out.1, fun i hi => by
          by_cases e : i = j
          · rw [e]; omega
          · exact hmin.out.2 i (by omega)⟩
        go_wp2
        go_round
        case rel => exact ⟨j + 1, m, by omega, hm, by go_num, rfl, hnx⟩
        case measure => simp [intOf]; omega
    · have hmin2 : Hid ((∃ i, i < k ∧ ML i = m) ∧ ∀ i, i < k → m ≤ ML i) := ⟨hmin.out.1, fun i hi => hmin.out.2 i (by omega)⟩
      clear hmin
      go_wp2
      go_loop [9, 10, 15] (fun q sp v => ∃ i Q S : Nat, i ≤ m ∧ q = .int .u64 Q ∧ sp = .int .u64 S ∧ v = .int .i64 i ∧ Q < 18446744073709551616 ∧ S < 18446744073709551616 ∧
          Hid (Q = now / N ^ i ∧ S = N ^ i % 18446744073709551616)) (fun _ _ v => m - (intOf v).toNat)
      case atStart => exact ⟨0, now, 1, Nat.zero_le _, rfl, rfl, rfl, hnow, by omega, by simp, by simp⟩
      case round =>
        obtain ⟨i, Q, S, hi, rfl, rfl, rfl, hQ, hS, hQS⟩ := hrel
        by_cases hlt2 : i < m
        · have hw : IntKind.u64.wrap ((S : Int) * N) = ((S * N % 18446744073709551616 : Nat) : Int) := by rw [← Int.natCast_mul, wrap_nat]
          have hw2 : IntKind.u64.wrap ((Q : Int) / N) = ((Q / N : Nat) : Int) := by
            rw [← Int.natCast_ediv, wrap_nat, Nat.mod_eq_of_lt (Nat.lt_of_le_of_lt (Nat.div_le_self _ _) hQ)]
          have hnx : Hid (Q / N = now / N ^ (i + 1) ∧ S * N % 18446744073709551616 = N ^ (i + 1) % 18446744073709551616) := by
            obtain ⟨e1, e2⟩ := hQS.out
            refine ⟨by rw [e1, Nat.div_div_eq_div_mul, Nat.pow_succ], ?_⟩
            rw [e2, Nat.pow_succ, Nat.mod_mul_mod]
          go_wp2
          go_round
          case rel => exact ⟨i + 1, Q / N, _, by omega, by first | rfl | (rw [hw2]), by first | rfl | (rw [hw]), by go_num, Nat.lt_of_le_of_lt (Nat.div_le_self _ _) hQ, Nat.mod_lt _ (by omega), hnx⟩
          case measure => simp [intOf]; omega
        · have hQS2 : Hid (Q = now / N ^ m ∧ S = N ^ m % 18446744073709551616) := by rw [← show i = m by omega]; exact hQS.out
          have hd : ((Q : Int) % N) = ((Q % N : Nat) : Int) := by simp
          obtain ⟨d, hd2⟩ : ∃ d, d = Q % N := ⟨_, rfl⟩
          have hdN : d < N := by rw [hd2]; exact Nat.mod_lt _ (by omega)
          rw [← hd2] at hd
          have hdd : Hid (d = Q % N) := hd2
          clear hQS hd2
          go_wp2
          go_loop [12, 13, 53] (fun bv fv v => ∃ (j b : Nat) (f : Bool), j ≤ k ∧ b ≤ 100 ∧ bv = .int .u64 b ∧ fv = .bool f ∧ v = .int .i64 j ∧ Hid (Best m d j ML MS f b)) (fun _ _ v => k - (intOf v).toNat)
          case atStart => exact ⟨0, 0, false, Nat.zero_le _, by omega, rfl, rfl, rfl, .inl ⟨rfl, rfl, fun i hi => by omega⟩⟩
          case round =>
            obtain ⟨x, b, f, hx, hb, rfl, rfl, rfl, hbest⟩ := hrel
            by_cases hlt3 : x < k
            · have cj := Hm.out x hlt3
              have cj2 := Hs.out x hlt3
              have bj := BM.out x
              have bj2 := BS.out x
              by_cases e1 : ML x = m
              · have t1 : ((ML x : Int) == (m : Int)) = true := beq_iff_eq.2 (by omega)
                by_cases e2 : d < MS x
                · cases f
                  · have hnx : Hid (Best m d (x + 1) ML MS true (MS x)) := hbest.out.take e1 e2 (.inl rfl)
                    clear e1
                    go_wp2
                    go_round
                    case rel => exact ⟨x + 1, MS x, true, by omega, bj2, rfl, rfl, by go_num, hnx⟩
                    case measure => simp [intOf]; omega
                  · by_cases e3 : MS x < b
                    · have hnx : Hid (Best m d (x + 1) ML MS true (MS x)) := hbest.out.take e1 e2 (.inr e3)
                      clear e1
                      go_wp2
                      go_round
                      case rel => exact ⟨x + 1, MS x, true, by omega, bj2, rfl, rfl, by go_num, hnx⟩
                      case measure => simp [intOf]; omega
                    · have hnx : Hid (Best m d (x + 1) ML MS true b) := hbest.out.skip (fun _ => .inr ⟨rfl, by omega⟩)
                      clear e1
                      go_wp2
                      go_round
                      case rel => exact ⟨x + 1, b, true, by omega, hb, rfl, rfl, by go_num, hnx⟩
                      case measure => simp [intOf]; omega
                · have hnx : Hid (Best m d (x + 1) ML MS f b) := hbest.out.skip (fun _ => .inl (by omega))
                  clear e1
                  go_wp2
                  go_round
                  case rel => exact ⟨x + 1, b, f, by omega, hb, rfl, rfl, by go_num, hnx⟩
                  case measure => simp [intOf]; omega
              · have t1 : ((ML x : Int) == (m : Int)) = false := beq_eq_false_iff_ne.2 (by omega)
                have hnx : Hid (Best m d (x + 1) ML MS f b) := hbest.out.skip (fun h => absurd h e1)
                clear e1
                go_wp2
                go_round
                case rel => exact ⟨x + 1, b, f, by omega, hb, rfl, rfl, by go_num, hnx⟩
                case measure => simp [intOf]; omega
            · go_wp2
              refine bodyPost_ret (v := .tuple #[.int .i64 m, .int .u64 Q, .int .u64 S, .int .u64 d, .int .u64 b, .bool f]) (by simp [results, Ybad.results9, go_sem]) rfl ?_
              obtain ⟨q1, q2⟩ := hQS2.out
              have q3 := hdd.out
              have hxk : x = k := by omega
              have hB := hbest.out
              rw [hxk] at hB
              rw [q1] at q3
              rw [q3] at hB ⊢
              rw [q1, q2]
              refine ⟨rfl, m, hmin2.out.1, hmin2.out.2, ?_⟩
              rcases hB with ⟨rfl, rfl, h3⟩ | ⟨rfl, h2, h3, h4⟩
              · exact .inl ⟨rfl, h3⟩
              · exact .inr ⟨b, rfl, h2, h3, h4⟩
end Go.Proofs.YbulkajrsDoor
