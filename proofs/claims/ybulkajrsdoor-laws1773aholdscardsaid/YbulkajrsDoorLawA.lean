import Derived.Test.YbulkajrsDoorBuild
import Derived.Test.YbulkajrsDoorFirst
import Derived.Test.YbulkajrsDoorModel
namespace Go.Proofs.YbulkajrsDoor
open Go.RowKit
set_option linter.unusedVariables false

/-! ### The plain law -/
theorem busy_zero {n nw busy : Nat} {HB : Nat → Option Nat} {H : Nat → Nat → Nat} {ML MS : Nat → Nat} (M : Marks n nw busy 0 HB H ML MS) : busy = 0 :=
  zero_of_bits busy M.blt fun r hr => by
    cases h : busy.testBit r with
    | false => rfl
    | true => obtain ⟨j, hj, _⟩ := (M.busy_iff r hr).1 h; omega
/-- The lowest level that holds a mark. -/
theorem busy_low {n nw busy k : Nat} {HB : Nat → Option Nat} {H : Nat → Nat → Nat} {ML MS : Nat → Nat} (M : Marks n nw busy k HB H ML MS) (hk : 1 ≤ k) (hn : n ≤ 64) (hML : ∀ j, ML j < n) :
    busy ≠ 0 ∧ (∃ j, j < k ∧ ML j = Lib.ctz 64 busy) ∧ (∀ j, j < k → Lib.ctz 64 busy ≤ ML j) ∧ Lib.ctz 64 busy < n := by
  have h0 : busy ≠ 0 := by
    intro h
    have := (M.busy_iff (ML 0) (by have := hML 0; omega)).2 ⟨0, by omega, rfl⟩
    rw [h, Nat.zero_testBit] at this; cases this
  obtain ⟨c1, c2, c3⟩ := ctz_spec busy M.blt h0
  have hx := (M.busy_iff _ c1).1 c2
  refine ⟨h0, hx, fun j hj => ?_, ?_⟩
  · apply Nat.le_of_not_lt; intro hlt
    have := c3 _ hlt
    have h2 := (M.busy_iff (ML j) (by have := hML j; omega)).2 ⟨j, hj, rfl⟩
    rw [h2] at this; cases this
  · obtain ⟨j, hj, e⟩ := hx
    rw [← e]; exact hML j
theorem tick_model (Q N S b : Nat) : IntKind.u64.wrap (IntKind.u64.wrap (IntKind.u64.wrap ((Q : Int) / N * N) + b) * S) = ((tickOf Q N S b : Nat) : Int) := by
  rw [← Int.natCast_ediv, ← Int.natCast_mul, IntKind.wrap_u64, IntKind.wrap_u64, IntKind.wrap_u64, Int.emod_add_emod, emod_mul']
  unfold tickOf
  rw [← Int.natCast_add, ← Int.natCast_mul, Int.natCast_emod]
  rfl

theorem tick_model2 (Q N S b : Nat) : IntKind.u64.wrap (IntKind.u64.wrap (IntKind.u64.wrap (IntKind.u64.wrap ((Q : Int) / N) * N) + b) * S) = ((tickOf Q N S b : Nat) : Int) := by
  rw [← tick_model]
  congr 3
  rw [IntKind.wrap_u64, IntKind.wrap_u64, IntKind.wrap_u64, emod_mul']

set_option maxHeartbeats 2000000 in
set_option maxRecDepth 100000 in
theorem lawFirst_in (a0 : Int) (N last now len1 cap1 len2 cap2 k : Nat) (a1 a2 : Option Addr) (LS SS : Nat → Nat) (w : World) (h0 : 0 ≤ a0) (h1 : a0 ≤ 255) (hN : slotsA a0 = N) (hg : GoodN N)
    (hlast : last < 18446744073709551616) (hnow : now < 18446744073709551616) (hl1 : len1 ≤ 1024) (hl2 : len2 ≤ 1024) (hk : k ≤ 1024) (hTab : TabAt w) (hz : 0 < w.heap.size)
    (hc1 : 0 < k → ∃ b off, a1 = some ⟨b, off, none⟩ ∧ b < w.heap.size ∧ ∀ j, j < k → w.cell? ⟨b, off + j, none⟩ = some (.int .u8 (LS j)))
    (hc2 : 0 < k → ∃ b off, a2 = some ⟨b, off, none⟩ ∧ b < w.heap.size ∧ ∀ j, j < k → w.cell? ⟨b, off + j, none⟩ = some (.int .u16 (SS j)))
    (hLS : ∀ j, LS j ≤ 255) (hSS : ∀ j, SS j ≤ 65535)
    (hway : (len2 < len1 ∧ k = len2) ∨ (¬ len2 < len1 ∧ k = len1)) :
    Calls Ybad.prog 3 #[.int .u8 a0, .int .u64 last, .int .u64 now, .slice a1 len1 cap1, .slice a2 len2 cap2] w fun e w' => e = .returned (.bool true) ∧ Below w.heap.size w w' := by
  obtain ⟨hN2, hN100⟩ := hg.bounds
  obtain ⟨hso, hs6⟩ := hg.sh
  have CB : Hid (Calls Ybad.prog 7 #[.int .u8 a0, .int .u64 last, .int .u64 now, .slice a1 len1 cap1, .slice a2 len2 cap2] w (BuildPost N now k LS SS w)) :=
    build_any a0 N last now len1 cap1 len2 cap2 k a1 a2 LS SS w h0 h1 hN hg hlast hnow hl1 hl2 hk hTab hz hc1 hc2 hLS hSS hway
  have d1 : decide ((1024 : Int) < (len1 : Int)) = false := by simp; omega
  have d2 : decide ((1024 : Int) < (len2 : Int)) = false := by simp; omega
  have HTab : Hid (TabAt w) := hTab
  clear hc1 hc2 hLS hSS hway hTab hg
  go_enter Ybad.func3, Ybad.ntmps3
  go_wp2_with fail
  refine CB.out.mono ?_
  rintro e w1 ⟨n, bh, Bm, Bs, nw, s, HB, H, rfl, s1, s2, s3, s4, s5, hn1, hn64, hnw, hrow, hwords, mrow, srow, hM, hb1⟩
  have S : Hid (s.slots = N ∧ s.shift = shOf N ∧ s.now = now ∧ s.n = n ∧ s.bh = bh ∧ nw = (N + 63) / 64) := ⟨s1, s2, s3, s4, s5, hnw⟩
  have R : Hid (w1.rowIs bh 34 n (fun l => heldV nw (HB l)) ∧ (∀ l b, l < n → HB l = some b → w1.rowIs b 22 nw (fun q => .int .u64 (H l q))) ∧
      w1.rowIs Bm 3 k (fun j => .int .i64 ((LS j % n : Nat) : Int)) ∧ w1.rowIs Bs 22 k (fun j => .int .u64 ((SS j % N : Nat) : Int)) ∧
      Marks n nw s.busy k HB H (fun j => LS j % n) (fun j => SS j % N) ∧ Below w.heap.size w w1) := ⟨hrow, hwords, mrow, srow, hM, hb1⟩
  clear s1 s2 s3 s4 s5 hnw hrow hwords mrow srow hM hb1 CB
  go_wp2_with ((refine wpList_newvar33 rfl rfl 11 rfl rfl (.tmp 40) rfl rfl s rfl rfl ?_; intro L W2 hL hLv hsz hb2))
  obtain ⟨s1, s2, s3, s4, s5, hnw⟩ := S.out
  obtain ⟨hrow, hwords, mrow, srow, hM, hb1⟩ := R.out
  have lt1 := hrow.lt
  have hrow2 := hrow.of_block (hb2.block _ (by omega))
  have bel : Hid (Below w.heap.size w W2) := hb1.trans (hb2.mono (by have := hb1.size; omega))
  have c69 := hLv.busy
  by_cases hk0 : k = 0
  · have t0 : ((k : Int) == 0) = true := beq_iff_eq.2 (by omega)
    rw [hk0] at hM
    rw [busy_zero hM] at c69
    clear hrow hwords mrow srow hM hb1 hrow2 lt1 hb2 hLv s1 s2 s3 s4 s5 hnw S R hL hk0
    refine (first_idle L N now nw H W2 c69).mono ?_
    rintro e w' ⟨⟨m, rfl⟩, h⟩
    rcases h with ⟨_, rfl⟩ | ⟨h, _⟩
    · go_wp2
      go_ret
      exact ⟨rfl, below_drewN bel.out _⟩
    · exact absurd rfl h
  · have t0 : ((k : Int) == 0) = false := beq_eq_false_iff_ne.2 (by omega)
    obtain ⟨hbz, hex, hmin, hlt⟩ := busy_low hM (by omega) hn64 (fun j => Nat.mod_lt _ (by omega))
    obtain ⟨l, hl⟩ : ∃ l, Lib.ctz 64 s.busy = l := ⟨_, rfl⟩
    have hlt' : l < n := by rw [← hl]; exact hlt
    have hHB : HB l ≠ none := by
      intro h
      obtain ⟨j, hj, e⟩ := hex
      rw [hl] at e
      exact (hM.none_iff l hlt').1 h j hj e
    obtain ⟨hb, hHBl⟩ : ∃ b, HB l = some b := Option.ne_none_iff_exists'.1 hHB
    have hw := hwords l hb hlt' hHBl
    have hw2 := hw.of_block (hb2.block _ (by have := hw.lt; omega))
    have mrow2 := mrow.of_block (hb2.block _ (by have := mrow.lt; omega))
    have srow2 := srow.of_block (hb2.block _ (by have := srow.lt; omega))
    have hTab2 := HTab.out.below bel.out hz
    have CF : Hid (Calls Ybad.prog 8 #[.pointer (some ⟨L, 0, none⟩)] W2 (FirstPost N s.busy now nw H W2)) := by
      refine first_any L bh n N (shOf N) s.busy now nw l hb H W2 hN2 hN100 hs6 hso hnow hbz hM.blt hl hlt' hn64 (by omega) (by omega) (fun q => hM.lt l q) hTab2 ?_ ?_ ?_ c69 ?_ ?_ ?_
      · rw [← s1]; exact hLv.slots
      · rw [← s2]; exact hLv.shift
      · rw [← s5, ← s4]; exact hLv.held
      · rw [← s3]; exact hLv.now
      · rw [hrow2.cell hlt', hHBl]; rfl
      · exact fun q hq => hw2.cell hq
    have c0 : W2.cell? ⟨L, 0, none⟩ = some (.int .u64 N) := by rw [← s1]; exact hLv.slots
    have CM : Hid (∀ m, Calls Ybad.prog 9 #[.int .u64 N, .int .u64 now, .slice (some ⟨Bm, 0, none⟩) k k, .slice (some ⟨Bs, 0, none⟩) k k] (W2.drewN m) (ModelPost N now k (fun j => LS j % n) (fun j => SS j % N) (W2.drewN m))) := fun m =>
      model_any N now k Bm Bs _ _ (W2.drewN m) hN2 hN100 hnow (by omega) hk (fun i => by have := Nat.mod_lt (LS i) (show 0 < n by omega); show LS i % n ≤ 63; omega) (fun i => by have := Nat.mod_lt (SS i) (show 0 < N by omega); show SS i % N ≤ 100; omega)
        (fun i hi => by rw [World.cell?_drewN]; exact mrow2.cell hi) (fun i hi => by rw [World.cell?_drewN]; exact srow2.cell hi)
    -- the two agree
    have AG : Hid (∀ m, (∃ i, i < k ∧ LS i % n = m) → (∀ i, i < k → m ≤ LS i % n) → m = l) := by
      intro m ⟨i, hi, e⟩ h
      have q1 := hmin i hi
      obtain ⟨j, hj, e2⟩ := hex
      have q2 := h j hj
      rw [hl] at q1 e2
      omega
    have BT : Hid (∀ t, t < 64 * nw → (heldBit (H l) t = true ↔ ∃ j, j < k ∧ LS j % n = l ∧ SS j % N = t)) := fun t ht => hM.bit l t hlt' ht
    have NW : Hid (N ≤ 64 * nw) := by show N ≤ 64 * nw; omega
    have hln : l < 64 := by omega
    have HL : Hid (Lib.ctz 64 s.busy = l) := hl
    have HBZ : Hid (s.busy ≠ 0) := hbz
    clear hrow hwords mrow srow hM hb1 hrow2 lt1 hb2 hLv s1 s2 s3 s4 s5 hnw S R hL hbz hex hmin hlt hHB hHBl hw hw2 mrow2 srow2 hTab2 hl c69
    refine CF.out.mono ?_
    rintro e w' ⟨⟨m, rfl⟩, h⟩
    rcases h with ⟨h, _⟩ | ⟨_, l', hl', h⟩
    · exact absurd h HBZ.out
    rw [HL.out] at hl'
    subst hl'
    rcases h with ⟨tick, rfl, hno⟩ | ⟨t, rfl, h1, h2, h3, h4⟩
    · have HNO : Hid (∀ t, now / N ^ l' % N < t → t < 64 * nw → heldBit (H l') t = false) := hno
      clear hno
      go_wp2_with fail
      refine (CM.out _).mono ?_
      rintro e w'' ⟨rfl, m', hex', hmin', h'⟩
      obtain rfl := AG.out m' hex' hmin'
      have t1 : ((m' : Int) != (m' : Int)) = false := by simp
      rcases h' with ⟨rfl, g⟩ | ⟨b, rfl, ⟨j, hj, e1, e2⟩, g2, g3⟩
      · go_wp2
        go_ret
        exact ⟨rfl, below_drewN bel.out _⟩
      · exfalso
        have hb64 : b < 64 * nw := by have := Nat.mod_lt (SS j) (show 0 < N by omega); have := NW.out; rw [← e2]; show SS j % N < 64 * nw; omega
        have := (BT.out b hb64).2 ⟨j, hj, e1, e2⟩
        rw [HNO.out b g2 hb64] at this
        cases this
    · have HT : Hid (now / N ^ l' % N < t ∧ t < 64 * nw ∧ heldBit (H l') t = true ∧ ∀ t', now / N ^ l' % N < t' → t' < t → heldBit (H l') t' = false) := ⟨h1, h2, h3, h4⟩
      clear h1 h2 h3 h4
      go_wp2_with fail
      refine (CM.out _).mono ?_
      rintro e w'' ⟨rfl, m', hex', hmin', h'⟩
      obtain rfl := AG.out m' hex' hmin'
      have t1 : ((m' : Int) != (m' : Int)) = false := by simp
      rcases h' with ⟨rfl, g⟩ | ⟨b, rfl, ⟨j, hj, e1, e2⟩, g2, g3⟩
      · exfalso
        obtain ⟨h1, h2, h3, h4⟩ := HT.out
        obtain ⟨j, hj, e1, e2⟩ := (BT.out t h2).1 h3
        have := g j hj e1
        dsimp only at this
        omega
      · have htb : t = b := by
          obtain ⟨h1, h2, h3, h4⟩ := HT.out
          obtain ⟨j', hj', e1', e2'⟩ := (BT.out t h2).1 h3
          have q1 := g3 j' hj' e1' (by dsimp only; omega)
          dsimp only at q1
          apply Nat.le_antisymm
          · apply Nat.le_of_not_lt; intro hlt
            have hb64 : b < 64 * nw := by omega
            have := (BT.out b hb64).2 ⟨j, hj, e1, e2⟩
            rw [h4 b g2 hlt] at this
            cases this
          · omega
        subst htb
        have t2 : ((t : Int) == (t : Int)) = true := by simp
        generalize hQ : now / N ^ m' = Qn at *
        generalize hS : N ^ m' % 18446744073709551616 = Sn at *
        have HQ : Hid (now / N ^ m' = Qn) := hQ
        have HS : Hid (N ^ m' % 18446744073709551616 = Sn) := hS
        clear hQ hS HT g2 g3 e1 e2 hex' hmin'
        go_wp2
        go_ret
        refine ⟨ret_true ?_, below_drewN bel.out _⟩
        rw [tick_model2]
        simp
set_option maxHeartbeats 2000000 in
set_option maxRecDepth 100000 in
theorem lawHolds_in (a0 : Int) (N last now len1 cap1 len2 cap2 k : Nat) (a1 a2 : Option Addr) (LS SS : Nat → Nat) (w : World) (h0 : 0 ≤ a0) (h1 : a0 ≤ 255) (hN : slotsA a0 = N) (hg : GoodN N)
    (hlast : last < 18446744073709551616) (hnow : now < 18446744073709551616) (hl1 : len1 ≤ 1024) (hl2 : len2 ≤ 1024) (hk : k ≤ 1024) (hTab : TabAt w) (hz : 0 < w.heap.size)
    (hc1 : 0 < k → ∃ b off, a1 = some ⟨b, off, none⟩ ∧ b < w.heap.size ∧ ∀ j, j < k → w.cell? ⟨b, off + j, none⟩ = some (.int .u8 (LS j)))
    (hc2 : 0 < k → ∃ b off, a2 = some ⟨b, off, none⟩ ∧ b < w.heap.size ∧ ∀ j, j < k → w.cell? ⟨b, off + j, none⟩ = some (.int .u16 (SS j)))
    (hLS : ∀ j, LS j ≤ 255) (hSS : ∀ j, SS j ≤ 65535)
    (hway : (len2 < len1 ∧ k = len2) ∨ (¬ len2 < len1 ∧ k = len1)) :
    Calls Ybad.prog 4 #[.int .u8 a0, .int .u64 last, .int .u64 now, .slice a1 len1 cap1, .slice a2 len2 cap2] w fun e w' => e = .returned (.bool true) ∧ Below w.heap.size w w' := by
  obtain ⟨hN2, hN100⟩ := hg.bounds
  obtain ⟨hso, hs6⟩ := hg.sh
  have CB : Hid (Calls Ybad.prog 7 #[.int .u8 a0, .int .u64 last, .int .u64 now, .slice a1 len1 cap1, .slice a2 len2 cap2] w (BuildPost N now k LS SS w)) :=
    build_any a0 N last now len1 cap1 len2 cap2 k a1 a2 LS SS w h0 h1 hN hg hlast hnow hl1 hl2 hk hTab hz hc1 hc2 hLS hSS hway
  have d1 : decide ((1024 : Int) < (len1 : Int)) = false := by simp; omega
  have d2 : decide ((1024 : Int) < (len2 : Int)) = false := by simp; omega
  have HTab : Hid (TabAt w) := hTab
  clear hc1 hc2 hLS hSS hway hTab hg
  go_enter Ybad.func4, Ybad.ntmps4
  go_wp2_with fail
  refine CB.out.mono ?_
  rintro e w1 ⟨n, bh, Bm, Bs, nw, s, HB, H, rfl, s1, s2, s3, s4, s5, hn1, hn64, hnw, hrow, hwords, mrow, srow, hM, hb1⟩
  have S : Hid (s.slots = N ∧ s.shift = shOf N ∧ s.now = now ∧ s.n = n ∧ s.bh = bh ∧ nw = (N + 63) / 64) := ⟨s1, s2, s3, s4, s5, hnw⟩
  have R : Hid (w1.rowIs bh 34 n (fun l => heldV nw (HB l)) ∧ (∀ l b, l < n → HB l = some b → w1.rowIs b 22 nw (fun q => .int .u64 (H l q))) ∧
      w1.rowIs Bm 3 k (fun j => .int .i64 ((LS j % n : Nat) : Int)) ∧ w1.rowIs Bs 22 k (fun j => .int .u64 ((SS j % N : Nat) : Int)) ∧
      Marks n nw s.busy k HB H (fun j => LS j % n) (fun j => SS j % N) ∧ Below w.heap.size w w1) := ⟨hrow, hwords, mrow, srow, hM, hb1⟩
  clear s1 s2 s3 s4 s5 hnw hrow hwords mrow srow hM hb1 CB
  go_wp2_with ((refine wpList_newvar33 rfl rfl 11 rfl rfl (.tmp 38) rfl rfl s rfl rfl ?_; intro L W2 hL hLv hsz hb2; have c69 := hLv.busy))
  obtain ⟨s1, s2, s3, s4, s5, hnw⟩ := S.out
  obtain ⟨hrow, hwords, mrow, srow, hM, hb1⟩ := R.out
  have lt1 := hrow.lt
  have hrow2 := hrow.of_block (hb2.block _ (by omega))
  have bel : Hid (Below w.heap.size w W2) := hb1.trans (hb2.mono (by have := hb1.size; omega))
  have c70 : W2.cell? ⟨L, 70, none⟩ = some (.int .u64 now) := by rw [← s3]; exact hLv.now
  by_cases hk0 : k = 0
  · have t0 : ((k : Int) == 0) = true := beq_iff_eq.2 (by omega)
    rw [hk0] at hM
    have c69' : W2.cell? ⟨L, 69, none⟩ = some (.int .u64 0) := by rw [c69, busy_zero hM]; rfl
    have CI : Hid (Calls Ybad.prog 8 #[.pointer (some ⟨L, 0, none⟩)] W2 (FirstPost N 0 now nw H W2)) := first_idle L N now nw H W2 c69'
    clear c69'
    clear hrow hwords mrow srow hM hb1 hrow2 lt1 hb2 hLv s1 s2 s3 s4 s5 hnw S R hL hk0
    refine CI.out.mono ?_
    rintro e w' ⟨⟨m, rfl⟩, h⟩
    rcases h with ⟨_, rfl⟩ | ⟨h, _⟩
    · go_wp2
      all_goals go_ret
      all_goals exact ⟨rfl, below_drewN bel.out _⟩
    · exact absurd rfl h
  · have t0 : ((k : Int) == 0) = false := beq_eq_false_iff_ne.2 (by omega)
    obtain ⟨hbz, hex, hmin, hlt⟩ := busy_low hM (by omega) hn64 (fun j => Nat.mod_lt _ (by omega))
    obtain ⟨l, hl⟩ : ∃ l, Lib.ctz 64 s.busy = l := ⟨_, rfl⟩
    have hlt' : l < n := by rw [← hl]; exact hlt
    have hHB : HB l ≠ none := by
      intro h
      obtain ⟨j, hj, e⟩ := hex
      rw [hl] at e
      exact (hM.none_iff l hlt').1 h j hj e
    obtain ⟨hb, hHBl⟩ : ∃ b, HB l = some b := Option.ne_none_iff_exists'.1 hHB
    have hw := hwords l hb hlt' hHBl
    have hw2 := hw.of_block (hb2.block _ (by have := hw.lt; omega))
    have mrow2 := mrow.of_block (hb2.block _ (by have := mrow.lt; omega))
    have srow2 := srow.of_block (hb2.block _ (by have := srow.lt; omega))
    have hTab2 := HTab.out.below bel.out hz
    have CF : Hid (Calls Ybad.prog 8 #[.pointer (some ⟨L, 0, none⟩)] W2 (FirstPost N s.busy now nw H W2)) := by
      refine first_any L bh n N (shOf N) s.busy now nw l hb H W2 hN2 hN100 hs6 hso hnow hbz hM.blt hl hlt' hn64 (by omega) (by omega) (fun q => hM.lt l q) hTab2 ?_ ?_ ?_ c69 ?_ ?_ ?_
      · rw [← s1]; exact hLv.slots
      · rw [← s2]; exact hLv.shift
      · rw [← s5, ← s4]; exact hLv.held
      · rw [← s3]; exact hLv.now
      · rw [hrow2.cell hlt', hHBl]; rfl
      · exact fun q hq => hw2.cell hq
    have c0 : W2.cell? ⟨L, 0, none⟩ = some (.int .u64 N) := by rw [← s1]; exact hLv.slots
    have CH : Hid (∀ m t : Nat, t < 64 * nw → Calls Ybad.prog 10 #[.pointer (some ⟨L, 0, none⟩), .int .i64 l, .int .u64 t] (W2.drewN m) fun e w' => e = .returned (.bool (heldBit (H l) t)) ∧ w' = W2.drewN m) := fun m t ht => by
      have c67 : W2.cell? ⟨L, 67, none⟩ = some (.slice (some ⟨bh, 0, none⟩) n n) := by rw [← s5, ← s4]; exact hLv.held
      exact holds_any L bh hb n nw l t (H l (t / 64)) (W2.drewN m) hlt' hn64 (by omega) (by omega) (by omega) (hM.lt l _) (by rw [World.cell?_drewN]; exact c67) (by rw [World.cell?_drewN, hrow2.cell hlt', hHBl]; rfl)
        (by rw [World.cell?_drewN]; exact hw2.cell (by omega))
    have BT : Hid (∀ t, t < 64 * nw → (heldBit (H l) t = true ↔ ∃ j, j < k ∧ LS j % n = l ∧ SS j % N = t)) := fun t ht => hM.bit l t hlt' ht
    have NW : Hid (N ≤ 64 * nw) := by show N ≤ 64 * nw; omega
    have hln : l < 64 := by omega
    have HL : Hid (Lib.ctz 64 s.busy = l) := hl
    have HBZ : Hid (s.busy ≠ 0) := hbz
    clear hrow hwords mrow srow hM hb1 hrow2 lt1 hb2 hLv s1 s2 s3 s4 s5 hnw S R hL hbz hex hmin hlt hHB hHBl hw hw2 mrow2 srow2 hTab2 hl
    refine CF.out.mono ?_
    rintro e w' ⟨⟨m, rfl⟩, h⟩
    rcases h with ⟨h, _⟩ | ⟨_, l', hl', h⟩
    · exact absurd h HBZ.out
    rw [HL.out] at hl'
    subst hl'
    rcases h with ⟨tick, rfl, hno⟩ | ⟨t, rfl, h1, h2, h3, h4⟩
    · clear hno
      have t5 : decide ((0 : Int) < (k : Int)) = true := by simp; omega
      go_wp2
      go_ret
      exact ⟨rfl, below_drewN bel.out _⟩
    · have htN : t < N := by
        obtain ⟨j, hj, e1, e2⟩ := (BT.out t h2).1 h3
        rw [← e2]; exact Nat.mod_lt _ (by omega)
      have HT : Hid (heldBit (H l') t = true ∧ ∀ t', now / N ^ l' % N < t' → t' < t → heldBit (H l') t' = false) := ⟨h3, h4⟩
      have H1 : Hid (now / N ^ l' % N < t) := h1
      clear h1 h3 h4
      go_wp2
      go_loop [19, 20] (fun q v => ∃ i Q : Nat, i ≤ l' ∧ q = .int .u64 Q ∧ v = .int .i64 i ∧ Q < 18446744073709551616 ∧ Hid (Q = now / N ^ i)) (fun _ v => l' - (intOf v).toNat)
      case atStart => exact ⟨0, now, Nat.zero_le _, rfl, rfl, hnow, by show now = now / N ^ 0; simp⟩
      case round =>
        obtain ⟨i, Q, hi, rfl, rfl, hQ, hQS⟩ := hrel
        by_cases hlt2 : i < l'
        · have hw2 : IntKind.u64.wrap ((Q : Int) / N) = ((Q / N : Nat) : Int) := by
            rw [← Int.natCast_ediv, wrap_nat, Nat.mod_eq_of_lt (Nat.lt_of_le_of_lt (Nat.div_le_self _ _) hQ)]
          have hnx : Hid (Q / N = now / N ^ (i + 1)) := by
            show Q / N = now / N ^ (i + 1)
            rw [hQS.out, Nat.div_div_eq_div_mul, Nat.pow_succ]
          go_wp2
          go_round
          case rel => exact ⟨i + 1, Q / N, by omega, by first | rfl | (rw [hw2]), by go_num, Nat.lt_of_le_of_lt (Nat.div_le_self _ _) hQ, hnx⟩
          case measure => simp [intOf]; omega
        · have hQS2 : Hid (Q = now / N ^ l') := by rw [← show i = l' by omega]; exact hQS.out
          have hd : ((Q : Int) % N) = ((Q % N : Nat) : Int) := by simp
          obtain ⟨d, hd2⟩ : ∃ d, d = Q % N := ⟨_, rfl⟩
          have hdN : d < N := by rw [hd2]; exact Nat.mod_lt _ (by omega)
          rw [← hd2] at hd
          have hdt : d < t := by have := H1.out; rw [hd2, hQS2.out]; exact this
          have HT2 : Hid (heldBit (H l') t = true ∧ ∀ t', d < t' → t' < t → heldBit (H l') t' = false) := by
            rw [hd2, hQS2.out]; exact HT.out
          clear hQS hd2
          have NW' := NW.out
          have C1 : Hid (Calls Ybad.prog 10 #[.pointer (some ⟨L, 0, none⟩), .int .i64 l', .int .u64 t] (W2.drewN m) fun e w' => e = .returned (.bool true) ∧ w' = W2.drewN m) := by
            have := CH.out m t (by omega)
            rw [HT2.out.1] at this; exact this
          have C2 : Hid (∀ t', d < t' → t' < t → Calls Ybad.prog 10 #[.pointer (some ⟨L, 0, none⟩), .int .i64 l', .int .u64 t'] (W2.drewN m) fun e w' => e = .returned (.bool false) ∧ w' = W2.drewN m) := fun t' g1 g2 => by
            have := CH.out m t' (by omega)
            rw [HT2.out.2 t' g1 g2] at this; exact this
          clear NW'
          have u1 : decide (t ≤ d) = false := by simp; omega
          have u2 : decide (N ≤ t) = false := by simp; omega
          go_wp2_with ((go_at_call 10; refine C1.out.mono ?_; rintro e w' ⟨rfl, rfl⟩))
          go_loopw [22] (fun v wr => ∃ x : Nat, d < x ∧ x ≤ t ∧ v = .int .u64 x ∧ wr = W2.drewN m) (fun v _ => t - (intOf v).toNat)
          case atStart => exact ⟨d + 1, by omega, by omega, by go_num, rfl⟩
          case round =>
            obtain ⟨x, hx1, hx2, rfl, rfl⟩ := hrel
            by_cases hlt3 : x < t
            · go_wp2_with ((go_at_call 10; refine (C2.out x hx1 hlt3).mono ?_; rintro e w' ⟨rfl, rfl⟩))
              go_roundw
              case rel => exact ⟨x + 1, by omega, by omega, by go_num, trivial⟩
              case measure => simp [intOf]; omega
            · go_wp2
              go_ret
              exact ⟨rfl, below_drewN bel.out _⟩
end Go.Proofs.YbulkajrsDoor
