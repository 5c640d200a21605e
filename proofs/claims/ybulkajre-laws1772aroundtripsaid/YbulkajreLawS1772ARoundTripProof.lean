import Derived.Test.YbulkajreMade
import Derived.WalkKit
import Derived.ProofKit
import Derived.OpenShut
import Derived.ShutString
import Derived.ChangeOld
import Derived.Below
namespace Go.Proofs.Ybulkajre.lawS1772ARoundTrip
open Go.ChangeShapes Go.WideShapes Go.ChangeAt Go.RowKit
open Go.ChangeMaps (open_string shut_string)
set_option linter.unusedVariables false

theorem own : ownKnob Yba.prog.godebug = none := by kernel_rfl
theorem laidOut : laidOutB Yba.prog = true := by kernel_rfl

/-- WHAT THE WALK IS TOLD OF A SLICE OF INTEGERS THAT CAME IN: it is nil; or it leads to a row of 'cap' cells, the numbers 'zs' (the first 'len' are its elements, the rest its spare room), each fitting its kind. -/
def IsRow (k : IntKind) (w : World) (a : Option Addr) (len cap : Nat) (zs : List Int) : Prop :=
  (a = none ∧ len = 0 ∧ cap = 0 ∧ zs = []) ∨
  ∃ x, a = some x ∧ len ≤ cap ∧ cap ≤ maxLen ∧ zs.length = cap ∧ (∀ i, i < zs.length → w.cell? (x.add i) = some (.int k (zs.getD i 0))) ∧ ∀ n ∈ zs, (Lit.int k n).wf = true

/-! ### STEP 1: THE WALK -/
theorem mask_zero (sh : Nat) (h : sh ≤ 6) (w : World) : Calls Yba.prog 7 #[.int .u64 0, .int .u64 sh] w fun e w' => e = .returned (.int .u64 (lowN sh)) ∧ w' = w := by
  have e0 : maskN sh 0 = lowN sh := by
    unfold maskN
    rw [Nat.pow_zero, Nat.mul_one]
    exact Nat.mod_eq_of_lt (low_lt sh h)
  have := mask_any sh 0 h (by omega) w
  rw [e0] at this
  exact this

theorem inc_any (g len cap i sh : Nat) (w : World) (f : Nat → Nat) (h1 : 1 ≤ sh) (h : sh ≤ 6) (hl : len ≤ 1024) (hi : i * 2 ^ sh < len * 64) (hA : Arr g len w f) (hf : ∀ j, f j < 18446744073709551616)
    (hne : cellV sh (i * 2 ^ sh % 64) (f (i * 2 ^ sh / 64)) ≠ lowN sh) (hsum : f (i * 2 ^ sh / 64) + 2 ^ (i * 2 ^ sh % 64) < 18446744073709551616) :
    Calls Yba.prog 9 #[.slice (some ⟨g, 0, none⟩) len cap, .int .u64 i, .int .u64 sh] w fun e w' => e = .returned (.tuple #[]) ∧
      Arr g len w' (fun j => if j = i * 2 ^ sh / 64 then f j + 2 ^ (i * 2 ^ sh % 64) else f j) ∧ ∀ B, B ≤ g → Below B w w' := by
  have hd := dvd_off i sh h
  obtain ⟨bit, hb⟩ : ∃ bit, bit = i * 2 ^ sh := ⟨_, rfl⟩
  have hbit : IntKind.u64.wrap ((i : Int) * 2 ^ sh) = bit := by
    have e : (i : Int) * 2 ^ sh = ((i * 2 ^ sh : Nat) : Int) := by simp
    rw [e, wrap_nat, ← hb]; omega
  rw [← hb] at hi hd hne hsum ⊢
  have hlen : bit / 64 < len := by omega
  have hm : bit % 64 < 64 := Nat.mod_lt _ (by omega)
  have hfit := fits sh (bit % 64) h hm hd
  obtain ⟨hc, hz⟩ := hA (bit / 64) hlen
  have z2 := full_iff sh (bit % 64) (f (bit / 64)) (hf _) hfit
  have z3 : (bits .and .u64 (f (bit / 64) : Int) (maskN sh (bit % 64) : Nat) != (maskN sh (bit % 64) : Int)) = true := by
    rw [bne, z2]; simpa using hne
  refine (inc_wide g len cap i sh bit _ w (beq_eq_false_iff_ne.2 (by omega)) h hbit hlen hl hc hz z3).mono ?_
  rintro e w' ⟨rfl, rfl⟩
  have hy : IntKind.u64.wrap ((f (bit / 64) : Int) + IntKind.u64.wrap (2 ^ (bit % 64))) = ((f (bit / 64) + 2 ^ (bit % 64) : Nat) : Int) := by
    rw [one_wrap (bit % 64) hm, ← Int.natCast_add, wrap_nat, Nat.mod_eq_of_lt hsum]
  rw [hy]
  refine ⟨rfl, (hA.set hlen).congr fun j _ => ?_, fun B hB => (Below.refl _ _).setCell hB _⟩
  by_cases e : j = bit / 64
  · rw [if_pos e, if_pos e, e]
  · rw [if_neg e, if_neg e]

set_option maxHeartbeats 400000 in
theorem walk_in (b off len cap x1 sh C i V : Nat) (a2 : Int) (f : Nat → Nat) (w : World) (hb : b < w.heap.size) (h0 : 0 < len) (hl : len ≤ 1024)
    (hc : ∀ j, j < len → w.cell? ⟨b, off + j, none⟩ = some (.int .u64 (f j))) (hf : ∀ j, f j < 18446744073709551616) (_hx1 : x1 < 18446744073709551616) (hs1 : 0 ≤ a2 ∧ a2 ≤ 255)
    (hsh : a2 % 7 = sh) (hC : (len : Int) * 64 / 2 ^ sh = C) (hC0 : 0 < C) (hi : (x1 : Int) % C = i) (h6 : sh ≤ 6) (hbv : i * 2 ^ sh < len * 64)
    (hV : V = cellV sh (i * 2 ^ sh % 64) (f (i * 2 ^ sh / 64))) :
    Calls Yba.prog 4 #[.slice (some ⟨b, off, none⟩) len cap, .int .u64 x1, .int .u8 a2] w fun e w' => e = .returned (.bool true) ∧ Below w.heap.size w w' := by
  have hmk := run_make_row' (P := Yba.prog) 24 23 (.int .u64 0) 8 Yba.underlying24 Yba.info23 rfl .i64 .i64 len (by omega) (by omega)
  obtain ⟨W1, hcp, hA, hB⟩ := copied b off len cap f w hb hc
  have hd : decide ((1024 : Int) < (len : Int)) = false := by simp; omega
  have hl0 : ((len : Int) == 0) = false := beq_eq_false_iff_ne.2 (by omega)
  have C1 : Hid (∀ W, Calls Yba.prog 7 #[.int .u64 0, .int .u64 sh] W fun e w' => e = .returned (.int .u64 (lowN sh)) ∧ w' = W) := fun W => mask_zero sh h6 W
  have C2 : Hid (Calls Yba.prog 8 #[.slice (some ⟨w.heap.size, 0, none⟩) len len, .int .u64 i, .int .u64 sh, .int .u64 (lowN sh)] W1 fun e w' => e = .returned (.int .u64 V) ∧ w' = W1) := by
    rw [hV]; exact cell_any w.heap.size len len i sh W1 f h6 hl hbv hA hf
  by_cases c0 : V = 0
  · have t0 : ((V : Int) == 0) = true := beq_iff_eq.2 (by omega)
    have hBB : Hid (Below w.heap.size w W1) := hB
    clear hc hf hA hB hV c0 hbv
    go_enter Yba.func4, Yba.ntmps4
    go_wp2_with fail
    refine (C1.out _).mono ?_
    rintro e W1 ⟨rfl, rfl⟩
    go_wp2_with fail
    refine (C2.out).mono ?_
    rintro e W1 ⟨rfl, rfl⟩
    go_wp2_with fail
    go_ret
    exact ⟨rfl, hBB.out⟩
  · have t0 : ((V : Int) == 0) = false := beq_eq_false_iff_ne.2 (by omega)
    by_cases c1 : V = lowN sh
    · have t1 : ((V : Int) == (lowN sh : Int)) = true := beq_iff_eq.2 (by omega)
      have hBB : Hid (Below w.heap.size w W1) := hB
      clear hc hf hA hB hV c0 c1 hbv
      go_enter Yba.func4, Yba.ntmps4
      go_wp2_with fail
      refine (C1.out _).mono ?_
      rintro e W1 ⟨rfl, rfl⟩
      go_wp2_with fail
      refine (C2.out).mono ?_
      rintro e W1 ⟨rfl, rfl⟩
      go_wp2_with fail
      go_ret
      exact ⟨rfl, hBB.out⟩
    · have t1 : ((V : Int) == (lowN sh : Int)) = false := beq_eq_false_iff_ne.2 (by omega)
      have hVb : 1 ≤ V ∧ V < 18446744073709551616 := by
        have := cell_le sh (i * 2 ^ sh % 64) (f (i * 2 ^ sh / 64)); have := low_lt sh h6; omega
      have hs1' : 1 ≤ sh := by
        rcases Nat.eq_zero_or_pos sh with e | e
        · exfalso
          have := cell_le sh (i * 2 ^ sh % 64) (f (i * 2 ^ sh / 64))
          rw [← hV] at this
          have hl1 : lowN sh = 1 := by rw [e]; rfl
          omega
        · exact e
      have hVs : ((V - 1 : Nat) : Int) = (V : Int) - 1 := by omega
      have hN0 : cellV sh (i * 2 ^ sh % 64) (f (i * 2 ^ sh / 64)) ≠ 0 := by rw [← hV]; exact c0
      have hdec : decW sh (i * 2 ^ sh % 64) (f (i * 2 ^ sh / 64)) = f (i * 2 ^ sh / 64) - 2 ^ (i * 2 ^ sh % 64) := by
        unfold decW; rw [← hV]; simp [c0, c1]
      have hple := pow_le sh _ _ hN0
      have D1 : Hid (Calls Yba.prog 6 #[.slice (some ⟨w.heap.size, 0, none⟩) len len, .int .u64 i, .int .u64 sh] W1 fun e w' => e = .returned (.tuple #[]) ∧
          (Calls Yba.prog 8 #[.slice (some ⟨w.heap.size, 0, none⟩) len len, .int .u64 i, .int .u64 sh, .int .u64 (lowN sh)] w' fun e w'' => e = .returned (.int .u64 ((V : Int) - 1)) ∧ w'' = w') ∧
          (Calls Yba.prog 9 #[.slice (some ⟨w.heap.size, 0, none⟩) len len, .int .u64 i, .int .u64 sh] w' fun e w'' => e = .returned (.tuple #[]) ∧
            (∀ k, k < len → w''.cell? ⟨w.heap.size, k, none⟩ = some (.int .u64 (f k)) ∧ w''.cell? ⟨b, off + k, none⟩ = some (.int .u64 (f k))) ∧ Below w.heap.size w w'')) := by
        refine (dec_any w.heap.size len len i sh W1 f h6 hl hbv hA hf).mono ?_
        rintro e W2 ⟨rfl, hA2, hB2⟩
        have hf2 : ∀ j, (fun j => if j = i * 2 ^ sh / 64 then decW sh (i * 2 ^ sh % 64) (f j) else f j) j < 18446744073709551616 := by
          intro j; dsimp only; split
          · exact decW_lt _ _ _ (hf j)
          · exact hf j
        have hlow := cell_lowered sh (i * 2 ^ sh % 64) (f (i * 2 ^ sh / 64)) hN0
        refine ⟨rfl, ?_, ?_⟩
        · have := cell_any w.heap.size len len i sh W2 _ h6 hl hbv hA2 hf2
          rw [if_pos rfl, hdec, hlow, ← hV, hVs] at this
          exact this
        · refine (inc_any w.heap.size len len i sh W2 _ hs1' h6 hl hbv hA2 hf2 ?_ ?_).mono ?_
          · rw [if_pos rfl, hdec, hlow, ← hV]
            have := cell_le sh (i * 2 ^ sh % 64) (f (i * 2 ^ sh / 64))
            omega
          · rw [if_pos rfl, hdec, Nat.sub_add_cancel hple]
            exact hf _
          · rintro e W3 ⟨rfl, hA3, hB3⟩
            have hb3 := (hB.trans (hB2 w.heap.size (Nat.le_refl _))).trans (hB3 w.heap.size (Nat.le_refl _))
            refine ⟨rfl, fun k hk => ⟨?_, ?_⟩, hb3⟩
            · have := (hA3 k hk).1
              dsimp only at this
              by_cases e : k = i * 2 ^ sh / 64
              · rw [if_pos e, if_pos e, e, hdec, Nat.sub_add_cancel hple] at this
                rw [e]; exact this
              · rw [if_neg e, if_neg e] at this
                exact this
            · exact (hb3.cell (p := ⟨b, off + k, none⟩) hb).trans (hc k hk)
      clear hc hf hA hB hV c0 c1 hbv hN0 hdec hple hVs hs1'
      go_enter Yba.func4, Yba.ntmps4
      go_wp2_with fail
      refine (C1.out _).mono ?_
      rintro e W1 ⟨rfl, rfl⟩
      go_wp2_with fail
      refine (C2.out).mono ?_
      rintro e W1 ⟨rfl, rfl⟩
      go_wp2_with fail
      refine (D1.out).mono ?_
      rintro e W2 ⟨rfl, hD2, hD3⟩
      have D2 : Hid (Calls Yba.prog 8 #[.slice (some ⟨w.heap.size, 0, none⟩) len len, .int .u64 i, .int .u64 sh, .int .u64 (lowN sh)] W2 fun e w'' => e = .returned (.int .u64 ((V : Int) - 1)) ∧ w'' = W2) := hD2
      have D3 : Hid (Calls Yba.prog 9 #[.slice (some ⟨w.heap.size, 0, none⟩) len len, .int .u64 i, .int .u64 sh] W2 fun e w'' => e = .returned (.tuple #[]) ∧
            (∀ k, k < len → w''.cell? ⟨w.heap.size, k, none⟩ = some (.int .u64 (f k)) ∧ w''.cell? ⟨b, off + k, none⟩ = some (.int .u64 (f k))) ∧ Below w.heap.size w w'') := hD3
      clear hD2 hD3
      go_wp2_with fail
      refine (D2.out).mono ?_
      rintro e W2 ⟨rfl, rfl⟩
      go_wp2_with fail
      refine (D3.out).mono ?_
      rintro e W3 ⟨rfl, g2, g3⟩
      have g2' : Hid (∀ k, k < len → W3.cell? ⟨w.heap.size, k, none⟩ = some (.int .u64 (f k)) ∧ W3.cell? ⟨b, off + k, none⟩ = some (.int .u64 (f k))) := g2
      have g3' : Hid (Below w.heap.size w W3) := g3
      clear g2 g3
      go_wp2
      go_loopw [13] (fun j wr => ∃ k n : Nat, k ≤ len ∧ j = .int .i64 k ∧ wr = W3.drewN n) (fun j _ => len - (intOf j).toNat)
      case atStart => exact ⟨0, 0, Nat.zero_le _, rfl, rfl⟩
      case round =>
        obtain ⟨k, n, hk, rfl, rfl⟩ := hrel
        by_cases hlt : k < len
        · obtain ⟨c1, c2⟩ := g2'.out k hlt
          go_wp2
          go_quiet (fail)
          go_wp2
          go_roundw
          case rel => exact ⟨k + 1, _, by omega, by go_num, rfl⟩
          case measure => simp [intOf]; omega
        · go_wp2
          go_ret
          exact ⟨rfl, below_drewN g3'.out _⟩

theorem walk (a0 : Option Addr) (len0 cap0 : Nat) (z0 : List Int) (a1 : Int) (a2 : Int) (w : World) (w0 : IsRow .u64 w a0 len0 cap0 z0) (w1 : (Lit.int .u64 a1).wf = true) (w2 : (Lit.int .u8 a2).wf = true) :
    Calls Yba.prog 4 #[.slice a0 len0 cap0, .int .u64 a1, .int .u8 a2] w fun e w' => e = .returned (.bool true) ∧ Below w.heap.size w w' := by
  have b1 := bounds_u64 w1
  have b2 := bounds_u8 w2
  rcases w0 with ⟨rfl, rfl, rfl, rfl⟩ | ⟨x, rfl, hlc, hcm, hz, hcell, hwf⟩
  · go_enter Yba.func4, Yba.ntmps4
    go_wp2
    go_ret
    exact ⟨rfl, Below.refl _ _⟩
  · by_cases hbig : 1024 < len0
    · unfold maxLen at hcm
      have hg : decide ((1024 : Int) < (len0 : Int)) = true := by simp; omega
      go_enter Yba.func4, Yba.ntmps4
      go_wp2
      go_ret
      exact ⟨rfl, Below.refl _ _⟩
    · by_cases hnone : len0 = 0
      · subst hnone
        go_enter Yba.func4, Yba.ntmps4
        go_wp2
        go_ret
        exact ⟨rfl, Below.refl _ _⟩
      · obtain ⟨b, off, rfl, hc⟩ := ints_at hcell (by omega)
        obtain ⟨x1, rfl⟩ := Int.eq_ofNat_of_zero_le b1.1
        have hb : b < w.heap.size := lt_of_cell? (hc 0 (by omega))
        have hz2 : ∀ j, 0 ≤ z0.getD j 0 ∧ z0.getD j 0 ≤ 18446744073709551615 := by
          intro j
          by_cases hj : j < z0.length
          · have := bounds_u64 (hwf (z0.getD j 0) (by rw [List.getD_eq_getElem?_getD, List.getElem?_eq_getElem hj]; exact List.getElem_mem hj))
            exact this
          · rw [List.getD_eq_getElem?_getD, List.getElem?_eq_none (by omega)]; decide
        obtain ⟨f, hf⟩ : ∃ f : Nat → Nat, ∀ j, z0.getD j 0 = (f j : Int) := ⟨fun j => (z0.getD j 0).toNat, fun j => by have := hz2 j; dsimp only; omega⟩
        have hfl : ∀ j, f j < 18446744073709551616 := fun j => by have := hz2 j; rw [hf j] at this; omega
        have hc' : ∀ j, j < len0 → w.cell? ⟨b, off + j, none⟩ = some (.int .u64 (f j)) := fun j hj => by rw [hc j (by omega), hf j]
        obtain ⟨sh, hsh⟩ : ∃ sh : Nat, a2 % 7 = (sh : Int) := ⟨(a2 % 7).toNat, by omega⟩
        have h6 : sh ≤ 6 := by omega
        obtain ⟨hC0, hbv⟩ := bit_of len0 sh x1 h6 (by omega) (by omega)
        obtain ⟨C, hC⟩ : ∃ C, C = len0 * 64 / 2 ^ sh := ⟨_, rfl⟩
        obtain ⟨i, hi⟩ : ∃ i, i = x1 % C := ⟨_, rfl⟩
        rw [← hC] at hC0 hbv
        rw [← hi] at hbv
        exact walk_in b off len0 cap0 x1 sh C i _ a2 f w hb (by omega) (by omega) hc' hfl (by omega) b2 hsh (by rw [hC]; simp) hC0 (by rw [hi]; simp) h6 hbv rfl

/-! ### THE ROW's STEP: by the template -/
set_option maxRecDepth 100000 in
theorem lifted (os : Os) (started : os.Started) (H : Type) (enc : TypeId × Value → H) :
    ReturnsInHanded {} Yba.checked os 4 .any (Rows.lawS1772ARoundTripSpec.pre6 enc Yba.prog Yba.f4 Rows.lawS1772ARoundTripRow.domain false) (Rows.lawS1772ARoundTripSpec.post enc Yba.prog Yba.f4 false true false false) := by
  refine returnsInHanded_of_change (C := Yba.checked) own started (by kernel_rfl) Yba.func4
    (ChangeSpec.witness6 (enc := enc) (C := Yba.checked) false ⟨#[], #[.slice none 0 0, .int .u64 0, .int .u8 0], []⟩ 8 (by kernel_rfl) (by kernel_rfl) (by kernel_rfl) (by kernel_rfl)) ?_
  intro W base args ds gs before hval0 hW hcnd _
  have hval : ∀ (j : Nat) t v, Yba.f4.params[j]? = some t → args[j]? = some v → Value.okWide Yba.prog W .any base t v := hval0
  have hW' := hW
  obtain ⟨p, q, hA0, hV, rfl, hfz, hnd⟩ := hW
  have hA : DataW.TrodAll enc Yba.prog W 0 (fun _ => true) true Yba.f4.params.toList args.toList ds p := hA0
  rw [Yba.params4] at hA hval
  obtain ⟨v0, vs0, d0, ds0, p0, q0, hargs, rfl, rfl, h0, r0⟩ := trodAll_cons hA
  obtain ⟨v1, vs1, d1, ds1, p1, q1, rfl, rfl, rfl, h1, r1⟩ := trodAll_cons r0
  obtain ⟨v2, vs2, d2, ds2, p2, q2, rfl, rfl, rfl, h2, r2⟩ := trodAll_cons r1
  obtain ⟨rfl, rfl, rfl⟩ := trodAll_nil r2
  obtain rfl : args = #[v0, v1, v2] := by cases args; simp_all
  obtain ⟨rfl, rfl⟩ := trodVars_none hV
  obtain ⟨a0, len0, cap0, rfl⟩ := okWide_slice Yba.underlying22 (hval 0 22 v0 rfl rfl)
  have k0 := h0
  have lt0 : ∀ x ∈ p0, x.block < W.heap.size := by obtain ⟨m, hm⟩ := k0; exact DataW.trod_lt m _ _ _ hm
  obtain ⟨z0, w0⟩ : ∃ zs, IsRow .u64 W a0 len0 cap0 zs := by
    obtain ⟨fuel, hf⟩ := h0
    rcases open_ints Yba.underlying22 Yba.underlying23 (by kernel_rfl) hf with ⟨hcs, _⟩ | ⟨x, l, c, zs, hcs, _, hl, hm, hz, _, hcell, hwz⟩
    · simp [Value.cells] at hcs
      obtain ⟨rfl, rfl, rfl⟩ := hcs
      exact ⟨[], .inl ⟨rfl, rfl, rfl, rfl⟩⟩
    · simp [Value.cells] at hcs
      obtain ⟨rfl, rfl, rfl⟩ := hcs
      exact ⟨zs, .inr ⟨_, rfl, hl, hm, by simpa using hz, hcell, hwz⟩⟩
  obtain ⟨a1, rfl, rfl, rfl, w1⟩ := open_int Yba.underlying23 (hval 1 23 v1 rfl rfl) h1
  obtain ⟨a2, rfl, rfl, rfl, w2⟩ := open_int Yba.underlying5 (hval 2 5 v2 rfl rfl) h2
  clear hA0 hval0
  refine (walk a0 len0 cap0 z0 a1 a2 W w0 w1 w2).mono fun e W' ⟨he, bel⟩ => ?_
  subst he
  exact ⟨_, rfl, _, _, _, [], _, [], hW', trodAll_mk1 (shut_bool Yba.underlying4 _), (trodAll_cons_mk (Below.trod laidOut (by kernel_rfl) (of_decide_eq_true (by kernel_rfl)) k0 bel lt0) (trodAll_cons_mk (shut_int Yba.underlying23 w1) (trodAll_cons_mk (shut_int Yba.underlying5 w2) trodAll_mk0))), rfl, bel.frame _, fun h => by cases h⟩

theorem over : Rows.lawS1772ARoundTripRow.holds Yba.pinned (OpenSpec.ofChange Rows.lawS1772ARoundTripSpec) :=
  OpenClaim.holds_of_wide 4 Yba.f4 rfl rfl rfl rfl rfl rfl rfl ⟨rfl, rfl, rfl, rfl, rfl⟩ rfl rfl rfl rfl rfl (by kernel_rfl) Yba.func4 (by kernel_rfl)
    (of_decide_eq_true (by kernel_rfl)) (by unfold Func.isWrapper; first | (rw [if_pos (by decide +kernel)]; kernel_rfl) | (rw [if_neg (by decide +kernel)]; exact ⟨rfl, rfl⟩))
    (fun os started H enc _ => lifted os started H enc)

/-- THE STATEMENT -/
theorem proved : Rows.LawS1772ARoundTripSaid := over
end Go.Proofs.Ybulkajre.lawS1772ARoundTrip
