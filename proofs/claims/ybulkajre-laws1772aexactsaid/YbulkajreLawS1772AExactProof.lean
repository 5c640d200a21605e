import Derived.Test.YbulkajreMade
import Derived.WalkKit
import Derived.ProofKit
import Derived.OpenShut
import Derived.ShutString
import Derived.ChangeOld
import Derived.Below
namespace Go.Proofs.Ybulkajre.lawS1772AExact
open Go.ChangeShapes Go.WideShapes Go.ChangeAt Go.RowKit
open Go.ChangeMaps (open_string shut_string)
set_option linter.unusedVariables false

theorem own : ownKnob Yba.prog.godebug = none := by kernel_rfl
theorem laidOut : laidOutB Yba.prog = true := by kernel_rfl

/-- WHAT THE WALK IS TOLD OF A SLICE OF INTEGERS THAT CAME IN: it is nil; or it leads to a row of 'cap' cells, the numbers 'zs' (the first 'len' are its elements, the rest its spare room), each fitting its kind. -/
def IsRow (k : IntKind) (w : World) (a : Option Addr) (len cap : Nat) (zs : List Int) : Prop :=
  (a = none ∧ len = 0 ∧ cap = 0 ∧ zs = []) ∨
  ∃ x, a = some x ∧ len ≤ cap ∧ cap ≤ maxLen ∧ zs.length = cap ∧ (∀ i, i < zs.length → w.cell? (x.add i) = some (.int k (zs.getD i 0))) ∧ ∀ n ∈ zs, (Lit.int k n).wf = true

/-! ### STEP 1: THE WALK -/
set_option maxHeartbeats 400000 in
theorem walk_in (b off len cap x1 sh C i p bit V wd : Nat) (a2 : Int) (f : Nat → Nat) (w : World) (hb : b < w.heap.size) (h0 : 0 < len) (hl : len ≤ 1024) (hcap : len ≤ cap)
    (hc : ∀ j, j < len → w.cell? ⟨b, off + j, none⟩ = some (.int .u64 (f j))) (hf : ∀ j, f j < 18446744073709551616) (hx1 : x1 < 18446744073709551616) (hs1 : 0 ≤ a2 ∧ a2 ≤ 255)
    (hsh : a2 % 7 = sh) (hC : (len : Int) * 64 / 2 ^ sh = C) (hC0 : 0 < C) (hi : (x1 : Int) % C = i) (hp : IntKind.u64.wrap (2 ^ sh) = p) (hbit : IntKind.u64.wrap ((i : Int) * p) = bit) (hbl : bit / 64 < len) (h6 : sh ≤ 6)
    (hbi : Hid (bit = i * 2 ^ sh)) (hbv : i * 2 ^ sh < len * 64) (hwd : Hid (wd = decW sh (bit % 64) (f (bit / 64))))
    (hv : bits BinOp.and IntKind.u64 ((f (bit / 64) : Int) / 2 ^ (bit % 64)) (lowN sh) = V)
    (hway : (((V : Int) != 0) = false ∧ Hid (f (bit / 64) = wd)) ∨ (((V : Int) != 0) = true ∧ ((V : Int) != (lowN sh : Int)) = false ∧ Hid (f (bit / 64) = wd)) ∨
      (((V : Int) != 0) = true ∧ ((V : Int) != (lowN sh : Int)) = true ∧ IntKind.u64.wrap ((f (bit / 64) : Int) - IntKind.u64.wrap (2 ^ (bit % 64))) = wd)) :
    Calls Yba.prog 3 #[.slice (some ⟨b, off, none⟩) len cap, .int .u64 x1, .int .u8 a2] w fun e w' => e = .returned (.bool true) ∧ Below w.heap.size w w' := by
  have hmk := run_make_row' (P := Yba.prog) 24 23 (.int .u64 0) 8 Yba.underlying24 Yba.info23 rfl .i64 .i64 len (by omega) (by omega)
  obtain ⟨W1, hcp, hA, hB⟩ := copied b off len cap f w hb hc
  have hA2 : Hid (Arr w.heap.size len W1 f) := hA
  have hc' : ∀ j, j < len → W1.cell? ⟨b, off + j, none⟩ = some (.int .u64 (f j)) := fun j hj => (hB.cell (p := ⟨b, off + j, none⟩) hb).trans (hc j hj)
  have hc2 : Hid (∀ j, j < len → W1.cell? ⟨b, off + j, none⟩ = some (.int .u64 (f j))) := hc'
  have hcw := hc' (bit / 64) hbl
  have hff : Hid (∀ j, f j < 18446744073709551616) := hf
  have hBB : Hid (Below w.heap.size w W1) := hB
  clear hA hc' hc hf hB
  have hd : decide ((1024 : Int) < (len : Int)) = false := by simp; omega
  have hl0 : ((len : Int) == 0) = false := beq_eq_false_iff_ne.2 (by omega)
  have end1 : ∀ W2 : World, Arr w.heap.size len W2 (fun j => if j = i * 2 ^ sh / 64 then decW sh (i * 2 ^ sh % 64) (f j) else f j) → (∀ B, B ≤ w.heap.size → Below B W1 W2) →
      (∀ k, k = bit / 64 → W2.cell? ⟨w.heap.size, k, none⟩ = some (.int .u64 wd)) ∧ (∀ k, k < len → k ≠ bit / 64 → W2.cell? ⟨w.heap.size, k, none⟩ = some (.int .u64 (f k)) ∧ W2.cell? ⟨b, off + k, none⟩ = some (.int .u64 (f k))) ∧ Below w.heap.size w W2 := by
    intro W2 hA3 hB3
    have hb2 := hBB.out.trans (hB3 w.heap.size (Nat.le_refl _))
    have hbi' := hbi.out
    rw [← hbi'] at hA3
    refine ⟨fun k hk => ?_, fun k hk hne => ⟨?_, ?_⟩, hb2⟩
    · have := (hA3 k (by omega)).1
      simp only [hk, if_true] at this
      rw [hk, this, hwd.out]
    · have := (hA3 k hk).1
      dsimp only at this
      rwa [if_neg hne] at this
    · exact ((hB3 w.heap.size (Nat.le_refl _)).cell (p := ⟨b, off + k, none⟩) hb).trans (hc2.out k hk)
  have hend : Hid (∀ W2 : World, Arr w.heap.size len W2 (fun j => if j = i * 2 ^ sh / 64 then decW sh (i * 2 ^ sh % 64) (f j) else f j) → (∀ B, B ≤ w.heap.size → Below B W1 W2) →
      (∀ k, k = bit / 64 → W2.cell? ⟨w.heap.size, k, none⟩ = some (.int .u64 wd)) ∧ (∀ k, k < len → k ≠ bit / 64 → W2.cell? ⟨w.heap.size, k, none⟩ = some (.int .u64 (f k)) ∧ W2.cell? ⟨b, off + k, none⟩ = some (.int .u64 (f k))) ∧ Below w.heap.size w W2) := end1
  clear end1
  rcases hway with ⟨v0, hfw⟩ | ⟨v0, v1, hfw⟩ | ⟨v0, v1, hsub⟩
  all_goals
    go_enter Yba.func3, Yba.ntmps3
    go_wp2_with ((go_at_call 5; refine (low_any sh h6 _).mono ?_; rintro e W1 ⟨rfl, rfl⟩))
    refine (dec_any w.heap.size len len i sh W1 f h6 hl hbv hA2.out hff.out).mono ?_
    rintro e W2 ⟨rfl, hA3, hB3⟩
    obtain ⟨g1, g2, g3⟩ := hend.out W2 hA3 hB3
    have g1' : Hid (∀ k, k = bit / 64 → W2.cell? ⟨w.heap.size, k, none⟩ = some (.int .u64 wd)) := g1
    have g2' : Hid (∀ k, k < len → k ≠ bit / 64 → W2.cell? ⟨w.heap.size, k, none⟩ = some (.int .u64 (f k)) ∧ W2.cell? ⟨b, off + k, none⟩ = some (.int .u64 (f k))) := g2
    have g3' : Hid (Below w.heap.size w W2) := g3
    clear hA3 hB3 g1 g2 g3
    go_wp2
    go_loopw [17] (fun j wr => ∃ k n : Nat, k ≤ len ∧ j = .int .i64 k ∧ wr = W2.drewN n) (fun j _ => len - (intOf j).toNat)
    case atStart => exact ⟨0, 0, Nat.zero_le _, rfl, rfl⟩
    case round =>
      obtain ⟨k, n, hk, rfl, rfl⟩ := hrel
      by_cases hlt : k < len
      · by_cases he : k = bit / 64
        · have e1 : ((k : Int) == (bit : Int) / 64) = true := beq_iff_eq.2 (by omega)
          have c1 := g1'.out k he
          try rw [← hfw.out] at c1
          clear he
          go_wp2
          go_roundw
          case rel => exact ⟨k + 1, n, by omega, by go_num, rfl⟩
          case measure => simp [intOf]; omega
        · have e1 : ((k : Int) == (bit : Int) / 64) = false := beq_eq_false_iff_ne.2 (by omega)
          obtain ⟨c1, c2⟩ := g2'.out k hlt he
          clear he
          go_wp2
          go_quiet (fail)
          go_wp2
          go_roundw
          case rel => exact ⟨k + 1, _, by omega, by go_num, rfl⟩
          case measure => simp [intOf]; omega
      · go_wp2
        go_ret
        exact ⟨rfl, below_drewN g3'.out _⟩

theorem walk (a0 : Option Addr) (len0 cap0 : Nat) (z0 : List Int) (a1 : Int) (a2 : Int) (w : World) (w0 : IsRow .u64 w a0 len0 cap0 z0) (w1 : (Lit.int .u64 a1).wf = true) (w2 : (Lit.int .u8 a2).wf = true) :
    Calls Yba.prog 3 #[.slice a0 len0 cap0, .int .u64 a1, .int .u8 a2] w fun e w' => e = .returned (.bool true) ∧ Below w.heap.size w w' := by
  have b1 := bounds_u64 w1
  have b2 := bounds_u8 w2
  rcases w0 with ⟨rfl, rfl, rfl, rfl⟩ | ⟨x, rfl, hlc, hcm, hz, hcell, hwf⟩
  · go_enter Yba.func3, Yba.ntmps3
    go_wp2
    go_ret
    exact ⟨rfl, Below.refl _ _⟩
  · by_cases hbig : 1024 < len0
    · unfold maxLen at hcm
      have hg : decide ((1024 : Int) < (len0 : Int)) = true := by simp; omega
      go_enter Yba.func3, Yba.ntmps3
      go_wp2
      go_ret
      exact ⟨rfl, Below.refl _ _⟩
    · by_cases hnone : len0 = 0
      · subst hnone
        go_enter Yba.func3, Yba.ntmps3
        go_wp2
        go_ret
        exact ⟨rfl, Below.refl _ _⟩
      · obtain ⟨b, off, rfl, hc⟩ := ints_at hcell (by omega)
        obtain ⟨x1, rfl⟩ := Int.eq_ofNat_of_zero_le b1.1
        have hb : b < w.heap.size := lt_of_cell? (hc 0 (by omega))
        have hz2 : ∀ j, 0 ≤ z0.getD j 0 ∧ z0.getD j 0 ≤ 18446744073709551615 := by
          intro j
          by_cases hj : j < z0.length
          · have := bounds_u64 (hwf (z0.getD j 0) (by rw [List.getD_eq_getElem?_getD, List.getElem?_eq_getElem hj]; exact List.getElem_mem hj))
            exact this
          · rw [List.getD_eq_getElem?_getD, List.getElem?_eq_none (by omega)]; decide
        obtain ⟨f, hf⟩ : ∃ f : Nat → Nat, ∀ j, z0.getD j 0 = (f j : Int) := ⟨fun j => (z0.getD j 0).toNat, fun j => by have := hz2 j; dsimp only; omega⟩
        have hfl : ∀ j, f j < 18446744073709551616 := fun j => by have := hz2 j; rw [hf j] at this; omega
        have hc' : ∀ j, j < len0 → w.cell? ⟨b, off + j, none⟩ = some (.int .u64 (f j)) := fun j hj => by rw [hc j (by omega), hf j]
        obtain ⟨sh, hsh⟩ : ∃ sh : Nat, a2 % 7 = (sh : Int) := ⟨(a2 % 7).toNat, by omega⟩
        have h6 : sh ≤ 6 := by omega
        obtain ⟨hC0, hbv⟩ := bit_of len0 sh x1 h6 (by omega) (by omega)
        obtain ⟨C, hC⟩ : ∃ C, C = len0 * 64 / 2 ^ sh := ⟨_, rfl⟩
        obtain ⟨i, hi⟩ : ∃ i, i = x1 % C := ⟨_, rfl⟩
        obtain ⟨bit, hbit⟩ : ∃ bit, bit = i * 2 ^ sh := ⟨_, rfl⟩
        rw [← hC] at hC0 hbv
        rw [← hi] at hbv
        have hd := dvd_off i sh h6
        have hm : bit % 64 < 64 := Nat.mod_lt _ (by omega)
        rw [← hbit] at hd
        have hfit := fits sh (bit % 64) h6 hm hd
        have hp64 : 2 ^ sh ≤ 64 := seven (P := fun sh => 2 ^ sh ≤ 64) (by decide) (by decide) (by decide) (by decide) (by decide) (by decide) (by decide) sh h6
        refine walk_in b off len0 cap0 x1 sh C i (2 ^ sh) bit (cellV sh (bit % 64) (f (bit / 64))) (decW sh (bit % 64) (f (bit / 64))) a2 f w hb (by omega) (by omega) hlc hc' hfl (by omega) b2 hsh
          (by rw [hC]; simp) hC0 (by rw [hi]; simp) (one_wrap sh (by omega)) ?_ (by omega) h6 hbit hbv rfl (bits_low sh (bit % 64) (f (bit / 64)) h6 (hfl _)) ?_
        · rw [show (i : Int) * ((2 ^ sh : Nat) : Int) = ((i * 2 ^ sh : Nat) : Int) by simp, wrap_nat, ← hbit]; omega
        · by_cases c0 : cellV sh (bit % 64) (f (bit / 64)) = 0
          · refine .inl ⟨by rw [c0]; rfl, ?_⟩
            show f (bit / 64) = decW sh (bit % 64) (f (bit / 64))
            simp [decW, c0]
          · have n0 : ((cellV sh (bit % 64) (f (bit / 64)) : Int) != 0) = true := by rw [bne_iff_ne]; omega
            by_cases c1 : cellV sh (bit % 64) (f (bit / 64)) = lowN sh
            · refine .inr (.inl ⟨n0, by rw [c1]; simp, ?_⟩)
              show f (bit / 64) = decW sh (bit % 64) (f (bit / 64))
              simp [decW, c1]
            · refine .inr (.inr ⟨n0, by rw [bne_iff_ne]; omega, ?_⟩)
              rw [sub_wrap sh (bit % 64) (f (bit / 64)) hm (hfl _) c0]
              simp [decW, c0, c1]

/-! ### THE ROW's STEP: by the template -/
set_option maxRecDepth 100000 in
theorem lifted (os : Os) (started : os.Started) (H : Type) (enc : TypeId × Value → H) :
    ReturnsInHanded {} Yba.checked os 3 .any (Rows.lawS1772AExactSpec.pre6 enc Yba.prog Yba.f3 Rows.lawS1772AExactRow.domain false) (Rows.lawS1772AExactSpec.post enc Yba.prog Yba.f3 false true false false) := by
  refine returnsInHanded_of_change (C := Yba.checked) own started (by kernel_rfl) Yba.func3
    (ChangeSpec.witness6 (enc := enc) (C := Yba.checked) false ⟨#[], #[.slice none 0 0, .int .u64 0, .int .u8 0], []⟩ 8 (by kernel_rfl) (by kernel_rfl) (by kernel_rfl) (by kernel_rfl)) ?_
  intro W base args ds gs before hval0 hW hcnd _
  have hval : ∀ (j : Nat) t v, Yba.f3.params[j]? = some t → args[j]? = some v → Value.okWide Yba.prog W .any base t v := hval0
  have hW' := hW
  obtain ⟨p, q, hA0, hV, rfl, hfz, hnd⟩ := hW
  have hA : DataW.TrodAll enc Yba.prog W 0 (fun _ => true) true Yba.f3.params.toList args.toList ds p := hA0
  rw [Yba.params3] at hA hval
  obtain ⟨v0, vs0, d0, ds0, p0, q0, hargs, rfl, rfl, h0, r0⟩ := trodAll_cons hA
  obtain ⟨v1, vs1, d1, ds1, p1, q1, rfl, rfl, rfl, h1, r1⟩ := trodAll_cons r0
  obtain ⟨v2, vs2, d2, ds2, p2, q2, rfl, rfl, rfl, h2, r2⟩ := trodAll_cons r1
  obtain ⟨rfl, rfl, rfl⟩ := trodAll_nil r2
  obtain rfl : args = #[v0, v1, v2] := by cases args; simp_all
  obtain ⟨rfl, rfl⟩ := trodVars_none hV
  obtain ⟨a0, len0, cap0, rfl⟩ := okWide_slice Yba.underlying22 (hval 0 22 v0 rfl rfl)
  have k0 := h0
  have lt0 : ∀ x ∈ p0, x.block < W.heap.size := by obtain ⟨m, hm⟩ := k0; exact DataW.trod_lt m _ _ _ hm
  obtain ⟨z0, w0⟩ : ∃ zs, IsRow .u64 W a0 len0 cap0 zs := by
    obtain ⟨fuel, hf⟩ := h0
    rcases open_ints Yba.underlying22 Yba.underlying23 (by kernel_rfl) hf with ⟨hcs, _⟩ | ⟨x, l, c, zs, hcs, _, hl, hm, hz, _, hcell, hwz⟩
    · simp [Value.cells] at hcs
      obtain ⟨rfl, rfl, rfl⟩ := hcs
      exact ⟨[], .inl ⟨rfl, rfl, rfl, rfl⟩⟩
    · simp [Value.cells] at hcs
      obtain ⟨rfl, rfl, rfl⟩ := hcs
      exact ⟨zs, .inr ⟨_, rfl, hl, hm, by simpa using hz, hcell, hwz⟩⟩
  obtain ⟨a1, rfl, rfl, rfl, w1⟩ := open_int Yba.underlying23 (hval 1 23 v1 rfl rfl) h1
  obtain ⟨a2, rfl, rfl, rfl, w2⟩ := open_int Yba.underlying5 (hval 2 5 v2 rfl rfl) h2
  clear hA0 hval0
  refine (walk a0 len0 cap0 z0 a1 a2 W w0 w1 w2).mono fun e W' ⟨he, bel⟩ => ?_
  subst he
  exact ⟨_, rfl, _, _, _, [], _, [], hW', trodAll_mk1 (shut_bool Yba.underlying4 _), (trodAll_cons_mk (Below.trod laidOut (by kernel_rfl) (of_decide_eq_true (by kernel_rfl)) k0 bel lt0) (trodAll_cons_mk (shut_int Yba.underlying23 w1) (trodAll_cons_mk (shut_int Yba.underlying5 w2) trodAll_mk0))), rfl, bel.frame _, fun h => by cases h⟩

theorem over : Rows.lawS1772AExactRow.holds Yba.pinned (OpenSpec.ofChange Rows.lawS1772AExactSpec) :=
  OpenClaim.holds_of_wide 3 Yba.f3 rfl rfl rfl rfl rfl rfl rfl ⟨rfl, rfl, rfl, rfl, rfl⟩ rfl rfl rfl rfl rfl (by kernel_rfl) Yba.func3 (by kernel_rfl)
    (of_decide_eq_true (by kernel_rfl)) (by unfold Func.isWrapper; first | (rw [if_pos (by decide +kernel)]; kernel_rfl) | (rw [if_neg (by decide +kernel)]; exact ⟨rfl, rfl⟩))
    (fun os started H enc _ => lifted os started H enc)

/-- THE STATEMENT -/
theorem proved : Rows.LawS1772AExactSaid := over
end Go.Proofs.Ybulkajre.lawS1772AExact
