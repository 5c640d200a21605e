import Derived.Test.YbulkajrsDoorLawA
import Derived.Test.YbulkajrsDoorLaid
import Derived.Test.YbulkajrsDoorTie
import Derived.Test.YbulkajrsDoorCards
import Derived.SevenTiedAt
namespace Go.Proofs.YbulkajrsDoor.lawS1773AFirst
open Go.ChangeShapes Go.WideShapes Go.ChangeAt Go.RowKit
set_option linter.unusedVariables false

/-! ### THE WALK: the Go text returns true, and writes nothing that was there -/
set_option maxRecDepth 100000 in
theorem walk (a0 a1 a2 : Int) (a3 : Option Addr) (len3 cap3 : Nat) (z3 : List Int) (a4 : Option Addr) (len4 cap4 : Nat) (z4 : List Int) (w : World)
    (w0 : (Lit.int .u8 a0).wf = true) (w1 : (Lit.int .u64 a1).wf = true) (w2 : (Lit.int .u64 a2).wf = true) (w3 : IsRow .u8 w a3 len3 cap3 z3) (w4 : IsRow .u16 w a4 len4 cap4 z4) (hT : TabAt w) (hz : 0 < w.heap.size) :
    Calls Ybad.prog 3 #[.int .u8 a0, .int .u64 a1, .int .u64 a2, .slice a3 len3 cap3, .slice a4 len4 cap4] w fun e w' => e = .returned (.bool true) ∧ Below w.heap.size w w' := by
  have b0 := bounds_u8 w0
  have b1 := bounds_u64 w1
  have b2 := bounds_u64 w2
  have m3 : len3 ≤ 9223372036854775807 := by
    rcases w3 with ⟨_, rfl, _, _⟩ | ⟨_, _, h1, h2, _⟩
    · omega
    · unfold maxLen at h2; omega
  have m4 : len4 ≤ 9223372036854775807 := by
    rcases w4 with ⟨_, rfl, _, _⟩ | ⟨_, _, h1, h2, _⟩
    · omega
    · unfold maxLen at h2; omega
  obtain ⟨LS, hLS, hc3⟩ := row_nat 255 (fun n h => bounds_u8 h) w3
  obtain ⟨SS, hSS, hc4⟩ := row_nat 65535 (fun n h => bounds_u16 h) w4
  obtain ⟨last, rfl⟩ := Int.eq_ofNat_of_zero_le b1.1
  obtain ⟨now, rfl⟩ := Int.eq_ofNat_of_zero_le b2.1
  by_cases h3 : 1024 < len3
  · have d1 : decide ((1024 : Int) < (len3 : Int)) = true := by simp; omega
    clear hc3 hc4 hLS hSS w3 w4 hT
    go_enter Ybad.func3, Ybad.ntmps3
    go_wp2
    go_ret
    exact ⟨rfl, Below.refl _ _⟩
  · by_cases h4 : 1024 < len4
    · have d1 : decide ((1024 : Int) < (len3 : Int)) = false := by simp; omega
      have d2 : decide ((1024 : Int) < (len4 : Int)) = true := by simp; omega
      clear hc3 hc4 hLS hSS w3 w4 hT
      go_enter Ybad.func3, Ybad.ntmps3
      go_wp2
      go_ret
      exact ⟨rfl, Below.refl _ _⟩
    · have hg : GoodN (slotsA a0) := slotsA_cases a0
      by_cases hlt : len4 < len3
      · exact lawFirst_in a0 (slotsA a0) last now len3 cap3 len4 cap4 len4 a3 a4 LS SS w b0.1 b0.2 rfl hg (by omega) (by omega) (by omega) (by omega) (by omega) hT hz
          (fun h => by obtain ⟨b, off, e, hb, hc⟩ := hc3 (by omega); exact ⟨b, off, e, hb, fun j hj => hc j (by omega)⟩) (fun h => hc4 (by omega)) hLS hSS (.inl ⟨hlt, rfl⟩)
      · exact lawFirst_in a0 (slotsA a0) last now len3 cap3 len4 cap4 len3 a3 a4 LS SS w b0.1 b0.2 rfl hg (by omega) (by omega) (by omega) (by omega) (by omega) hT hz
          (fun h => hc3 (by omega)) (fun h => by obtain ⟨b, off, e, hb, hc⟩ := hc4 (by omega); exact ⟨b, off, e, hb, fun j hj => hc j (by omega)⟩) hLS hSS (.inr ⟨hlt, rfl⟩)

/-! ### THE ROW's STEP -/
set_option maxRecDepth 100000 in
theorem lifted (os : Os) (started : os.Started) (H : Type) (enc : TypeId × Value → H) :
    ReturnsInHanded {} Ybad.checked os 3 .any (fun w args => (Rows.lawS1773AFirstSpec.pre enc Ybad.prog Ybad.f3 [] false w args ∧ laidMetH Ybad.prog Rows.lawS1773AFirstRow.laid w) ∧ sizedMet enc Ybad.prog Ybad.f3 (OpenSpec.ofChange Rows.lawS1773AFirstSpec) false w args)
      (Rows.lawS1773AFirstSpec.post enc Ybad.prog Ybad.f3 false true false false) := by
  refine returnsInHanded_of_change_and (C := Ybad.checked) (X := fun w _ => laidMetH Ybad.prog Rows.lawS1773AFirstRow.laid w) (fun _ _ _ hh h => h.of_heap hh) own started (by kernel_rfl) Ybad.func3
    (ChangeSpec.witness_shaped (enc := enc) (C := Ybad.checked) (os := os) (X := fun w _ => laidMetH Ybad.prog Rows.lawS1773AFirstRow.laid w) false (World.doorLaid Ybad.prog 19 os) #[.int .u8 0, .int .u64 0, .int .u64 0, .slice none 0 0, .slice none 0 0] 8 rfl (World.shaped_of_RefB (by kernel_rfl) (by kernel_rfl)) (by kernel_rfl) (by kernel_rfl) (by kernel_rfl) (door_met os _)) ?_
  intro W base args ds gs before hval0 hW _ _ hL _
  have hval : ∀ (j : Nat) t v, Ybad.f3.params[j]? = some t → args[j]? = some v → Value.okWide Ybad.prog W .any base t v := hval0
  have hW' := hW
  obtain ⟨p, q, hA0, hV, rfl, hfz, hnd⟩ := hW
  have hA : DataW.TrodAll enc Ybad.prog W 0 (fun _ => true) true Ybad.f3.params.toList args.toList ds p := hA0
  rw [Ybad.params3] at hA hval
  obtain ⟨v0, vs0, d0, ds0, p0, q0, hargs, rfl, rfl, h0, r0⟩ := trodAll_cons hA
  obtain ⟨v1, vs1, d1, ds1, p1, q1, rfl, rfl, rfl, h1, r1⟩ := trodAll_cons r0
  obtain ⟨v2, vs2, d2, ds2, p2, q2, rfl, rfl, rfl, h2, r2⟩ := trodAll_cons r1
  obtain ⟨v3, vs3, d3, ds3, p3, q3, rfl, rfl, rfl, h3, r3⟩ := trodAll_cons r2
  obtain ⟨v4, vs4, d4, ds4, p4, q4, rfl, rfl, rfl, h4, r4⟩ := trodAll_cons r3
  obtain ⟨rfl, rfl, rfl⟩ := trodAll_nil r4
  obtain rfl : args = #[v0, v1, v2, v3, v4] := by cases args; simp_all
  obtain ⟨rfl, rfl⟩ := trodVars_none hV
  obtain ⟨a0, rfl, rfl, rfl, w0⟩ := open_int Ybad.underlying5 (hval 0 5 v0 rfl rfl) h0
  obtain ⟨a1, rfl, rfl, rfl, w1⟩ := open_int Ybad.underlying22 (hval 1 22 v1 rfl rfl) h1
  obtain ⟨a2, rfl, rfl, rfl, w2⟩ := open_int Ybad.underlying22 (hval 2 22 v2 rfl rfl) h2
  obtain ⟨a3, len3, cap3, rfl⟩ := okWide_slice Ybad.underlying23 (hval 3 23 v3 rfl rfl)
  obtain ⟨a4, len4, cap4, rfl⟩ := okWide_slice Ybad.underlying24 (hval 4 24 v4 rfl rfl)
  have k3 := h3
  have k4 := h4
  have lt3 : ∀ x ∈ p3, x.block < W.heap.size := by obtain ⟨m, hm⟩ := k3; exact DataW.trod_lt m _ _ _ hm
  have lt4 : ∀ x ∈ p4, x.block < W.heap.size := by obtain ⟨m, hm⟩ := k4; exact DataW.trod_lt m _ _ _ hm
  obtain ⟨z3, w3⟩ := open_row Ybad.underlying23 Ybad.underlying5 (by kernel_rfl) h3
  obtain ⟨z4, w4⟩ := open_row Ybad.underlying24 Ybad.underlying61 (by kernel_rfl) h4
  obtain ⟨hT, hz⟩ := of_laid hL
  clear hA0 hval0
  refine (walk a0 a1 a2 a3 len3 cap3 z3 a4 len4 cap4 z4 W w0 w1 w2 w3 w4 hT hz).mono fun e W' ⟨he, bel⟩ => ?_
  subst he
  exact ⟨_, rfl, _, _, _, [], _, [], hW', trodAll_mk1 (shut_bool Ybad.underlying4 _), (trodAll_cons_mk (shut_int Ybad.underlying5 w0) (trodAll_cons_mk (shut_int Ybad.underlying22 w1) (trodAll_cons_mk (shut_int Ybad.underlying22 w2)
    (trodAll_cons_mk (Below.trod laidOut (by kernel_rfl) (of_decide_eq_true (by kernel_rfl)) k3 bel lt3) (trodAll_cons_mk (Below.trod laidOut (by kernel_rfl) (of_decide_eq_true (by kernel_rfl)) k4 bel lt4) trodAll_mk0))))), rfl, bel.frame _, fun h => by cases h⟩

theorem over : Rows.LawS1773AFirstSaid :=
  OpenClaim.holds_of_wide 3 Ybad.f3 rfl rfl rfl rfl rfl rfl rfl ⟨rfl, rfl, rfl, rfl, rfl⟩ rfl rfl rfl rfl rfl (by kernel_rfl) Ybad.func3 (by kernel_rfl)
    (of_decide_eq_true (by kernel_rfl)) (by unfold Func.isWrapper; first | (rw [if_pos (by decide +kernel)]; kernel_rfl) | (rw [if_neg (by decide +kernel)]; exact ⟨rfl, rfl⟩))
    (fun os started H enc _ => lifted os started H enc)

/-- THE STATEMENT: the tied card. -/
theorem proved : Rows.LawS1773AFirstCardSaid :=
  Claim7.holds_tied_plain_at .later [] [.data, .data] true (true, _) false
    over (fun _ h => by cases h) (by kernel_rfl) (fun _ h => by cases h) lawS1773AFirst_row_tie rfl ⟨rfl, rfl⟩ (by kernel_rfl) rfl
    (fun f fn hf hfn => by
      obtain rfl : f = 3 := Option.some.inj ((show Ybad.prog.funcNamed _ = some 3 by kernel_rfl).symm.trans hf) |>.symm
      obtain rfl : fn = Ybad.f3 := (Option.some.inj (Ybad.func3.symm.trans hfn)).symm
      exact ⟨by kernel_rfl, fun j t ht => by
        rw [Ybad.params3] at ht
        have hm : t ∈ [5, 22, 22, 23, 24] := by simpa using Array.mem_of_getElem? ht
        have hall : ([5, 22, 22, 23, 24].all fun u => !Ybad.prog.wantsStandIn u) = true := by kernel_rfl
        exact (show Ybad.prog.wantsStandIn t = false by simpa using List.all_eq_true.1 hall t hm)⟩)
    (by kernel_rfl)
end Go.Proofs.YbulkajrsDoor.lawS1773AFirst
