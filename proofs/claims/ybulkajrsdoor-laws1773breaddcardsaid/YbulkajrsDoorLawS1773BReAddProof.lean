import Derived.Test.YbulkajrsDoorReAdd
import Derived.Test.YbulkajrsDoorLaid
import Derived.Test.YbulkajrsDoorTie
import Derived.Test.YbulkajrsDoorCards
import Derived.SevenTiedAt
namespace Go.Proofs.YbulkajrsDoor.lawS1773BReAdd
open Go.ChangeShapes Go.WideShapes Go.ChangeAt Go.RowKit
set_option linter.unusedVariables false

/-! ### THE WALK: the Go text returns true, and writes nothing that was there -/
set_option maxRecDepth 100000 in
theorem walk (a0 : Int) (a1 : Option Addr) (len1 cap1 : Nat) (z1 : List Int) (a2 : Int) (w : World)
    (w0 : (Lit.int .u8 a0).wf = true) (w1 : IsRow .u64 w a1 len1 cap1 z1) (w2 : (Lit.int .u8 a2).wf = true) (hT : TabAt w) (hz : 0 < w.heap.size) :
    Calls Ybad.prog 6 #[.int .u8 a0, .slice a1 len1 cap1, .int .u8 a2] w fun e w' => e = .returned (.bool true) ∧ Below w.heap.size w w' := by
  have b0 := bounds_u8 w0
  have m1 : len1 ≤ 9223372036854775807 := by
    rcases w1 with ⟨_, rfl, _, _⟩ | ⟨_, _, h1, h2, _⟩
    · omega
    · unfold maxLen at h2; omega
  obtain ⟨DS, hDS, hc1⟩ := row_nat 18446744073709551615 (fun n h => by have := bounds_u64 h; exact ⟨this.1, by omega⟩) w1
  have b2 := bounds_u8 w2
  obtain ⟨sel, rfl⟩ := Int.eq_ofNat_of_zero_le b2.1
  have hg : GoodN (slotsB a0) := by have := slotsB_cases a0; unfold GoodN; omega
  have h64 : slotsB a0 ≤ 64 := by have := slotsB_cases a0; omega
  by_cases h3 : 300 < len1
  · have d1 : decide ((300 : Int) < (len1 : Int)) = true := by simp; omega
    clear hc1 hDS w1 hT hg h64 
    go_enter Ybad.func6, Ybad.ntmps6
    go_wp2
    go_ret
    exact ⟨rfl, Below.refl _ _⟩
  · by_cases h4 : len1 = 0
    · subst h4
      clear hc1 hDS w1 hT hg h64
      go_enter Ybad.func6, Ybad.ntmps6
      go_wp2
      go_ret
      exact ⟨rfl, Below.refl _ _⟩
    · exact readd_in a0 (slotsB a0) len1 cap1 sel a1 DS w b0.1 b0.2 rfl hg h64 (by omega) (by omega) (by omega) hT hz hc1 hDS

/-! ### THE ROW's STEP -/
set_option maxRecDepth 100000 in
theorem lifted (os : Os) (started : os.Started) (H : Type) (enc : TypeId × Value → H) :
    ReturnsInHanded {} Ybad.checked os 6 .any (fun w args => (Rows.lawS1773BReAddSpec.pre enc Ybad.prog Ybad.f6 [] false w args ∧ laidMetH Ybad.prog Rows.lawS1773BReAddRow.laid w) ∧ sizedMet enc Ybad.prog Ybad.f6 (OpenSpec.ofChange Rows.lawS1773BReAddSpec) false w args)
      (Rows.lawS1773BReAddSpec.post enc Ybad.prog Ybad.f6 false true false false) := by
  refine returnsInHanded_of_change_and (C := Ybad.checked) (X := fun w _ => laidMetH Ybad.prog Rows.lawS1773BReAddRow.laid w) (fun _ _ _ hh h => h.of_heap hh) own started (by kernel_rfl) Ybad.func6
    (ChangeSpec.witness_shaped (enc := enc) (C := Ybad.checked) (os := os) (X := fun w _ => laidMetH Ybad.prog Rows.lawS1773BReAddRow.laid w) false (World.doorLaid Ybad.prog 19 os) #[.int .u8 0, .slice none 0 0, .int .u8 0] 8 rfl (World.shaped_of_RefB (by kernel_rfl) (by kernel_rfl)) (by kernel_rfl) (by kernel_rfl) (by kernel_rfl) (door_met os _)) ?_
  intro W base args ds gs before hval0 hW _ _ hL _
  have hval : ∀ (j : Nat) t v, Ybad.f6.params[j]? = some t → args[j]? = some v → Value.okWide Ybad.prog W .any base t v := hval0
  have hW' := hW
  obtain ⟨p, q, hA0, hV, rfl, hfz, hnd⟩ := hW
  have hA : DataW.TrodAll enc Ybad.prog W 0 (fun _ => true) true Ybad.f6.params.toList args.toList ds p := hA0
  rw [Ybad.params6] at hA hval
  obtain ⟨v0, vs0, d0, ds0, p0, q0, hargs, rfl, rfl, h0, r0⟩ := trodAll_cons hA
  obtain ⟨v1, vs1, d1, ds1, p1, q1, rfl, rfl, rfl, h1, r1⟩ := trodAll_cons r0
  obtain ⟨v2, vs2, d2, ds2, p2, q2, rfl, rfl, rfl, h2, r2⟩ := trodAll_cons r1
  obtain ⟨rfl, rfl, rfl⟩ := trodAll_nil r2
  obtain rfl : args = #[v0, v1, v2] := by cases args; simp_all
  obtain ⟨rfl, rfl⟩ := trodVars_none hV
  obtain ⟨a0, rfl, rfl, rfl, w0⟩ := open_int Ybad.underlying5 (hval 0 5 v0 rfl rfl) h0
  obtain ⟨a1, len1, cap1, rfl⟩ := okWide_slice Ybad.underlying34 (hval 1 34 v1 rfl rfl)
  have k1 := h1
  have lt1 : ∀ x ∈ p1, x.block < W.heap.size := by obtain ⟨m, hm⟩ := k1; exact DataW.trod_lt m _ _ _ hm
  obtain ⟨z1, w1⟩ := open_row Ybad.underlying34 Ybad.underlying22 (by kernel_rfl) h1
  obtain ⟨a2, rfl, rfl, rfl, w2⟩ := open_int Ybad.underlying5 (hval 2 5 v2 rfl rfl) h2
  obtain ⟨hT, hz⟩ := of_laid hL
  clear hA0 hval0
  refine (walk a0 a1 len1 cap1 z1 a2 W w0 w1 w2 hT hz).mono fun e W' ⟨he, bel⟩ => ?_
  subst he
  exact ⟨_, rfl, _, _, _, [], _, [], hW', trodAll_mk1 (shut_bool Ybad.underlying4 _), (trodAll_cons_mk (shut_int Ybad.underlying5 w0) (trodAll_cons_mk (Below.trod laidOut (by kernel_rfl) (of_decide_eq_true (by kernel_rfl)) k1 bel lt1)
    (trodAll_cons_mk (shut_int Ybad.underlying5 w2) trodAll_mk0))), rfl, bel.frame _, fun h => by cases h⟩

theorem over : Rows.LawS1773BReAddSaid :=
  OpenClaim.holds_of_wide 6 Ybad.f6 rfl rfl rfl rfl rfl rfl rfl ⟨rfl, rfl, rfl, rfl, rfl⟩ rfl rfl rfl rfl rfl (by kernel_rfl) Ybad.func6 (by kernel_rfl)
    (of_decide_eq_true (by kernel_rfl)) (by unfold Func.isWrapper; first | (rw [if_pos (by decide +kernel)]; kernel_rfl) | (rw [if_neg (by decide +kernel)]; exact ⟨rfl, rfl⟩))
    (fun os started H enc _ => lifted os started H enc)

/-- THE STATEMENT: the tied card. -/
theorem proved : Rows.LawS1773BReAddCardSaid :=
  Claim7.holds_tied_plain_at .later [] [.data, .data] true (true, _) false
    over (fun _ h => by cases h) (by kernel_rfl) (fun _ h => by cases h) lawS1773BReAdd_row_tie rfl ⟨rfl, rfl⟩ (by kernel_rfl) rfl
    (fun f fn hf hfn => by
      obtain rfl : f = 6 := Option.some.inj ((show Ybad.prog.funcNamed _ = some 6 by kernel_rfl).symm.trans hf) |>.symm
      obtain rfl : fn = Ybad.f6 := (Option.some.inj (Ybad.func6.symm.trans hfn)).symm
      exact ⟨by kernel_rfl, fun j t ht => by
        rw [Ybad.params6] at ht
        have hm : t ∈ [5, 34, 5] := by simpa using Array.mem_of_getElem? ht
        have hall : ([5, 34, 5].all fun u => !Ybad.prog.wantsStandIn u) = true := by kernel_rfl
        exact (show Ybad.prog.wantsStandIn t = false by simpa using List.all_eq_true.1 hall t hm)⟩)
    (by kernel_rfl)
end Go.Proofs.YbulkajrsDoor.lawS1773BReAdd
