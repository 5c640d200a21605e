import Derived.Test.YbulkajqqRows
import Derived.WalkKit
import Derived.ProofKit
import Derived.OpenShut
import Derived.ShutString
namespace Go.Proofs.Ybulkajqq.lawS1771BSymmetric
open Go.ChangeShapes Go.WideShapes Go.ChangeAt Go.RowKit
open Go.ChangeMaps (open_string shut_string)
set_option linter.unusedVariables false      -- a walk need not use every 'w<i>' (that an integer argument fits its kind)

theorem own : ownKnob Yba.prog.godebug = none := by kernel_rfl

theorem ret_true {b : Bool} (h : b = true) : Ending.returned (.bool b) = .returned (.bool true) := by rw [h]

/-! ### THE PLAIN LAW: each side under its own tests -/
theorem neg_wrap (a : Int) (hlo : -9223372036854775808 ≤ a) (hneg : a < 0) : IntKind.u64.wrap (-IntKind.u64.wrap a) = -a := by
  rw [IntKind.wrap_u64, IntKind.wrap_u64]; omega
theorem min_of (a : Int) (hlo : -9223372036854775808 ≤ a) (hneg : a < 0) (h : wrap64 (-a) < 0) : wrap64 (-a) = a := by
  unfold wrap64 at h ⊢; omega
theorem no_both (a : Int) (hlo : -9223372036854775808 ≤ a) (hneg : a < 0) (h : wrap64 (-a) < 0)
    (hne : (IntKind.u64.wrap (-IntKind.u64.wrap a) != IntKind.u64.wrap (-IntKind.u64.wrap (wrap64 (-a)))) = true) : False := by
  rw [min_of a hlo hneg h] at hne; simp at hne
theorem no_left (a : Int) (hlo : -9223372036854775808 ≤ a) (hneg : a < 0) (h : 0 ≤ wrap64 (-a))
    (hne : (IntKind.u64.wrap (-IntKind.u64.wrap a) != IntKind.u64.wrap (wrap64 (-a))) = true) : False := by
  have hw : wrap64 (-a) = -a := by unfold wrap64 at h ⊢; omega
  rw [neg_wrap a hlo hneg, hw, IntKind.wrap_u64, bne_iff_ne] at hne
  omega
theorem no_great (a : Int) (hlo : -9223372036854775808 ≤ a) (hneg : a < 0) (h : 9223372036854775808 < IntKind.u64.wrap (-IntKind.u64.wrap a)) : False := by
  rw [neg_wrap a hlo hneg] at h; omega
theorem yes_left (a : Int) (hlo : -9223372036854775808 ≤ a) (hneg : a < 0) : ((IntKind.u64.wrap (-IntKind.u64.wrap a) == 0) == (a == 0)) = true := by
  rw [neg_wrap a hlo hneg]
  have h1 : (-a == 0) = false := beq_eq_false_iff_ne.2 (by omega)
  have h2 : (a == 0) = false := beq_eq_false_iff_ne.2 (by omega)
  rw [h1, h2]; rfl
theorem no_right (a : Int) (hhi : a ≤ 9223372036854775807) (hpos : 0 < a) (hne : (a != IntKind.u64.wrap (-IntKind.u64.wrap (-a))) = true) : False := by
  rw [neg_wrap (-a) (by omega) (by omega), bne_iff_ne] at hne
  omega

/-! ### STEP 1: THE WALK: the Go text returns true -/
theorem walk (a0 : Int) (w0 : (Lit.int .i64 a0).wf = true) (w : World) :
    Calls Yba.prog 4 #[.int .i64 a0] w fun e w' => e = .returned (.bool true) ∧ Grown w w' := by
  have hb := bounds_i64 w0
  obtain ⟨hlo, hhi⟩ := hb
  go_enter Yba.func4, Yba.ntmps4
  go_wp2
  · exact (no_both a0 hlo (by assumption) (by assumption) (by assumption)).elim
  · exact (no_great a0 hlo (by assumption) (by assumption)).elim
  · go_ret
    exact ⟨ret_true (yes_left a0 hlo (by assumption)), Grown.refl _⟩
  · exact (no_left a0 hlo (by assumption) (by assumption) (by assumption)).elim
  · exact (no_great a0 hlo (by assumption) (by assumption)).elim
  · go_ret
    exact ⟨ret_true (yes_left a0 hlo (by assumption)), Grown.refl _⟩
  · exact (no_right a0 hhi (by assumption) (by assumption)).elim
  · go_ret
    exact ⟨rfl, Grown.refl _⟩
  · go_ret
    exact ⟨rfl, Grown.refl _⟩

/-! ### THE ROW's STEP: by the template -/
set_option maxRecDepth 100000 in
theorem lifted (os : Os) (started : os.Started) (H : Type) (enc : TypeId × Value → H) :
    ReturnsInHanded {} Yba.checked os 4 .any (Rows.lawS1771BSymmetricSpec.pre6 enc Yba.prog Yba.f4 Rows.lawS1771BSymmetricRow.domain false) (Rows.lawS1771BSymmetricSpec.post enc Yba.prog Yba.f4 false true false false) := by
  refine returnsInHanded_of_change (C := Yba.checked) own started (by kernel_rfl) Yba.func4
    (ChangeSpec.witness6 (enc := enc) (C := Yba.checked) false ⟨#[], #[.int .i64 0], []⟩ 8 (by kernel_rfl) (by kernel_rfl) (by kernel_rfl) (by kernel_rfl)) ?_
  intro W base args ds gs before hval0 hW hcnd _
  have hval : ∀ (j : Nat) t v, Yba.f4.params[j]? = some t → args[j]? = some v → Value.okWide Yba.prog W .any base t v := hval0
  have hW' := hW
  obtain ⟨p, q, hA0, hV, rfl, hfz, hnd⟩ := hW
  have hA : DataW.TrodAll enc Yba.prog W 0 (fun _ => true) true Yba.f4.params.toList args.toList ds p := hA0
  rw [Yba.params4] at hA hval
  obtain ⟨v0, vs0, d0, ds0, p0, q0, hargs, rfl, rfl, h0, r0⟩ := trodAll_cons hA
  obtain ⟨rfl, rfl, rfl⟩ := trodAll_nil r0
  obtain rfl : args = #[v0] := by cases args; simp_all
  obtain ⟨rfl, rfl⟩ := trodVars_none hV
  obtain ⟨a0, rfl, rfl, rfl, w0⟩ := open_int Yba.underlying2 (hval 0 2 v0 rfl rfl) h0
  clear hA0 hval0
  simp only [List.append_nil] at hW'
  refine (walk a0 w0 W).mono fun e W' ⟨he, hg⟩ => ?_
  subst he
  exact ⟨_, rfl, post_of_same (pa := []) (pv := []) hW' (fun _ _ _ => (trodAll_cons_mk (shut_bool Yba.underlying4 _) trodAll_mk0)) (fun sp _ => (trodAll_cons_mk (shut_int Yba.underlying2 w0) trodAll_mk0)) (fun _ _ => rfl) rfl
    (hg.frame _) hg.2.1 (ok_one (by kernel_rfl) rfl (okWide_bool_mk Yba.underlying4 _))⟩

theorem over : Rows.lawS1771BSymmetricRow.holds Yba.pinned (OpenSpec.ofChange Rows.lawS1771BSymmetricSpec) :=
  OpenClaim.holds_of_wide 4 Yba.f4 rfl rfl rfl rfl rfl rfl rfl ⟨rfl, rfl, rfl, rfl, rfl⟩ rfl rfl rfl rfl rfl (by kernel_rfl) Yba.func4 (by kernel_rfl)
    (of_decide_eq_true (by kernel_rfl)) (by unfold Func.isWrapper; first | (rw [if_pos (by decide +kernel)]; kernel_rfl) | (rw [if_neg (by decide +kernel)]; exact ⟨rfl, rfl⟩))
    (fun os started H enc _ => lifted os started H enc)

/-- THE STATEMENT -/
theorem proved : Rows.LawS1771BSymmetricSaid :=
  over
end Go.Proofs.Ybulkajqq.lawS1771BSymmetric
