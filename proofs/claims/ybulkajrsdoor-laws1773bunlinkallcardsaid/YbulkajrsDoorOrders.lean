import Derived.Orders
import Derived.RegionTactic
namespace Go.Proofs.YbulkajrsDoor
open Go

/-! ### A region that draws its order, by an invariant -/
theorem count_set_lt : ∀ (l : List Bool) (i : Nat), l[i]? = some false → (l.set i true).count false < l.count false
  | [], i, h => by simp at h
  | b :: l, 0, h => by simp at h; subst h; simp
  | b :: l, i + 1, h => by
    have := count_set_lt l i (by simpa using h)
    simp only [List.set_cons_succ, List.count_cons]
    omega

theorem wpAny_inv {P : Program} {md : Region.Mode} {ops : Array Oper} {Q : Exit → Act → World → Prop} (I : Array Bool → Act → World → Prop) (hsz : ∀ listed a w, I listed a w → listed.size = ops.size)
    (hstep : ∀ listed a w, I listed a w → ∀ (i : Nat) (o : Oper), ops[i]? = some o → listed[i]? = some false → (∀ e ∈ o.after, Region.binds md e = true → listed.getD e.on false = true) →
      o.guard = none ∧ o.wp P a w (fun a' w' => I (listed.setIfInBounds i true) a' w') Q)
    (hend : ∀ listed a w, I listed a w → Region.ready md ops listed = [] → Q .normal a w) :
    ∀ fuel listed a w, I listed a w → listed.toList.count false ≤ fuel → wpAny P md ops Q fuel listed a w := by
  intro fuel
  induction fuel with
  | zero =>
    intro listed a w hI hc
    have hr : Region.ready md ops listed = [] := by
      apply List.eq_nil_iff_forall_not_mem.2
      intro j hj
      obtain ⟨h1, o, ho, _⟩ := mem_ready.1 hj
      have hlt : j < listed.size := by rw [hsz _ _ _ hI]; exact (Array.getElem?_eq_some_iff.1 ho).1
      have hf : listed[j] = false := by simpa [hlt] using h1
      have : false ∈ listed.toList := by rw [← hf]; exact Array.getElem_mem_toList hlt
      have := List.count_pos_iff.2 this
      omega
    exact ⟨hr, hend _ _ _ hI hr⟩
  | succ fuel ih =>
    intro listed a w hI hc
    refine ⟨fun hr => hend _ _ _ hI hr, fun i hi => ?_⟩
    obtain ⟨h1, o, ho, he⟩ := mem_ready.1 hi
    have hlt : i < listed.size := by rw [hsz _ _ _ hI]; exact (Array.getElem?_eq_some_iff.1 ho).1
    have hf : listed[i] = false := by simpa [hlt] using h1
    have hf' : listed[i]? = some false := by rw [Array.getElem?_eq_getElem hlt, hf]
    obtain ⟨hg, hw⟩ := hstep _ _ _ hI i o ho hf' he
    unfold wpOp
    simp only [ho, Region.wanted, hg, if_true]
    refine .inl (Oper.wp_mono (fun a' w' hI' => ih _ _ _ hI' ?_) hw)
    have := count_set_lt listed.toList i (by simpa using hf')
    simp only [Array.toList_setIfInBounds]
    omega

theorem wp_region_inv {P : Program} {id : Nat} {ops : Array Oper} {Q : Exit → Act → World → Prop} {a : Act} {w : World} (hm : P.follows .mixedOrders = true) (I : Array Bool → Act → World → Prop)
    (hsz : ∀ listed a w, I listed a w → listed.size = ops.size)
    (hstep : ∀ listed a w, I listed a w → ∀ (i : Nat) (o : Oper), ops[i]? = some o → listed[i]? = some false → (∀ e ∈ o.after, Region.binds .any e = true → listed.getD e.on false = true) →
      o.guard = none ∧ o.wp P a w (fun a' w' => I (listed.setIfInBounds i true) a' w') Q)
    (hend : ∀ listed a w, I listed a w → Region.ready .any ops listed = [] → Q .normal a w)
    (h0 : I (Array.replicate ops.size false) a w.drew) : (Code.region id ops true).wp P Q a w :=
  wp_region_any hm (wpAny_inv I hsz hstep hend _ _ _ _ h0 (by simp))

end Go.Proofs.YbulkajrsDoor
