import Derived.Test.YbulkajrsDoorEql
namespace Go.Proofs.YbulkajrsDoor
open Go.RowKit
set_option linter.unusedVariables false

/-! ### push -/
set_option maxHeartbeats 1000000 in
set_option maxRecDepth 100000 in
theorem push_end (b o e tb to : Nat) (nx0 pp0 : Option Addr) (w : World) (hT : (tb = b ∧ to = o) ∨ (to = 3 ∧ ¬ tb = b ∧ ¬ tb = e)) (hbe : ¬ e = b)
    (c1 : w.cell? ⟨b, o + 1, none⟩ = some (.pointer (some ⟨tb, to, none⟩))) (f1 : w.frozen? ⟨b, o + 1, none⟩ = false)
    (cT : w.cell? ⟨tb, to, none⟩ = some (.pointer none)) (fT : w.frozen? ⟨tb, to, none⟩ = false)
    (c3 : w.cell? ⟨e, 3, none⟩ = some (.pointer nx0)) (f3 : w.frozen? ⟨e, 3, none⟩ = false) (c4 : w.cell? ⟨e, 4, none⟩ = some (.pointer pp0)) (f4 : w.frozen? ⟨e, 4, none⟩ = false) :
    Calls Ybad.prog 29 #[.pointer (some ⟨b, o, none⟩), .pointer (some ⟨e, 0, none⟩), .bool false] w fun x w' => x = .returned (.tuple #[]) ∧
      w' = (((w.setCell ⟨e, 3, none⟩ (.pointer none)).setCell ⟨e, 4, none⟩ (.pointer (some ⟨tb, to, none⟩))).setCell ⟨tb, to, none⟩ (.pointer (some ⟨e, 0, none⟩))).setCell ⟨b, o + 1, none⟩ (.pointer (some ⟨e, 3, none⟩)) := by
  rcases hT with ⟨rfl, rfl⟩ | ⟨rfl, h1, h2⟩
  all_goals
    go_enter Ybad.func29, Ybad.ntmps29
    go_wp2
    go_end0
    exact ⟨rfl, rfl⟩

set_option maxHeartbeats 1000000 in
set_option maxRecDepth 100000 in
theorem push_startEnd (b o e tb to rb ro : Nat) (nx0 pp0 : Option Addr) (w : World) (hR : (rb = b ∧ ro = o) ∨ (ro = 3 ∧ ¬ rb = b ∧ ¬ rb = e)) (hbe : ¬ e = b)
    (c1 : w.cell? ⟨b, o + 1, none⟩ = some (.pointer (some ⟨tb, to, none⟩))) (f1 : w.frozen? ⟨b, o + 1, none⟩ = false)
    (c2 : w.cell? ⟨b, o + 2, none⟩ = some (.pointer (some ⟨rb, ro, none⟩))) (f2 : w.frozen? ⟨b, o + 2, none⟩ = false)
    (cR : w.cell? ⟨rb, ro, none⟩ = some (.pointer none)) (fR : w.frozen? ⟨rb, ro, none⟩ = false)
    (c3 : w.cell? ⟨e, 3, none⟩ = some (.pointer nx0)) (f3 : w.frozen? ⟨e, 3, none⟩ = false) (c4 : w.cell? ⟨e, 4, none⟩ = some (.pointer pp0)) (f4 : w.frozen? ⟨e, 4, none⟩ = false) :
    Calls Ybad.prog 29 #[.pointer (some ⟨b, o, none⟩), .pointer (some ⟨e, 0, none⟩), .bool true] w fun x w' => x = .returned (.tuple #[]) ∧
      w' = ((((w.setCell ⟨e, 3, none⟩ (.pointer none)).setCell ⟨e, 4, none⟩ (.pointer (some ⟨rb, ro, none⟩))).setCell ⟨rb, ro, none⟩ (.pointer (some ⟨e, 0, none⟩))).setCell ⟨b, o + 1, none⟩ (.pointer (some ⟨e, 3, none⟩))).setCell ⟨b, o + 2, none⟩ (.pointer (some ⟨e, 3, none⟩)) := by
  rcases hR with ⟨rfl, rfl⟩ | ⟨rfl, h1, h2⟩
  all_goals
    go_enter Ybad.func29, Ybad.ntmps29
    go_wp2
    go_end0
    exact ⟨rfl, rfl⟩

set_option maxHeartbeats 1000000 in
set_option maxRecDepth 100000 in
theorem push_startMid (b o e f tb to rb ro : Nat) (nx0 pp0 pf : Option Addr) (w : World) (hR : (rb = b ∧ ro = o) ∨ (ro = 3 ∧ ¬ rb = b ∧ ¬ rb = e ∧ ¬ rb = f)) (hbe : ¬ e = b) (hbf : ¬ f = b) (hef : ¬ f = e)
    (c1 : w.cell? ⟨b, o + 1, none⟩ = some (.pointer (some ⟨tb, to, none⟩)))
    (c2 : w.cell? ⟨b, o + 2, none⟩ = some (.pointer (some ⟨rb, ro, none⟩))) (f2 : w.frozen? ⟨b, o + 2, none⟩ = false)
    (cR : w.cell? ⟨rb, ro, none⟩ = some (.pointer (some ⟨f, 0, none⟩))) (fR : w.frozen? ⟨rb, ro, none⟩ = false)
    (c3 : w.cell? ⟨e, 3, none⟩ = some (.pointer nx0)) (f3 : w.frozen? ⟨e, 3, none⟩ = false) (c4 : w.cell? ⟨e, 4, none⟩ = some (.pointer pp0)) (f4 : w.frozen? ⟨e, 4, none⟩ = false)
    (c5 : w.cell? ⟨f, 4, none⟩ = some (.pointer pf)) (f5 : w.frozen? ⟨f, 4, none⟩ = false) :
    Calls Ybad.prog 29 #[.pointer (some ⟨b, o, none⟩), .pointer (some ⟨e, 0, none⟩), .bool true] w fun x w' => x = .returned (.tuple #[]) ∧
      w' = (((((w.setCell ⟨e, 3, none⟩ (.pointer (some ⟨f, 0, none⟩))).setCell ⟨e, 4, none⟩ (.pointer (some ⟨rb, ro, none⟩))).setCell ⟨rb, ro, none⟩ (.pointer (some ⟨e, 0, none⟩))).setCell ⟨f, 4, none⟩ (.pointer (some ⟨e, 3, none⟩))).setCell ⟨b, o + 2, none⟩ (.pointer (some ⟨e, 3, none⟩))).drew := by
  rcases hR with ⟨rfl, rfl⟩ | ⟨rfl, h1, h2, h3⟩
  all_goals
    go_enter Ybad.func29, Ybad.ntmps29
    go_wp2
    go_region
    go_wp2
    go_end0
    exact ⟨rfl, rfl⟩

set_option maxHeartbeats 1000000 in
set_option maxRecDepth 100000 in
theorem push_new (b o e : Nat) (r : Option Addr) (nx0 pp0 : Option Addr) (w : World) (hbe : ¬ e = b)
    (c0 : w.cell? ⟨b, o, none⟩ = some (.pointer none)) (f0 : w.frozen? ⟨b, o, none⟩ = false)
    (c1 : w.cell? ⟨b, o + 1, none⟩ = some (.pointer none)) (f1 : w.frozen? ⟨b, o + 1, none⟩ = false)
    (c2 : w.cell? ⟨b, o + 2, none⟩ = some (.pointer r)) (f2 : w.frozen? ⟨b, o + 2, none⟩ = false)
    (c3 : w.cell? ⟨e, 3, none⟩ = some (.pointer nx0)) (f3 : w.frozen? ⟨e, 3, none⟩ = false) (c4 : w.cell? ⟨e, 4, none⟩ = some (.pointer pp0)) (f4 : w.frozen? ⟨e, 4, none⟩ = false) :
    Calls Ybad.prog 29 #[.pointer (some ⟨b, o, none⟩), .pointer (some ⟨e, 0, none⟩), .bool false] w fun x w' => x = .returned (.tuple #[]) ∧
      w' = ((((((w.setCell ⟨b, o + 1, none⟩ (.pointer (some ⟨b, o, none⟩))).setCell ⟨b, o + 2, none⟩ (.pointer (some ⟨b, o, none⟩))).setCell ⟨e, 3, none⟩ (.pointer none)).setCell ⟨e, 4, none⟩ (.pointer (some ⟨b, o, none⟩))).setCell ⟨b, o, none⟩ (.pointer (some ⟨e, 0, none⟩))).setCell ⟨b, o + 1, none⟩ (.pointer (some ⟨e, 3, none⟩))).drew := by
  go_enter Ybad.func29, Ybad.ntmps29
  go_wp2
  go_region
  go_wp2
  go_end0
  exact ⟨rfl, rfl⟩

set_option maxHeartbeats 1000000 in
set_option maxRecDepth 100000 in
theorem push_newStart (b o e : Nat) (r : Option Addr) (nx0 pp0 : Option Addr) (w : World) (hbe : ¬ e = b)
    (c0 : w.cell? ⟨b, o, none⟩ = some (.pointer none)) (f0 : w.frozen? ⟨b, o, none⟩ = false)
    (c1 : w.cell? ⟨b, o + 1, none⟩ = some (.pointer none)) (f1 : w.frozen? ⟨b, o + 1, none⟩ = false)
    (c2 : w.cell? ⟨b, o + 2, none⟩ = some (.pointer r)) (f2 : w.frozen? ⟨b, o + 2, none⟩ = false)
    (c3 : w.cell? ⟨e, 3, none⟩ = some (.pointer nx0)) (f3 : w.frozen? ⟨e, 3, none⟩ = false) (c4 : w.cell? ⟨e, 4, none⟩ = some (.pointer pp0)) (f4 : w.frozen? ⟨e, 4, none⟩ = false) :
    Calls Ybad.prog 29 #[.pointer (some ⟨b, o, none⟩), .pointer (some ⟨e, 0, none⟩), .bool true] w fun x w' => x = .returned (.tuple #[]) ∧
      w' = (((((((w.setCell ⟨b, o + 1, none⟩ (.pointer (some ⟨b, o, none⟩))).setCell ⟨b, o + 2, none⟩ (.pointer (some ⟨b, o, none⟩))).setCell ⟨e, 3, none⟩ (.pointer none)).setCell ⟨e, 4, none⟩ (.pointer (some ⟨b, o, none⟩))).setCell ⟨b, o, none⟩ (.pointer (some ⟨e, 0, none⟩))).setCell ⟨b, o + 1, none⟩ (.pointer (some ⟨e, 3, none⟩))).setCell ⟨b, o + 2, none⟩ (.pointer (some ⟨e, 3, none⟩))).drew := by
  go_enter Ybad.func29, Ybad.ntmps29
  go_wp2
  go_region
  go_wp2
  go_end0
  exact ⟨rfl, rfl⟩

/-! ### leave -/
set_option maxHeartbeats 1000000 in
set_option maxRecDepth 100000 in
theorem leave_end (e tb to : Nat) (w : World) (hT : ¬ tb = e)
    (c3 : w.cell? ⟨e, 3, none⟩ = some (.pointer none)) (f3 : w.frozen? ⟨e, 3, none⟩ = false) (c4 : w.cell? ⟨e, 4, none⟩ = some (.pointer (some ⟨tb, to, none⟩))) (f4 : w.frozen? ⟨e, 4, none⟩ = false)
    (cT : w.cell? ⟨tb, to, none⟩ = some (.pointer (some ⟨e, 0, none⟩))) (fT : w.frozen? ⟨tb, to, none⟩ = false) :
    Calls Ybad.prog 27 #[.pointer (some ⟨e, 0, none⟩)] w fun x w' => x = .returned (.tuple #[]) ∧
      w' = (((w.setCell ⟨tb, to, none⟩ (.pointer none)).setCell ⟨e, 3, none⟩ (.pointer none)).setCell ⟨e, 4, none⟩ (.pointer none)).drew := by
  go_enter Ybad.func27, Ybad.ntmps27
  go_wp2
  go_region
  go_wp2
  go_end0
  exact ⟨rfl, rfl⟩

set_option maxHeartbeats 1000000 in
set_option maxRecDepth 100000 in
theorem leave_mid (e f tb to : Nat) (pf : Option Addr) (w : World) (hT : ¬ tb = e) (hf : ¬ f = e) (hTf : ¬ tb = f)
    (c3 : w.cell? ⟨e, 3, none⟩ = some (.pointer (some ⟨f, 0, none⟩))) (f3 : w.frozen? ⟨e, 3, none⟩ = false) (c4 : w.cell? ⟨e, 4, none⟩ = some (.pointer (some ⟨tb, to, none⟩))) (f4 : w.frozen? ⟨e, 4, none⟩ = false)
    (cT : w.cell? ⟨tb, to, none⟩ = some (.pointer (some ⟨e, 0, none⟩))) (fT : w.frozen? ⟨tb, to, none⟩ = false)
    (c5 : w.cell? ⟨f, 4, none⟩ = some (.pointer pf)) (f5 : w.frozen? ⟨f, 4, none⟩ = false) :
    Calls Ybad.prog 27 #[.pointer (some ⟨e, 0, none⟩)] w fun x w' => x = .returned (.tuple #[]) ∧
      w' = ((((w.setCell ⟨tb, to, none⟩ (.pointer (some ⟨f, 0, none⟩))).setCell ⟨f, 4, none⟩ (.pointer (some ⟨tb, to, none⟩))).setCell ⟨e, 3, none⟩ (.pointer none)).setCell ⟨e, 4, none⟩ (.pointer none)).drew.drew := by
  go_enter Ybad.func27, Ybad.ntmps27
  go_wp2
  go_region
  go_wp2
  go_region
  go_wp2
  go_end0
  exact ⟨rfl, rfl⟩
/-! ### forget -/
def forgot (b o e : Nat) (tl rs : Addr) (fr nx pv : Option Addr) (w : World) : World :=
  let w1 := if tl = (⟨e, 3, none⟩ : Addr) then w.setCell ⟨b, o + 1, none⟩ (.pointer pv) else w
  let w2 := if rs = (⟨e, 3, none⟩ : Addr) then w1.setCell ⟨b, o + 2, none⟩ (.pointer pv) else w1
  if fr = some (⟨e, 0, none⟩ : Addr) then w2.setCell ⟨b, o + 4, none⟩ (.pointer nx) else w2

set_option maxHeartbeats 4000000 in
set_option maxRecDepth 100000 in
theorem forget_any (b o e tb to rb ro : Nat) (fr nx pv : Option Addr) (w : World) (hbe : ¬ e = b)
    (h1 : (tb = e ∧ to = 3) ∨ ¬ tb = e) (h2 : (rb = e ∧ ro = 3) ∨ ¬ rb = e) (h3 : fr = none ∨ (∃ y, fr = some ⟨y, 0, none⟩ ∧ okB w y = true)) (k1 : okB w tb = true) (k2 : okB w rb = true) (k3 : okB w e = true)
    (c1 : w.cell? ⟨b, o + 1, none⟩ = some (.pointer (some ⟨tb, to, none⟩))) (f1 : w.frozen? ⟨b, o + 1, none⟩ = false)
    (c2 : w.cell? ⟨b, o + 2, none⟩ = some (.pointer (some ⟨rb, ro, none⟩))) (f2 : w.frozen? ⟨b, o + 2, none⟩ = false)
    (c4 : w.cell? ⟨b, o + 4, none⟩ = some (.pointer fr)) (f4 : w.frozen? ⟨b, o + 4, none⟩ = false)
    (d3 : w.cell? ⟨e, 3, none⟩ = some (.pointer nx)) (d4 : w.cell? ⟨e, 4, none⟩ = some (.pointer pv)) :
    Calls Ybad.prog 26 #[.pointer (some ⟨b, o, none⟩), .pointer (some ⟨e, 0, none⟩)] w fun x w' => x = .returned (.tuple #[]) ∧ w' = (forgot b o e ⟨tb, to, none⟩ ⟨rb, ro, none⟩ fr nx pv w).drew.drew := by
  have h3' : fr = none ∨ fr = some ⟨e, 0, none⟩ ∨ ∃ y, fr = some ⟨y, 0, none⟩ ∧ okB w y = true ∧ ¬ y = e := by
    rcases h3 with h | ⟨y, h, hk⟩
    · exact Or.inl h
    · by_cases hy : y = e
      · subst hy; exact Or.inr (Or.inl h)
      · exact Or.inr (Or.inr ⟨y, h, hk, hy⟩)
  clear h3
  have s47 := eql_same Ybad.ptr47 Ybad.size45
  have s45 := eql_same Ybad.ptr45 Ybad.size51
  have n45 := fun a w => eql_nil_left Ybad.ptr45 a w
  have o47 : ∀ (x y : Nat) (u : World), ¬ x = e → okB u x = true → okB u e = true → (binOp .eql 47 (.pointer (some ⟨x, y, none⟩)) (.pointer (some ⟨e, 3, none⟩))).run Ybad.prog u = .ok (.bool false) u :=
    fun x y u h1 h2 h3 => eql_other Ybad.ptr47 Ybad.size45 (by decide) _ _ (fun h => h1 (congrArg Addr.block h)) u h2 h3
  have o45 : ∀ (x : Nat) (u : World), ¬ x = e → okB u x = true → okB u e = true → (binOp .eql 45 (.pointer (some ⟨x, 0, none⟩)) (.pointer (some ⟨e, 0, none⟩))).run Ybad.prog u = .ok (.bool false) u :=
    fun x u h1 h2 h3 => eql_other Ybad.ptr45 Ybad.size51 (by decide) _ _ (fun h => h1 (congrArg Addr.block h)) u h2 h3
  have kd := okB_drew
  have ks := okB_setCell
  rcases h1 with ⟨rfl, rfl⟩ | h1 <;> rcases h2 with ⟨rfl, rfl⟩ | h2 <;> rcases h3' with rfl | rfl | ⟨y, rfl, k4, hy⟩
  all_goals
    go_enter Ybad.func26, Ybad.ntmps26
    go_wp2
    go_region
    go_wp2
    go_region
    go_wp2
    go_end0
    refine ⟨rfl, ?_⟩
    simp [forgot, *]

end Go.Proofs.YbulkajrsDoor
