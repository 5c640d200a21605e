import Derived.Test.YbulkajrsDoorBase
import Derived.LaidEql
namespace Go.Proofs.YbulkajrsDoor
open Go.RowKit
set_option linter.unusedVariables false

/-! ### '==' of two pointers -/
/-- The block is a row of cells, none frozen. -/
def okB (w : World) (k : Nat) : Bool := match w.heap[k]? with | some (.cells _ _ (0, 0)) => true | _ => false
theorem okB_cells {w : World} {k : Nat} (h : okB w k = true) : ∃ c t, w.heap[k]? = some (.cells c t (0, 0)) := by
  unfold okB at h
  split at h
  · next c t heq => exact ⟨c, t, heq⟩
  · cases h
theorem okB_of {w : World} {k : Nat} {c : Array Value} {t : TypeId} (h : w.heap[k]? = some (.cells c t (0, 0))) : okB w k = true := by simp [okB, h]
theorem okB_drew (w : World) (k : Nat) : okB w.drew k = okB w k := rfl
theorem okB_setCell (w : World) (a : Addr) (v : Value) (k : Nat) : okB (w.setCell a v) k = okB w k := by
  by_cases e : k = a.block
  · subst e
    unfold okB World.setCell
    rw [Array.getElem?_modify, if_pos rfl]
    cases h : w.heap[a.block]? with
    | none => rfl
    | some o =>
      cases o with
      | cells c t fr => obtain ⟨x, y⟩ := fr; cases a.spot <;> cases x <;> cases y <;> rfl
      | _ => rfl
  · unfold okB; rw [heap_setCell_other _ _ _ _ e]

theorem run_equalIn_ptr_same {P : Program} (w : World) (d : Nat) {tp te : TypeId} {j : TypeInfo} (a : Addr) (hp : P.underlying tp = some (.pointer te)) (hte : P.info? te = some j) :
    (Op.equalIn (d + 1) tp (.pointer (some a)) (.pointer (some a))).run P w = .ok true w := by
  simp [Op.equalIn, run_underlying hp, sizeOf, typeInfo, run_sameAddr_same, hte]
theorem run_equalIn_ptr_other {P : Program} (w : World) (d : Nat) {tp te : TypeId} {j : TypeInfo} {a b : Addr} (hp : P.underlying tp = some (.pointer te)) (hte : P.info? te = some j) (hsz : j.size ≠ 0)
    (hne : a ≠ b) (ha : okB w a.block = true) (hb : okB w b.block = true) :
    (Op.equalIn (d + 1) tp (.pointer (some a)) (.pointer (some b))).run P w = .ok false w := by
  obtain ⟨ca, ta, ha⟩ := okB_cells ha
  obtain ⟨cb, tb, hb⟩ := okB_cells hb
  simp [Op.equalIn, run_underlying hp, sizeOf, typeInfo, hte, hsz, run_sameAddr_other w hne ha hb]
theorem run_equalIn_nil_ptr {P : Program} (w : World) (d : Nat) {tp te : TypeId} (a : Addr) (hp : P.underlying tp = some (.pointer te)) :
    (Op.equalIn (d + 1) tp (.pointer none) (.pointer (some a))).run P w = .ok false w := by
  simp [Op.equalIn, run_underlying hp]

theorem eql_same {P : Program} {tp te : TypeId} {z : Nat} (hp : P.underlying tp = some (.pointer te)) (hte : (P.info? te).map (·.size) = some z) (a : Addr) (w : World) :
    (binOp .eql tp (.pointer (some a)) (.pointer (some a))).run P w = .ok (.bool true) w := by
  obtain ⟨j, hj, _⟩ := Option.map_eq_some_iff.1 hte
  simp only [binOp]
  simp [Op.equal, Op.maxDepth, run_equalIn_ptr_same w 9999 a hp hj]
theorem eql_other {P : Program} {tp te : TypeId} {z : Nat} (hp : P.underlying tp = some (.pointer te)) (hte : (P.info? te).map (·.size) = some z) (hz : z ≠ 0) (a b : Addr) (hne : a ≠ b) (w : World) (ha : okB w a.block = true) (hb : okB w b.block = true) :
    (binOp .eql tp (.pointer (some a)) (.pointer (some b))).run P w = .ok (.bool false) w := by
  obtain ⟨j, hj, h⟩ := Option.map_eq_some_iff.1 hte
  simp only [binOp]
  simp [Op.equal, Op.maxDepth, run_equalIn_ptr_other w 9999 hp hj (by omega) hne ha hb]
theorem eql_nil_left {P : Program} {tp te : TypeId} (hp : P.underlying tp = some (.pointer te)) (a : Addr) (w : World) :
    (binOp .eql tp (.pointer none) (.pointer (some a))).run P w = .ok (.bool false) w := by
  simp only [binOp]
  simp [Op.equal, Op.maxDepth, run_equalIn_nil_ptr w 9999 a hp]
theorem neq_same {P : Program} {tp te : TypeId} {z : Nat} (hp : P.underlying tp = some (.pointer te)) (hte : (P.info? te).map (·.size) = some z) (a : Addr) (w : World) :
    (binOp .neq tp (.pointer (some a)) (.pointer (some a))).run P w = .ok (.bool false) w := by
  obtain ⟨j, hj, _⟩ := Option.map_eq_some_iff.1 hte
  simp only [binOp]
  simp [Op.equal, Op.maxDepth, run_equalIn_ptr_same w 9999 a hp hj]
theorem neq_other {P : Program} {tp te : TypeId} {z : Nat} (hp : P.underlying tp = some (.pointer te)) (hte : (P.info? te).map (·.size) = some z) (hz : z ≠ 0) (a b : Addr) (hne : a ≠ b) (w : World) (ha : okB w a.block = true) (hb : okB w b.block = true) :
    (binOp .neq tp (.pointer (some a)) (.pointer (some b))).run P w = .ok (.bool true) w := by
  obtain ⟨j, hj, h⟩ := Option.map_eq_some_iff.1 hte
  simp only [binOp]
  simp [Op.equal, Op.maxDepth, run_equalIn_ptr_other w 9999 hp hj (by omega) hne ha hb]

theorem Ybad.ptr47 : Ybad.prog.underlying 47 = some (.pointer 45) := by kernel_rfl
theorem Ybad.ptr45 : Ybad.prog.underlying 45 = some (.pointer 51) := by kernel_rfl
theorem Ybad.size45 : (Ybad.prog.info? 45).map (·.size) = some 1 := by kernel_rfl
theorem Ybad.size51 : (Ybad.prog.info? 51).map (·.size) = some 8 := by kernel_rfl
end Go.Proofs.YbulkajrsDoor
