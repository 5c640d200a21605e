import Derived.Test.YbulkajrsDoorLeaf
import Derived.ProofKit
import Derived.LaidMore
import Derived.OpenShut
import Derived.Stop.Joined
import Derived.Lib.LaidTab
import Derived.ChangeOld
import Derived.Below
namespace Go.Proofs.YbulkajrsDoor
open Go.ChangeShapes Go.WideShapes Go.ChangeAt Go.RowKit
set_option linter.unusedVariables false

theorem own : ownKnob Ybad.prog.godebug = none := by kernel_rfl
theorem laidOut : laidOutB Ybad.prog = true := by kernel_rfl

/-- The door's own heap meets the condition. -/
theorem door_met (os : Os) (args : Array Value) : laidMetH Ybad.prog Rows.lawS1773AFirstRow.laid ((World.doorLaid Ybad.prog 19 os).forCall (fun _ _ => 0) ⟨#[], args, []⟩).memory :=
  laidMetH_of_parts3 (fuel := 8) (laidMet_of_run' 8 (by kernel_rfl) (by kernel_rfl)) (by kernel_rfl) (by kernel_rfl)

theorem tab_eq {H : Type} : (Rows.laid_math_bits_deBruijn64tab : DataW H) = Lib.tabData .u8 (Lib.deBruijn64tab.map fun n : Nat => (n : Int)) := by rfl
theorem cells5 : Ybad.prog.cellsOf 5 = 1 := by kernel_rfl
theorem cells26 : Ybad.prog.cellsOf 26 = 64 := by kernel_rfl

/-- What the condition gives the walks: the table's cells. -/
theorem of_laid {W : World} (h : laidMetH Ybad.prog Rows.lawS1773AFirstRow.laid W) : TabAt W ∧ 0 < W.heap.size := by
  rw [MakeChecks.laidMetH_plain _ _ _ (by kernel_rfl)] at h
  obtain ⟨ps, ⟨g0, t0, cs0, f0, p0, q0, hg0, ht0, hv0, hd0, ⟨g1, t1, cs1, f1, p1, q1, hg1, ht1, hv1, hd1, _, _⟩, _⟩, _, _⟩ := h
  obtain rfl := Option.some.inj ((show Ybad.prog.globalNamed _ = some 0 by kernel_rfl).symm.trans hg1)
  obtain rfl := Option.some.inj ((show (Ybad.prog.globals[0]?).map (·.type) = some 26 by kernel_rfl).symm.trans ht1)
  rw [tab_eq] at hd1
  have hcs := Lib.cells_of_tab Ybad.underlying26 Ybad.underlying5 cells5 cells26 hd1
  have hcell := World.var?_cell hg1 hv1
  have key : TabAt W := fun j hj => by
    rw [hcell j, ← Array.getElem?_toList, hcs]
    simp [hj]
  exact ⟨key, block_lt_of_cell (key 0 (by decide))⟩

/-- What a walk is told of a slice of integers that came in. -/
def IsRow (k : IntKind) (w : World) (a : Option Addr) (len cap : Nat) (zs : List Int) : Prop :=
  (a = none ∧ len = 0 ∧ cap = 0 ∧ zs = []) ∨
  ∃ x, a = some x ∧ len ≤ cap ∧ cap ≤ maxLen ∧ zs.length = cap ∧ (∀ i, i < zs.length → w.cell? (x.add i) = some (.int k (zs.getD i 0))) ∧ ∀ n ∈ zs, (Lit.int k n).wf = true

theorem open_row {H : Type} {enc : TypeId × Value → H} {W : World} {T E : TypeId} {k : IntKind} {a0 : Option Addr} {len0 cap0 : Nat} {d0 : DataW H} {p0 : List MemPlace}
    (hT : Ybad.prog.underlying T = some (.slice E)) (hE : Ybad.prog.underlying E = some (.int k)) (hc : Ybad.prog.cellsOf E = 1) (h0 : DataW.Trod enc Ybad.prog W 0 (fun _ => true) true T (.slice a0 len0 cap0) d0 p0) :
    ∃ zs, IsRow k W a0 len0 cap0 zs := by
  obtain ⟨fuel, hf⟩ := h0
  rcases open_ints hT hE hc hf with ⟨hcs, _⟩ | ⟨x, l, c, zs, hcs, _, hl, hm, hz, _, hcell, hwz⟩
  · simp [Value.cells] at hcs
    obtain ⟨rfl, rfl, rfl⟩ := hcs
    exact ⟨[], .inl ⟨rfl, rfl, rfl, rfl⟩⟩
  · simp [Value.cells] at hcs
    obtain ⟨rfl, rfl, rfl⟩ := hcs
    exact ⟨zs, .inr ⟨_, rfl, hl, hm, by simpa using hz, hcell, hwz⟩⟩

/-- A row of integers of kind k below M, by a function on Nat. -/
theorem row_nat {k : IntKind} {w : World} {a : Option Addr} {len cap : Nat} {zs : List Int} (M : Nat) (hk : ∀ n, (Lit.int k n).wf = true → 0 ≤ n ∧ n ≤ (M : Int)) (h : IsRow k w a len cap zs) :
    ∃ f : Nat → Nat, (∀ j, f j ≤ M) ∧ (0 < len → ∃ b off, a = some ⟨b, off, none⟩ ∧ b < w.heap.size ∧ ∀ j, j < len → w.cell? ⟨b, off + j, none⟩ = some (.int k (f j))) := by
  rcases h with ⟨rfl, rfl, rfl, rfl⟩ | ⟨x, rfl, hlc, hcm, hz, hcell, hwf⟩
  · exact ⟨fun _ => 0, fun _ => Nat.zero_le _, fun h => by omega⟩
  · have hz2 : ∀ j, 0 ≤ zs.getD j 0 ∧ zs.getD j 0 ≤ (M : Int) := by
      intro j
      by_cases hj : j < zs.length
      · exact hk _ (hwf (zs.getD j 0) (by rw [List.getD_eq_getElem?_getD, List.getElem?_eq_getElem hj]; exact List.getElem_mem hj))
      · rw [List.getD_eq_getElem?_getD, List.getElem?_eq_none (by omega)]
        exact ⟨by decide, by show (0 : Int) ≤ M; omega⟩
    refine ⟨fun j => (zs.getD j 0).toNat, fun j => by have := hz2 j; dsimp only; omega, fun hpos => ?_⟩
    obtain ⟨b, off, rfl, hc⟩ := ints_at hcell (by omega)
    refine ⟨b, off, rfl, block_lt_of_cell (hc 0 (by omega)), fun j hj => ?_⟩
    rw [hc j (by omega)]
    have := hz2 j
    have e : zs.getD j 0 = (((zs.getD j 0).toNat : Nat) : Int) := by omega
    rw [← e]

end Go.Proofs.YbulkajrsDoor
