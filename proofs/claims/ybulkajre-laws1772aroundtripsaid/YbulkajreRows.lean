/-
  No cell of these rows narrows 'for every input' (looked for: loops, veiled, ifaces, maps, wideKeys, modest, calm, conditions, laid).
  DERIVED. THE GIVEN ROWS OF THIS SEAT. 2 by the template 'for every input the law returns true; each argument reads behind the call as it read before'; 0 by the template 'total and deterministic' (their statements: YbulkajreTotals.lean).
  GIVEN WITH THE SEED: the statements are not yours to turn. If you find one false, say at which input.
  Laid BY PROGRAM, IN A SANDBOX (cutbox-rows.mjs): the forced cells as the released guide's own fill.sh prints them over the translation 73aee5a93737f7cd… (all of the seat's roots in one cut). By AI agents, Wed Nov 11 2026. No macro, syntax, notation, axiom, sorry.
-/
import Derived.Test.YbulkajreChecked
import GoSem.Claim
import GoSem.ClaimJoined
import GoSem.ClaimMapViews
import Derived.JoinedTies
import Derived.KernelRfl
namespace Go.Proofs.Ybulkajre
/- THE CELL 'sum', in the pinned program and in every row, IS THE sha256 OF THE DUMP (.gsa) THAT YbulkajreProg.lean LOADS. Nothing in Lean hashes anything: it is a label: what it is worth is what the hold of that sum in a sandbox is worth. -/
noncomputable def Yba.pinned : Pinned := { name := "ybulkajre", sum := "73aee5a93737f7cd377f5dbad5de001a612b4221fcfd18c122ed0b770a418825", checked := Yba.checked }
namespace Rows
def none {H : Type} : Left H := { results := [], args := [] }

/-- 'maybeset.LawS1772AExact': WHATEVER THE INPUT: true; the input reads as it did. -/
def lawS1772AExactSpec : ChangeSpec := { name := "lawS1772AExact", fn := fun _ => fun
  | [d1, d2, d3] => { results := [.lit (.bool true)], args := [d1, d2, d3] }
  | _ => none }
def lawS1772AExactRow : OpenClaim := { program := "ybulkajre", sum := "73aee5a93737f7cd377f5dbad5de001a612b4221fcfd18c122ed0b770a418825", func := "example.com/maybeset/maybeset.LawS1772AExact", spec := "lawS1772AExact", inPlace := ["sync/atomic.LoadUint64", "sync/atomic.CompareAndSwapUint64"], apart := false }
def LawS1772AExactSaid : Prop := lawS1772AExactRow.holds Yba.pinned (OpenSpec.ofChange lawS1772AExactSpec)

/-- ITS FALSE NEIGHBOUR: 'it returns false'. Refute it at one input. -/
def lawS1772AExactWrong : ChangeSpec := { name := "lawS1772AExact", fn := fun _ => fun
  | [d1, d2, d3] => { results := [.lit (.bool false)], args := [d1, d2, d3] }
  | _ => none }
def LawS1772AExactWrongFalsely : Prop := lawS1772AExactRow.holds Yba.pinned (OpenSpec.ofChange lawS1772AExactWrong)

/-- 'maybeset.LawS1772ARoundTrip': WHATEVER THE INPUT: true; the input reads as it did. -/
def lawS1772ARoundTripSpec : ChangeSpec := { name := "lawS1772ARoundTrip", fn := fun _ => fun
  | [d1, d2, d3] => { results := [.lit (.bool true)], args := [d1, d2, d3] }
  | _ => none }
def lawS1772ARoundTripRow : OpenClaim := { program := "ybulkajre", sum := "73aee5a93737f7cd377f5dbad5de001a612b4221fcfd18c122ed0b770a418825", func := "example.com/maybeset/maybeset.LawS1772ARoundTrip", spec := "lawS1772ARoundTrip", inPlace := ["sync/atomic.LoadUint64", "sync/atomic.CompareAndSwapUint64"], apart := false }
def LawS1772ARoundTripSaid : Prop := lawS1772ARoundTripRow.holds Yba.pinned (OpenSpec.ofChange lawS1772ARoundTripSpec)

/-- ITS FALSE NEIGHBOUR: 'it returns false'. Refute it at one input. -/
def lawS1772ARoundTripWrong : ChangeSpec := { name := "lawS1772ARoundTrip", fn := fun _ => fun
  | [d1, d2, d3] => { results := [.lit (.bool false)], args := [d1, d2, d3] }
  | _ => none }
def LawS1772ARoundTripWrongFalsely : Prop := lawS1772ARoundTripRow.holds Yba.pinned (OpenSpec.ofChange lawS1772ARoundTripWrong)

end Rows
end Go.Proofs.Ybulkajre
