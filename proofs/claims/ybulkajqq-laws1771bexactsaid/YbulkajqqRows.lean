/-
  No cell of these rows narrows 'for every input' (looked for: loops, veiled, ifaces, maps, wideKeys, modest, calm, conditions, laid).
  DERIVED. THE GIVEN ROWS OF THIS SEAT. 2 by the template 'for every input the law returns true; each argument reads behind the call as it read before'; 0 by the template 'total and deterministic' (their statements: YbulkajqqTotals.lean).
  GIVEN WITH THE SEED: the statements are not yours to turn. If you find one false, say at which input.
  Laid BY PROGRAM, IN A SANDBOX (cutbox-rows.mjs): the forced cells as the released guide's own fill.sh prints them over the translation 8bcbf8fb15827099… (all of the seat's roots in one cut). By AI agents, Wed Nov 11 2026. No macro, syntax, notation, axiom, sorry.
-/
import Derived.Test.YbulkajqqChecked
import GoSem.Claim
import GoSem.ClaimJoined
import GoSem.ClaimMapViews
import Derived.JoinedTies
import Derived.KernelRfl
namespace Go.Proofs.Ybulkajqq
/- THE CELL 'sum', in the pinned program and in every row, IS THE sha256 OF THE DUMP (.gsa) THAT YbulkajqqProg.lean LOADS. Nothing in Lean hashes anything: it is a label: what it is worth is what the hold of that sum in a sandbox is worth. -/
noncomputable def Yba.pinned : Pinned := { name := "ybulkajqq", sum := "8bcbf8fb158270992f37b09c714f69a0eb7f1557638d7c40d2c74eadb3d1c16e", checked := Yba.checked }
namespace Rows
def none {H : Type} : Left H := { results := [], args := [] }

/-- 'decimal.LawS1771BExact': WHATEVER THE INPUT: true; the input reads as it did. -/
def lawS1771BExactSpec : ChangeSpec := { name := "lawS1771BExact", fn := fun _ => fun
  | [d] => { results := [.lit (.bool true)], args := [d] }
  | _ => none }
def lawS1771BExactRow : OpenClaim := { program := "ybulkajqq", sum := "8bcbf8fb158270992f37b09c714f69a0eb7f1557638d7c40d2c74eadb3d1c16e", func := "example.com/tuoguan/tuoguan/decimal.LawS1771BExact", spec := "lawS1771BExact", apart := false }
def LawS1771BExactSaid : Prop := lawS1771BExactRow.holds Yba.pinned (OpenSpec.ofChange lawS1771BExactSpec)

/-- ITS FALSE NEIGHBOUR: 'it returns false'. Refute it at one input. -/
def lawS1771BExactWrong : ChangeSpec := { name := "lawS1771BExact", fn := fun _ => fun
  | [d] => { results := [.lit (.bool false)], args := [d] }
  | _ => none }
def LawS1771BExactWrongFalsely : Prop := lawS1771BExactRow.holds Yba.pinned (OpenSpec.ofChange lawS1771BExactWrong)

/-- 'decimal.LawS1771BSymmetric': WHATEVER THE INPUT: true; the input reads as it did. -/
def lawS1771BSymmetricSpec : ChangeSpec := { name := "lawS1771BSymmetric", fn := fun _ => fun
  | [d] => { results := [.lit (.bool true)], args := [d] }
  | _ => none }
def lawS1771BSymmetricRow : OpenClaim := { program := "ybulkajqq", sum := "8bcbf8fb158270992f37b09c714f69a0eb7f1557638d7c40d2c74eadb3d1c16e", func := "example.com/tuoguan/tuoguan/decimal.LawS1771BSymmetric", spec := "lawS1771BSymmetric", apart := false }
def LawS1771BSymmetricSaid : Prop := lawS1771BSymmetricRow.holds Yba.pinned (OpenSpec.ofChange lawS1771BSymmetricSpec)

/-- ITS FALSE NEIGHBOUR: 'it returns false'. Refute it at one input. -/
def lawS1771BSymmetricWrong : ChangeSpec := { name := "lawS1771BSymmetric", fn := fun _ => fun
  | [d] => { results := [.lit (.bool false)], args := [d] }
  | _ => none }
def LawS1771BSymmetricWrongFalsely : Prop := lawS1771BSymmetricRow.holds Yba.pinned (OpenSpec.ofChange lawS1771BSymmetricWrong)

end Rows
end Go.Proofs.Ybulkajqq
