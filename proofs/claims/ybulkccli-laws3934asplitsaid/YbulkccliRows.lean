/-
  No cell of these rows narrows 'for every input' (looked for: loops, veiled, ifaces, maps, wideKeys, modest, calm, conditions, laid).
  DERIVED. THE GIVEN ROWS OF THIS SEAT. 2 by the template 'for every input the law returns true; each argument reads behind the call as it read before'; 0 by the template 'total and deterministic' (their statements: YbulkccliTotals.lean).
  GIVEN WITH THE SEED: the statements are not yours to turn. If you find one false, say at which input.
  Laid BY PROGRAM, IN A SANDBOX (cutbox-rows.mjs): the forced cells as the released guide's own fill.sh prints them over the translation d8b7790cc33e223d… (all of the seat's roots in one cut). By AI agents, Wed Nov 11 2026. No macro, syntax, notation, axiom, sorry.
-/
import Derived.Test.YbulkccliChecked
import GoSem.Claim
import GoSem.ClaimJoined
import GoSem.ClaimMapViews
import Derived.JoinedTies
import Derived.KernelRfl
namespace Go.Proofs.Ybulkccli
/- THE CELL 'sum', in the pinned program and in every row, IS THE sha256 OF THE DUMP (.gsa) THAT YbulkccliProg.lean LOADS. Nothing in Lean hashes anything: it is a label: what it is worth is what the hold of that sum in a sandbox is worth. -/
noncomputable def Yba.pinned : Pinned := { name := "ybulkccli", sum := "d8b7790cc33e223d94435a8ea46b42594e69b1d2c2070221ee7466b5cfd2c0fd", checked := Yba.checked }
namespace Rows
def none {H : Type} : Left H := { results := [], args := [] }

/-- 'chronoform.LawS3934AExact': WHATEVER THE INPUT: true; the input reads as it did. -/
def lawS3934AExactSpec : ChangeSpec := { name := "lawS3934AExact", fn := fun _ => fun
  | [d1, d2, d3] => { results := [.lit (.bool true)], args := [d1, d2, d3] }
  | _ => none }
def lawS3934AExactRow : OpenClaim := { program := "ybulkccli", sum := "d8b7790cc33e223d94435a8ea46b42594e69b1d2c2070221ee7466b5cfd2c0fd", func := "example.com/chronoform/chronoform.LawS3934AExact", spec := "lawS3934AExact", apart := false }
def LawS3934AExactSaid : Prop := lawS3934AExactRow.holds Yba.pinned (OpenSpec.ofChange lawS3934AExactSpec)

/-- ITS FALSE NEIGHBOUR: 'it returns false'. Refute it at one input. -/
def lawS3934AExactWrong : ChangeSpec := { name := "lawS3934AExact", fn := fun _ => fun
  | [d1, d2, d3] => { results := [.lit (.bool false)], args := [d1, d2, d3] }
  | _ => none }
def LawS3934AExactWrongFalsely : Prop := lawS3934AExactRow.holds Yba.pinned (OpenSpec.ofChange lawS3934AExactWrong)

/-- 'chronoform.LawS3934ASplit': WHATEVER THE INPUT: true; the input reads as it did. -/
def lawS3934ASplitSpec : ChangeSpec := { name := "lawS3934ASplit", fn := fun _ => fun
  | [d1, d2, d3, d4] => { results := [.lit (.bool true)], args := [d1, d2, d3, d4] }
  | _ => none }
def lawS3934ASplitRow : OpenClaim := { program := "ybulkccli", sum := "d8b7790cc33e223d94435a8ea46b42594e69b1d2c2070221ee7466b5cfd2c0fd", func := "example.com/chronoform/chronoform.LawS3934ASplit", spec := "lawS3934ASplit", apart := false }
def LawS3934ASplitSaid : Prop := lawS3934ASplitRow.holds Yba.pinned (OpenSpec.ofChange lawS3934ASplitSpec)

/-- ITS FALSE NEIGHBOUR: 'it returns false'. Refute it at one input. -/
def lawS3934ASplitWrong : ChangeSpec := { name := "lawS3934ASplit", fn := fun _ => fun
  | [d1, d2, d3, d4] => { results := [.lit (.bool false)], args := [d1, d2, d3, d4] }
  | _ => none }
def LawS3934ASplitWrongFalsely : Prop := lawS3934ASplitRow.holds Yba.pinned (OpenSpec.ofChange lawS3934ASplitWrong)

end Rows
end Go.Proofs.Ybulkccli
