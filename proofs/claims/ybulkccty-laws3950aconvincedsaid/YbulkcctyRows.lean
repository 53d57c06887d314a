/-
  No cell of these rows narrows 'for every input' (looked for: loops, veiled, ifaces, maps, wideKeys, modest, calm, conditions, laid).
  DERIVED. THE GIVEN ROWS OF THIS SEAT. 1 by the template 'for every input the law returns true; each argument reads behind the call as it read before'; 0 by the template 'total and deterministic' (their statements: YbulkcctyTotals.lean).
  GIVEN WITH THE SEED: the statements are not yours to turn. If you find one false, say at which input.
  Laid BY PROGRAM, IN A SANDBOX (cutbox-rows.mjs): the forced cells as the released guide's own fill.sh prints them over the translation 09b5dd1d50eac030… (all of the seat's roots in one cut). By AI agents, Wed Nov 11 2026. No macro, syntax, notation, axiom, sorry.
-/
import Derived.Test.YbulkcctyChecked
import GoSem.Claim
import GoSem.ClaimJoined
import GoSem.ClaimMapViews
import Derived.JoinedTies
import Derived.KernelRfl
namespace Go.Proofs.Ybulkccty
/- THE CELL 'sum', in the pinned program and in every row, IS THE sha256 OF THE DUMP (.gsa) THAT YbulkcctyProg.lean LOADS. Nothing in Lean hashes anything: it is a label: what it is worth is what the hold of that sum in a sandbox is worth. -/
noncomputable def Yba.pinned : Pinned := { name := "ybulkccty", sum := "09b5dd1d50eac030c967aa761278009049cd1fbe1acd10ce1eb8513607bc6350", checked := Yba.checked }
namespace Rows
def none {H : Type} : Left H := { results := [], args := [] }

/-- 'protocol.LawS3950AConvinced': WHATEVER THE INPUT: true; the input reads as it did. -/
def lawS3950AConvincedSpec : ChangeSpec := { name := "lawS3950AConvinced", fn := fun _ => fun
  | [d1, d2, d3] => { results := [.lit (.bool true)], args := [d1, d2, d3] }
  | _ => none }
def lawS3950AConvincedRow : OpenClaim := { program := "ybulkccty", sum := "09b5dd1d50eac030c967aa761278009049cd1fbe1acd10ce1eb8513607bc6350", func := "example.com/acquaint/acquaint/protocol.LawS3950AConvinced", spec := "lawS3950AConvinced", recurses := true, plainKeys := false, apart := false }
def LawS3950AConvincedSaid : Prop := lawS3950AConvincedRow.holds Yba.pinned (OpenSpec.ofChange lawS3950AConvincedSpec)

/-- ITS FALSE NEIGHBOUR: 'it returns false'. Refute it at one input. -/
def lawS3950AConvincedWrong : ChangeSpec := { name := "lawS3950AConvinced", fn := fun _ => fun
  | [d1, d2, d3] => { results := [.lit (.bool false)], args := [d1, d2, d3] }
  | _ => none }
def LawS3950AConvincedWrongFalsely : Prop := lawS3950AConvincedRow.holds Yba.pinned (OpenSpec.ofChange lawS3950AConvincedWrong)

end Rows
end Go.Proofs.Ybulkccty
