/-
  No cell of these rows narrows 'for every input' (looked for: loops, veiled, ifaces, maps, wideKeys, modest, calm, conditions, laid).
  DERIVED. THE GIVEN ROWS OF THIS SEAT. 2 by the template 'for every input the law returns true; each argument reads behind the call as it read before'; 0 by the template 'total and deterministic' (their statements: YbulkccmyFmtTotals.lean).
  GIVEN WITH THE SEED: the statements are not yours to turn. If you find one false, say at which input.
  Laid BY PROGRAM, IN A SANDBOX (cutbox-rows.mjs): the forced cells as the released guide's own fill.sh prints them over the translation f3394011c3d81da9… (all of the seat's roots in one cut). By AI agents, Wed Nov 11 2026. No macro, syntax, notation, axiom, sorry.
-/
import Derived.Test.YbulkccmyFmtChecked
import GoSem.Claim
import GoSem.ClaimJoined
import GoSem.ClaimMapViews
import Derived.JoinedTies
import Derived.KernelRfl
namespace Go.Proofs.YbulkccmyFmt
/- THE CELL 'sum', in the pinned program and in every row, IS THE sha256 OF THE DUMP (.gsa) THAT YbulkccmyFmtProg.lean LOADS. Nothing in Lean hashes anything: it is a label: what it is worth is what the hold of that sum in a sandbox is worth. -/
noncomputable def Ybaf.pinned : Pinned := { name := "ybulkccmyfmt", sum := "f3394011c3d81da9207a0d88797abc111b82e1adf0d4c16de64d44351cccc3e7", checked := Ybaf.checked }
namespace Rows
def none {H : Type} : Left H := { results := [], args := [] }

/-- 'packstone.LawS3937BReader': WHATEVER THE INPUT: true; the input reads as it did. -/
def lawS3937BReaderSpec : ChangeSpec := { name := "lawS3937BReader", fn := fun _ => fun
  | [d1, d2, d3, d4, d5] => { results := [.lit (.bool true)], args := [d1, d2, d3, d4, d5] }
  | _ => none }
def lawS3937BReaderRow : OpenClaim := { program := "ybulkccmyfmt", sum := "f3394011c3d81da9207a0d88797abc111b82e1adf0d4c16de64d44351cccc3e7", func := "example.com/packstone/packstone.LawS3937BReader", spec := "lawS3937BReader", stops := ["fmt.errorf"], inPlace := ["fmt.errorf"], unfollowed := true, recurses := true, named := ["encoding/binary.BigEndian"], apart := false }
/-- NO THEOREM (fmt's text is open here; it may be false): for the released tool's asking of the row's closed facts alone. THE STATEMENT IS 'LawS3937BReaderToldSaid' (YbulkccmyFmtCards.lean). -/
def LawS3937BReaderFormAsk : Prop := lawS3937BReaderRow.holds Ybaf.pinned (OpenSpec.ofChange lawS3937BReaderSpec)

/-- ITS FALSE NEIGHBOUR: 'it returns false'. Refute it at one input. -/
def lawS3937BReaderWrong : ChangeSpec := { name := "lawS3937BReader", fn := fun _ => fun
  | [d1, d2, d3, d4, d5] => { results := [.lit (.bool false)], args := [d1, d2, d3, d4, d5] }
  | _ => none }
def LawS3937BReaderWrongFormAsk : Prop := lawS3937BReaderRow.holds Ybaf.pinned (OpenSpec.ofChange lawS3937BReaderWrong)

/-- 'packstone.LawS3937BMemory': WHATEVER THE INPUT: true; the input reads as it did. -/
def lawS3937BMemorySpec : ChangeSpec := { name := "lawS3937BMemory", fn := fun _ => fun
  | [d1, d2, d3, d4, d5] => { results := [.lit (.bool true)], args := [d1, d2, d3, d4, d5] }
  | _ => none }
def lawS3937BMemoryRow : OpenClaim := { program := "ybulkccmyfmt", sum := "f3394011c3d81da9207a0d88797abc111b82e1adf0d4c16de64d44351cccc3e7", func := "example.com/packstone/packstone.LawS3937BMemory", spec := "lawS3937BMemory", stops := ["fmt.errorf"], inPlace := ["fmt.errorf"], unfollowed := true, recurses := true, named := ["encoding/binary.BigEndian"], apart := false }
/-- NO THEOREM (fmt's text is open here; it may be false): for the released tool's asking of the row's closed facts alone. THE STATEMENT IS 'LawS3937BMemoryToldSaid' (YbulkccmyFmtCards.lean). -/
def LawS3937BMemoryFormAsk : Prop := lawS3937BMemoryRow.holds Ybaf.pinned (OpenSpec.ofChange lawS3937BMemorySpec)

/-- ITS FALSE NEIGHBOUR: 'it returns false'. Refute it at one input. -/
def lawS3937BMemoryWrong : ChangeSpec := { name := "lawS3937BMemory", fn := fun _ => fun
  | [d1, d2, d3, d4, d5] => { results := [.lit (.bool false)], args := [d1, d2, d3, d4, d5] }
  | _ => none }
def LawS3937BMemoryWrongFormAsk : Prop := lawS3937BMemoryRow.holds Ybaf.pinned (OpenSpec.ofChange lawS3937BMemoryWrong)

end Rows
end Go.Proofs.YbulkccmyFmt
