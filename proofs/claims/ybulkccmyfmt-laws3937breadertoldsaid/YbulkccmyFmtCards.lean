/-
  DERIVED. GIVEN WITH THE SEED: THE CARDS: each row of YbulkccmyFmtRows.lean that lists a variable, with what it lists TIED to the program's text (the seventh form; the later family's looks); each row that meets fmt, with fmt's text TOLD by the authors' own Lean function (tested against real Go, not proved from fmt's source: count such statements apart). THE CARD IS WHAT COUNTS. Prove the row's statement (the work); the ties are given (YbulkccmyFmtTie.lean); close each card by the builder's one call (the guide's Derived/Test/ToyasCard.lean, 'card_holds'). Laid BY PROGRAM, IN A SANDBOX (cutbox-door.mjs). By AI agents, Wed Nov 11 2026. No macro, syntax, notation, axiom, sorry.
-/
import Derived.Test.YbulkccmyFmtRows
import GoSem.ClaimSeven
namespace Go.Proofs.YbulkccmyFmt
namespace Rows

/-- THE TOLD CARD OF 'packstone.LawS3937BReader'. -/
def lawS3937BReaderCard : Claim7 := { stood := { row := lawS3937BReaderRow, standIns := [], harness := (true, "0bb3c33e6087ae15bf3985e499259c718893b3f293248f73674b4bbf962f8a40"), looks := false }, told := true, goes := false }
def LawS3937BReaderToldSaid : Prop := Claim7.holds Ybaf.pinned (.plain (OpenSpec.ofChange lawS3937BReaderSpec)) lawS3937BReaderCard
/-- ITS FALSE NEIGHBOUR. Refute it at one input. -/
def LawS3937BReaderToldWrongFalsely : Prop := Claim7.holds Ybaf.pinned (.plain (OpenSpec.ofChange lawS3937BReaderWrong)) lawS3937BReaderCard

/-- THE TOLD CARD OF 'packstone.LawS3937BMemory'. -/
def lawS3937BMemoryCard : Claim7 := { stood := { row := lawS3937BMemoryRow, standIns := [], harness := (true, "0bb3c33e6087ae15bf3985e499259c718893b3f293248f73674b4bbf962f8a40"), looks := false }, told := true, goes := false }
def LawS3937BMemoryToldSaid : Prop := Claim7.holds Ybaf.pinned (.plain (OpenSpec.ofChange lawS3937BMemorySpec)) lawS3937BMemoryCard
/-- ITS FALSE NEIGHBOUR. Refute it at one input. -/
def LawS3937BMemoryToldWrongFalsely : Prop := Claim7.holds Ybaf.pinned (.plain (OpenSpec.ofChange lawS3937BMemoryWrong)) lawS3937BMemoryCard
end Rows
end Go.Proofs.YbulkccmyFmt
