/-
  DERIVED. GIVEN WITH THE SEED: THE CARDS: each row of YbulkbzioDoorRows.lean that lists a variable, with what it lists TIED to the program's text (the seventh form; the later family's looks); each row that meets fmt, with fmt's text TOLD by the authors' own Lean function (tested against real Go, not proved from fmt's source: count such statements apart). THE CARD IS WHAT COUNTS. Prove the row's statement (the work); the ties are given (YbulkbzioDoorTie.lean); close each card by the builder's one call (the guide's Derived/Test/ToyasCard.lean, 'card_holds'). Laid BY PROGRAM, IN A SANDBOX (cutbox-door.mjs). By AI agents, Wed Nov 11 2026. No macro, syntax, notation, axiom, sorry.
-/
import Derived.Test.YbulkbzioDoorRows
import GoSem.ClaimSeven
namespace Go.Proofs.YbulkbzioDoor
namespace Rows

/-- THE TIED CARD OF 'enums.LawS3784AModel'. -/
def lawS3784AModelCard : Claim7 := { stood := { row := lawS3784AModelRow, standIns := [], harness := (true, "250f5bdb4bf57742571efa555b5be7abe6ddf3e08d5a7563ead4f1c6d4597299"), looks := false }, kinds := [], alts := [], laidByText := true, laidKinds := [.data, .data, .data, .data, .data, .data, .data, .data, .data, .data, .data, .data], laidTests := true, laidLooks := .later }
def LawS3784AModelCardSaid : Prop := Claim7.holds Ybad.pinned (.plain (OpenSpec.ofChange lawS3784AModelSpec)) lawS3784AModelCard

/-- THE TIED CARD OF 'enums.LawS3784AValid'. -/
def lawS3784AValidCard : Claim7 := { stood := { row := lawS3784AValidRow, standIns := [], harness := (true, "250f5bdb4bf57742571efa555b5be7abe6ddf3e08d5a7563ead4f1c6d4597299"), looks := false }, kinds := [], alts := [], laidByText := true, laidKinds := [.data, .data, .data, .data, .data, .data, .data, .data, .data, .data, .data, .data], laidTests := true, laidLooks := .later }
def LawS3784AValidCardSaid : Prop := Claim7.holds Ybad.pinned (.plain (OpenSpec.ofChange lawS3784AValidSpec)) lawS3784AValidCard

/-- THE TIED CARD OF 'enums.LawS3784CModel'. -/
def lawS3784CModelCard : Claim7 := { stood := { row := lawS3784CModelRow, standIns := [], harness := (true, "250f5bdb4bf57742571efa555b5be7abe6ddf3e08d5a7563ead4f1c6d4597299"), looks := false }, kinds := [], alts := [], laidByText := true, laidKinds := [.data, .pinned], laidTests := true, laidLooks := .later }
def LawS3784CModelCardSaid : Prop := Claim7.holds Ybad.pinned (.plain (OpenSpec.ofChange lawS3784CModelSpec)) lawS3784CModelCard

/-- THE TIED CARD OF 'enums.LawS3784CBuilt'. -/
def lawS3784CBuiltCard : Claim7 := { stood := { row := lawS3784CBuiltRow, standIns := [], harness := (true, "250f5bdb4bf57742571efa555b5be7abe6ddf3e08d5a7563ead4f1c6d4597299"), looks := false }, kinds := [], alts := [], laidByText := true, laidKinds := [.data, .pinned], laidTests := true, laidLooks := .later }
def LawS3784CBuiltCardSaid : Prop := Claim7.holds Ybad.pinned (.plain (OpenSpec.ofChange lawS3784CBuiltSpec)) lawS3784CBuiltCard
end Rows
end Go.Proofs.YbulkbzioDoor
