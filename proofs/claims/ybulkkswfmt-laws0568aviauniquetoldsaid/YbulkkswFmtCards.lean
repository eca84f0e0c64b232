/-
  DERIVED. GIVEN WITH THE SEED: THE CARDS: each row of YbulkkswFmtRows.lean that lists a variable, with what it lists TIED to the program's text (the seventh form; the later family's looks); each row that meets fmt, with fmt's text TOLD by the authors' own Lean function (tested against real Go, not proved from fmt's source: count such statements apart). THE CARD IS WHAT COUNTS. Prove the row's statement (the work); the ties are given (YbulkkswFmtTie.lean); close each card by the builder's one call (the guide's Derived/Test/ToyasCard.lean, 'card_holds'). Laid BY PROGRAM, IN A SANDBOX (cutbox-door.mjs). By AI agents, Wed Nov 11 2026. No macro, syntax, notation, axiom, sorry.
-/
import Derived.Test.YbulkkswFmtRows
import GoSem.ClaimSeven
namespace Go.Proofs.YbulkkswFmt
namespace Rows

/-- THE TOLD CARD OF 'lines.LawS0568AViaUnique'. -/
def lawS0568AViaUniqueCard : Claim7 := { stood := { row := lawS0568AViaUniqueRow, standIns := [], harness := (true, "9912e93954578af5cc16dd9a0f84d128b2658a31f76792a8489438bcd1eb0355"), looks := true }, told := true, goes := false }
def LawS0568AViaUniqueToldSaid : Prop := Claim7.holds Ybaf.pinned (.plain (OpenSpec.ofChange lawS0568AViaUniqueSpec)) lawS0568AViaUniqueCard
/-- ITS FALSE NEIGHBOUR. Refute it at one input. -/
def LawS0568AViaUniqueToldWrongFalsely : Prop := Claim7.holds Ybaf.pinned (.plain (OpenSpec.ofChange lawS0568AViaUniqueWrong)) lawS0568AViaUniqueCard

/-- THE TOLD AND TIED CARD OF 'staged.LawS0568BRoundTrip'. -/
def lawS0568BRoundTripCard : Claim7 := { stood := { row := lawS0568BRoundTripRow, standIns := [], harness := (true, "9912e93954578af5cc16dd9a0f84d128b2658a31f76792a8489438bcd1eb0355"), looks := true }, told := true, laidByText := true, laidKinds := [.data, .data, .data, .data, .sentinel, .sentinel, .pinned], laidTests := true, laidLooks := .later, goes := false }
def LawS0568BRoundTripToldSaid : Prop := Claim7.holds Ybaf.pinned (.plain (OpenSpec.ofChange lawS0568BRoundTripSpec)) lawS0568BRoundTripCard
/-- ITS FALSE NEIGHBOUR. Refute it at one input. -/
def LawS0568BRoundTripToldWrongFalsely : Prop := Claim7.holds Ybaf.pinned (.plain (OpenSpec.ofChange lawS0568BRoundTripWrong)) lawS0568BRoundTripCard

/-- THE TOLD AND TIED CARD OF 'staged.LawS0568BInvariant'. -/
def lawS0568BInvariantCard : Claim7 := { stood := { row := lawS0568BInvariantRow, standIns := [], harness := (true, "9912e93954578af5cc16dd9a0f84d128b2658a31f76792a8489438bcd1eb0355"), looks := true }, told := true, laidByText := true, laidKinds := [.data, .data, .data, .data, .sentinel, .sentinel, .pinned], laidTests := true, laidLooks := .later, goes := false }
def LawS0568BInvariantToldSaid : Prop := Claim7.holds Ybaf.pinned (.plain (OpenSpec.ofChange lawS0568BInvariantSpec)) lawS0568BInvariantCard
/-- ITS FALSE NEIGHBOUR. Refute it at one input. -/
def LawS0568BInvariantToldWrongFalsely : Prop := Claim7.holds Ybaf.pinned (.plain (OpenSpec.ofChange lawS0568BInvariantWrong)) lawS0568BInvariantCard
end Rows
end Go.Proofs.YbulkkswFmt
