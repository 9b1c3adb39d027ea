/-
  DERIVED. GIVEN WITH THE SEED: THE CARDS: each row of YbulkceogFmtRows.lean that lists a variable, with what it lists TIED to the program's text (the seventh form; the later family's looks); each row that meets fmt, with fmt's text TOLD by the authors' own Lean function (tested against real Go, not proved from fmt's source: count such statements apart). THE CARD IS WHAT COUNTS. Prove the row's statement (the work); the ties are given (YbulkceogFmtTie.lean); close each card by the builder's one call (the guide's Derived/Test/ToyasCard.lean, 'card_holds'). Laid BY PROGRAM, IN A SANDBOX (cutbox-door.mjs). By AI agents, Wed Nov 11 2026. No macro, syntax, notation, axiom, sorry.
-/
import Derived.Test.YbulkceogFmtRows
import GoSem.ClaimSeven
namespace Go.Proofs.YbulkceogFmt
namespace Rows

/-- THE TOLD AND TIED CARD OF 'bellwether.LawS4036ABuilt'. -/
def lawS4036ABuiltCard : Claim7 := { stood := { row := lawS4036ABuiltRow, standIns := [], harness := (true, "fc29034db1428c0985f37710af707c60cc9f4dcaeea6f3865d5d52e045847169"), looks := true }, told := true, laidByText := true, laidKinds := [.sentinel], laidTests := true, laidLooks := .later, goes := false }
def LawS4036ABuiltToldSaid : Prop := Claim7.holds Ybaf.pinned (.plain (OpenSpec.ofChange lawS4036ABuiltSpec)) lawS4036ABuiltCard
/-- ITS FALSE NEIGHBOUR. Refute it at one input. -/
def LawS4036ABuiltToldWrongFalsely : Prop := Claim7.holds Ybaf.pinned (.plain (OpenSpec.ofChange lawS4036ABuiltWrong)) lawS4036ABuiltCard

/-- THE TOLD AND TIED CARD OF 'bellwether.LawS4036ARaw'. -/
def lawS4036ARawCard : Claim7 := { stood := { row := lawS4036ARawRow, standIns := [], harness := (true, "fc29034db1428c0985f37710af707c60cc9f4dcaeea6f3865d5d52e045847169"), looks := true }, told := true, laidByText := true, laidKinds := [.sentinel], laidTests := true, laidLooks := .later, goes := false }
def LawS4036ARawToldSaid : Prop := Claim7.holds Ybaf.pinned (.plain (OpenSpec.ofChange lawS4036ARawSpec)) lawS4036ARawCard
/-- ITS FALSE NEIGHBOUR. Refute it at one input. -/
def LawS4036ARawToldWrongFalsely : Prop := Claim7.holds Ybaf.pinned (.plain (OpenSpec.ofChange lawS4036ARawWrong)) lawS4036ARawCard

/-- THE TOLD AND TIED CARD OF 'bellwether.LawS4036ARoundTrip'. -/
def lawS4036ARoundTripCard : Claim7 := { stood := { row := lawS4036ARoundTripRow, standIns := [], harness := (true, "fc29034db1428c0985f37710af707c60cc9f4dcaeea6f3865d5d52e045847169"), looks := true }, told := true, laidByText := true, laidKinds := [.sentinel], laidTests := true, laidLooks := .later, goes := false }
def LawS4036ARoundTripToldSaid : Prop := Claim7.holds Ybaf.pinned (.plain (OpenSpec.ofChange lawS4036ARoundTripSpec)) lawS4036ARoundTripCard
/-- ITS FALSE NEIGHBOUR. Refute it at one input. -/
def LawS4036ARoundTripToldWrongFalsely : Prop := Claim7.holds Ybaf.pinned (.plain (OpenSpec.ofChange lawS4036ARoundTripWrong)) lawS4036ARoundTripCard
end Rows
end Go.Proofs.YbulkceogFmt
