/-
  NARROWER THAN 'FOR EVERY INPUT', by the rows' own cells (each row's printed sentence says how): LawS4036ABuilt: laid · LawS4036ARaw: laid · LawS4036ARoundTrip: laid.
  DERIVED. THE GIVEN ROWS OF THIS SEAT. 3 by the template 'for every input the law returns true; each argument reads behind the call as it read before'; 0 by the template 'total and deterministic' (their statements: YbulkceogFmtTotals.lean).
  GIVEN WITH THE SEED: the statements are not yours to turn. If you find one false, say at which input.
  Laid BY PROGRAM, IN A SANDBOX (cutbox-rows.mjs): the forced cells as the released guide's own fill.sh prints them over the translation 33748fefea6eb333… (all of the seat's roots in one cut). By AI agents, Wed Nov 11 2026. No macro, syntax, notation, axiom, sorry.
-/
import Derived.Test.YbulkceogFmtChecked
import GoSem.Claim
import GoSem.ClaimJoined
import GoSem.ClaimMapViews
import Derived.JoinedTies
import Derived.KernelRfl
namespace Go.Proofs.YbulkceogFmt
/- THE CELL 'sum', in the pinned program and in every row, IS THE sha256 OF THE DUMP (.gsa) THAT YbulkceogFmtProg.lean LOADS. Nothing in Lean hashes anything: it is a label: what it is worth is what the hold of that sum in a sandbox is worth. -/
noncomputable def Ybaf.pinned : Pinned := { name := "ybulkceogfmt", sum := "33748fefea6eb3335f485ebc02ce57926595e7f235d0dbe4543e4946df6b5f07", checked := Ybaf.checked }
namespace Rows
def none {H : Type} : Left H := { results := [], args := [] }

/- WHAT THE LISTED PACKAGE-LEVEL VARIABLES READ AS WHEN THE CALL BEGINS. Each datum BY PROGRAM (the guide's laid-datum.mjs) off the statement by which the dump's own 'gosem.cut.vars' lays the variable. In a bare row this is a premise. The card (YbulkceogFmtCards.lean) ties it to the program's text. -/
def laid_encoding_hex_ErrLength {H : Type} : DataW H := .iface "*errors.errorString" (.ptr (.agg [.lit (.string [101, 110, 99, 111, 100, 105, 110, 103, 47, 104, 101, 120, 58, 32, 111, 100, 100, 32, 108, 101, 110, 103, 116, 104, 32, 104, 101, 120, 32, 115, 116, 114, 105, 110, 103])]))

/-- 'bellwether.LawS4036ABuilt': WHATEVER THE INPUT: true; the input reads as it did. -/
def lawS4036ABuiltSpec : ChangeSpec := { name := "lawS4036ABuilt", fn := fun _ => fun
  | [d1, d2, d3, d4, d5, d6] => { results := [.lit (.bool true)], args := [d1, d2, d3, d4, d5, d6] }
  | _ => none }
def lawS4036ABuiltRow : OpenClaim := { program := "ybulkceogfmt", sum := "33748fefea6eb3335f485ebc02ce57926595e7f235d0dbe4543e4946df6b5f07", func := "example.com/bellwether/bellwether.LawS4036ABuilt", spec := "lawS4036ABuilt", stops := ["fmt.errorf, its operands' methods called", "fmt.Sprintf"], inPlace := ["fmt.errorf"], unfollowed := true, recurses := true, named := ["encoding/hex.ErrLength"], plainKeys := false, apart := false, laid := [("encoding/hex.ErrLength", laid_encoding_hex_ErrLength)] }
/-- NO THEOREM (fmt's text is open here; it may be false): for the released tool's asking of the row's closed facts alone. THE STATEMENT IS 'LawS4036ABuiltToldSaid' (YbulkceogFmtCards.lean). -/
def LawS4036ABuiltFormAsk : Prop := lawS4036ABuiltRow.holds Ybaf.pinned (OpenSpec.ofChange lawS4036ABuiltSpec)

/-- ITS FALSE NEIGHBOUR: 'it returns false'. Refute it at one input. -/
def lawS4036ABuiltWrong : ChangeSpec := { name := "lawS4036ABuilt", fn := fun _ => fun
  | [d1, d2, d3, d4, d5, d6] => { results := [.lit (.bool false)], args := [d1, d2, d3, d4, d5, d6] }
  | _ => none }
def LawS4036ABuiltWrongFormAsk : Prop := lawS4036ABuiltRow.holds Ybaf.pinned (OpenSpec.ofChange lawS4036ABuiltWrong)

/-- 'bellwether.LawS4036ARaw': WHATEVER THE INPUT: true; the input reads as it did. -/
def lawS4036ARawSpec : ChangeSpec := { name := "lawS4036ARaw", fn := fun _ => fun
  | [d1, d2] => { results := [.lit (.bool true)], args := [d1, d2] }
  | _ => none }
def lawS4036ARawRow : OpenClaim := { program := "ybulkceogfmt", sum := "33748fefea6eb3335f485ebc02ce57926595e7f235d0dbe4543e4946df6b5f07", func := "example.com/bellwether/bellwether.LawS4036ARaw", spec := "lawS4036ARaw", stops := ["fmt.errorf, its operands' methods called", "fmt.Sprintf"], inPlace := ["fmt.errorf"], unfollowed := true, recurses := true, named := ["encoding/hex.ErrLength"], plainKeys := false, apart := false, laid := [("encoding/hex.ErrLength", laid_encoding_hex_ErrLength)] }
/-- NO THEOREM (fmt's text is open here; it may be false): for the released tool's asking of the row's closed facts alone. THE STATEMENT IS 'LawS4036ARawToldSaid' (YbulkceogFmtCards.lean). -/
def LawS4036ARawFormAsk : Prop := lawS4036ARawRow.holds Ybaf.pinned (OpenSpec.ofChange lawS4036ARawSpec)

/-- ITS FALSE NEIGHBOUR: 'it returns false'. Refute it at one input. -/
def lawS4036ARawWrong : ChangeSpec := { name := "lawS4036ARaw", fn := fun _ => fun
  | [d1, d2] => { results := [.lit (.bool false)], args := [d1, d2] }
  | _ => none }
def LawS4036ARawWrongFormAsk : Prop := lawS4036ARawRow.holds Ybaf.pinned (OpenSpec.ofChange lawS4036ARawWrong)

/-- 'bellwether.LawS4036ARoundTrip': WHATEVER THE INPUT: true; the input reads as it did. -/
def lawS4036ARoundTripSpec : ChangeSpec := { name := "lawS4036ARoundTrip", fn := fun _ => fun
  | [d1, d2] => { results := [.lit (.bool true)], args := [d1, d2] }
  | _ => none }
def lawS4036ARoundTripRow : OpenClaim := { program := "ybulkceogfmt", sum := "33748fefea6eb3335f485ebc02ce57926595e7f235d0dbe4543e4946df6b5f07", func := "example.com/bellwether/bellwether.LawS4036ARoundTrip", spec := "lawS4036ARoundTrip", stops := ["fmt.errorf, its operands' methods called", "fmt.Sprintf"], inPlace := ["fmt.errorf"], unfollowed := true, recurses := true, named := ["encoding/hex.ErrLength"], plainKeys := false, apart := false, laid := [("encoding/hex.ErrLength", laid_encoding_hex_ErrLength)] }
/-- NO THEOREM (fmt's text is open here; it may be false): for the released tool's asking of the row's closed facts alone. THE STATEMENT IS 'LawS4036ARoundTripToldSaid' (YbulkceogFmtCards.lean). -/
def LawS4036ARoundTripFormAsk : Prop := lawS4036ARoundTripRow.holds Ybaf.pinned (OpenSpec.ofChange lawS4036ARoundTripSpec)

/-- ITS FALSE NEIGHBOUR: 'it returns false'. Refute it at one input. -/
def lawS4036ARoundTripWrong : ChangeSpec := { name := "lawS4036ARoundTrip", fn := fun _ => fun
  | [d1, d2] => { results := [.lit (.bool false)], args := [d1, d2] }
  | _ => none }
def LawS4036ARoundTripWrongFormAsk : Prop := lawS4036ARoundTripRow.holds Ybaf.pinned (OpenSpec.ofChange lawS4036ARoundTripWrong)

end Rows
end Go.Proofs.YbulkceogFmt
