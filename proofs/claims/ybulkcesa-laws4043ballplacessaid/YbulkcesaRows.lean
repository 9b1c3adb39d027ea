/-
  No cell of these rows narrows 'for every input' (looked for: loops, veiled, ifaces, maps, wideKeys, modest, calm, conditions, laid).
  DERIVED. THE GIVEN ROWS OF THIS SEAT. 5 by the template 'for every input the law returns true; each argument reads behind the call as it read before'; 0 by the template 'total and deterministic' (their statements: YbulkcesaTotals.lean).
  GIVEN WITH THE SEED: the statements are not yours to turn. If you find one false, say at which input.
  Laid BY PROGRAM, IN A SANDBOX (cutbox-rows.mjs): the forced cells as the released guide's own fill.sh prints them over the translation ad8b60a203920471… (all of the seat's roots in one cut). By AI agents, Wed Nov 11 2026. No macro, syntax, notation, axiom, sorry.
-/
import Derived.Test.YbulkcesaChecked
import GoSem.Claim
import GoSem.ClaimJoined
import GoSem.ClaimMapViews
import Derived.JoinedTies
import Derived.KernelRfl
namespace Go.Proofs.Ybulkcesa
/- THE CELL 'sum', in the pinned program and in every row, IS THE sha256 OF THE DUMP (.gsa) THAT YbulkcesaProg.lean LOADS. Nothing in Lean hashes anything: it is a label: what it is worth is what the hold of that sum in a sandbox is worth. -/
noncomputable def Yba.pinned : Pinned := { name := "ybulkcesa", sum := "ad8b60a2039204715590f957b806aade9715d3405e3fc166bcd9acb73a13b14d", checked := Yba.checked }
namespace Rows
def none {H : Type} : Left H := { results := [], args := [] }

/-- 'snakepath.LawS4043AModel': WHATEVER THE INPUT: true; the input reads as it did. -/
def lawS4043AModelSpec : ChangeSpec := { name := "lawS4043AModel", fn := fun _ => fun
  | [d1, d2, d3, d4, d5, d6, d7] => { results := [.lit (.bool true)], args := [d1, d2, d3, d4, d5, d6, d7] }
  | _ => none }
def lawS4043AModelRow : OpenClaim := { program := "ybulkcesa", sum := "ad8b60a2039204715590f957b806aade9715d3405e3fc166bcd9acb73a13b14d", func := "example.com/snakepath/snakepath.LawS4043AModel", spec := "lawS4043AModel", apart := false }
def LawS4043AModelSaid : Prop := lawS4043AModelRow.holds Yba.pinned (OpenSpec.ofChange lawS4043AModelSpec)

/-- ITS FALSE NEIGHBOUR: 'it returns false'. Refute it at one input. -/
def lawS4043AModelWrong : ChangeSpec := { name := "lawS4043AModel", fn := fun _ => fun
  | [d1, d2, d3, d4, d5, d6, d7] => { results := [.lit (.bool false)], args := [d1, d2, d3, d4, d5, d6, d7] }
  | _ => none }
def LawS4043AModelWrongFalsely : Prop := lawS4043AModelRow.holds Yba.pinned (OpenSpec.ofChange lawS4043AModelWrong)

/-- 'snakepath.LawS4043BModel': WHATEVER THE INPUT: true; the input reads as it did. -/
def lawS4043BModelSpec : ChangeSpec := { name := "lawS4043BModel", fn := fun _ => fun
  | [d1, d2] => { results := [.lit (.bool true)], args := [d1, d2] }
  | _ => none }
def lawS4043BModelRow : OpenClaim := { program := "ybulkcesa", sum := "ad8b60a2039204715590f957b806aade9715d3405e3fc166bcd9acb73a13b14d", func := "example.com/snakepath/snakepath.LawS4043BModel", spec := "lawS4043BModel", apart := false }
def LawS4043BModelSaid : Prop := lawS4043BModelRow.holds Yba.pinned (OpenSpec.ofChange lawS4043BModelSpec)

/-- ITS FALSE NEIGHBOUR: 'it returns false'. Refute it at one input. -/
def lawS4043BModelWrong : ChangeSpec := { name := "lawS4043BModel", fn := fun _ => fun
  | [d1, d2] => { results := [.lit (.bool false)], args := [d1, d2] }
  | _ => none }
def LawS4043BModelWrongFalsely : Prop := lawS4043BModelRow.holds Yba.pinned (OpenSpec.ofChange lawS4043BModelWrong)

/-- 'snakepath.LawS4043BAllPlaces': WHATEVER THE INPUT: true; the input reads as it did. -/
def lawS4043BAllPlacesSpec : ChangeSpec := { name := "lawS4043BAllPlaces", fn := fun _ => fun
  | [d] => { results := [.lit (.bool true)], args := [d] }
  | _ => none }
def lawS4043BAllPlacesRow : OpenClaim := { program := "ybulkcesa", sum := "ad8b60a2039204715590f957b806aade9715d3405e3fc166bcd9acb73a13b14d", func := "example.com/snakepath/snakepath.LawS4043BAllPlaces", spec := "lawS4043BAllPlaces", apart := false }
def LawS4043BAllPlacesSaid : Prop := lawS4043BAllPlacesRow.holds Yba.pinned (OpenSpec.ofChange lawS4043BAllPlacesSpec)

/-- ITS FALSE NEIGHBOUR: 'it returns false'. Refute it at one input. -/
def lawS4043BAllPlacesWrong : ChangeSpec := { name := "lawS4043BAllPlaces", fn := fun _ => fun
  | [d] => { results := [.lit (.bool false)], args := [d] }
  | _ => none }
def LawS4043BAllPlacesWrongFalsely : Prop := lawS4043BAllPlacesRow.holds Yba.pinned (OpenSpec.ofChange lawS4043BAllPlacesWrong)

/-- 'snakepath.LawS4043CKeepsScript': WHATEVER THE INPUT: true; the input reads as it did. -/
def lawS4043CKeepsScriptSpec : ChangeSpec := { name := "lawS4043CKeepsScript", fn := fun _ => fun
  | [d] => { results := [.lit (.bool true)], args := [d] }
  | _ => none }
def lawS4043CKeepsScriptRow : OpenClaim := { program := "ybulkcesa", sum := "ad8b60a2039204715590f957b806aade9715d3405e3fc166bcd9acb73a13b14d", func := "example.com/snakepath/snakepath.LawS4043CKeepsScript", spec := "lawS4043CKeepsScript", unfollowed := true, recurses := true, apart := false }
def LawS4043CKeepsScriptSaid : Prop := lawS4043CKeepsScriptRow.holds Yba.pinned (OpenSpec.ofChange lawS4043CKeepsScriptSpec)

/-- ITS FALSE NEIGHBOUR: 'it returns false'. Refute it at one input. -/
def lawS4043CKeepsScriptWrong : ChangeSpec := { name := "lawS4043CKeepsScript", fn := fun _ => fun
  | [d] => { results := [.lit (.bool false)], args := [d] }
  | _ => none }
def LawS4043CKeepsScriptWrongFalsely : Prop := lawS4043CKeepsScriptRow.holds Yba.pinned (OpenSpec.ofChange lawS4043CKeepsScriptWrong)

/-- 'snakepath.LawS4043CDistinctStays': WHATEVER THE INPUT: true; the input reads as it did. -/
def lawS4043CDistinctStaysSpec : ChangeSpec := { name := "lawS4043CDistinctStays", fn := fun _ => fun
  | [d] => { results := [.lit (.bool true)], args := [d] }
  | _ => none }
def lawS4043CDistinctStaysRow : OpenClaim := { program := "ybulkcesa", sum := "ad8b60a2039204715590f957b806aade9715d3405e3fc166bcd9acb73a13b14d", func := "example.com/snakepath/snakepath.LawS4043CDistinctStays", spec := "lawS4043CDistinctStays", unfollowed := true, recurses := true, apart := false }
def LawS4043CDistinctStaysSaid : Prop := lawS4043CDistinctStaysRow.holds Yba.pinned (OpenSpec.ofChange lawS4043CDistinctStaysSpec)

/-- ITS FALSE NEIGHBOUR: 'it returns false'. Refute it at one input. -/
def lawS4043CDistinctStaysWrong : ChangeSpec := { name := "lawS4043CDistinctStays", fn := fun _ => fun
  | [d] => { results := [.lit (.bool false)], args := [d] }
  | _ => none }
def LawS4043CDistinctStaysWrongFalsely : Prop := lawS4043CDistinctStaysRow.holds Yba.pinned (OpenSpec.ofChange lawS4043CDistinctStaysWrong)

end Rows
end Go.Proofs.Ybulkcesa
