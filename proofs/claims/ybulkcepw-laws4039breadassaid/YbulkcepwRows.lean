/-
  No cell of these rows narrows 'for every input' (looked for: loops, veiled, ifaces, maps, wideKeys, modest, calm, conditions, laid).
  DERIVED. THE GIVEN ROWS OF THIS SEAT. 2 by the template 'for every input the law returns true; each argument reads behind the call as it read before'; 0 by the template 'total and deterministic' (their statements: YbulkcepwTotals.lean).
  GIVEN WITH THE SEED: the statements are not yours to turn. If you find one false, say at which input.
  Laid BY PROGRAM, IN A SANDBOX (cutbox-rows.mjs): the forced cells as the released guide's own fill.sh prints them over the translation 836f319906fb4bdb… (all of the seat's roots in one cut). By AI agents, Wed Nov 11 2026. No macro, syntax, notation, axiom, sorry.
-/
import Derived.Test.YbulkcepwChecked
import GoSem.Claim
import GoSem.ClaimJoined
import GoSem.ClaimMapViews
import Derived.JoinedTies
import Derived.KernelRfl
namespace Go.Proofs.Ybulkcepw
/- THE CELL 'sum', in the pinned program and in every row, IS THE sha256 OF THE DUMP (.gsa) THAT YbulkcepwProg.lean LOADS. Nothing in Lean hashes anything: it is a label: what it is worth is what the hold of that sum in a sandbox is worth. -/
noncomputable def Yba.pinned : Pinned := { name := "ybulkcepw", sum := "836f319906fb4bdb1cad4be926fcdc57f1eed6cbbecee1b97f0124b9252b5891", checked := Yba.checked }
namespace Rows
def none {H : Type} : Left H := { results := [], args := [] }

/-- 'valex.LawS4039BModel': WHATEVER THE INPUT: true; the input reads as it did. -/
def lawS4039BModelSpec : ChangeSpec := { name := "lawS4039BModel", fn := fun _ => fun
  | [d] => { results := [.lit (.bool true)], args := [d] }
  | _ => none }
def lawS4039BModelRow : OpenClaim := { program := "ybulkcepw", sum := "836f319906fb4bdb1cad4be926fcdc57f1eed6cbbecee1b97f0124b9252b5891", func := "example.com/valex/valex.LawS4039BModel", spec := "lawS4039BModel", apart := false }
def LawS4039BModelSaid : Prop := lawS4039BModelRow.holds Yba.pinned (OpenSpec.ofChange lawS4039BModelSpec)

/-- ITS FALSE NEIGHBOUR: 'it returns false'. Refute it at one input. -/
def lawS4039BModelWrong : ChangeSpec := { name := "lawS4039BModel", fn := fun _ => fun
  | [d] => { results := [.lit (.bool false)], args := [d] }
  | _ => none }
def LawS4039BModelWrongFalsely : Prop := lawS4039BModelRow.holds Yba.pinned (OpenSpec.ofChange lawS4039BModelWrong)

/-- 'valex.LawS4039BReadAs': WHATEVER THE INPUT: true; the input reads as it did. -/
def lawS4039BReadAsSpec : ChangeSpec := { name := "lawS4039BReadAs", fn := fun _ => fun
  | [d] => { results := [.lit (.bool true)], args := [d] }
  | _ => none }
def lawS4039BReadAsRow : OpenClaim := { program := "ybulkcepw", sum := "836f319906fb4bdb1cad4be926fcdc57f1eed6cbbecee1b97f0124b9252b5891", func := "example.com/valex/valex.LawS4039BReadAs", spec := "lawS4039BReadAs", apart := false }
def LawS4039BReadAsSaid : Prop := lawS4039BReadAsRow.holds Yba.pinned (OpenSpec.ofChange lawS4039BReadAsSpec)

/-- ITS FALSE NEIGHBOUR: 'it returns false'. Refute it at one input. -/
def lawS4039BReadAsWrong : ChangeSpec := { name := "lawS4039BReadAs", fn := fun _ => fun
  | [d] => { results := [.lit (.bool false)], args := [d] }
  | _ => none }
def LawS4039BReadAsWrongFalsely : Prop := lawS4039BReadAsRow.holds Yba.pinned (OpenSpec.ofChange lawS4039BReadAsWrong)

end Rows
end Go.Proofs.Ybulkcepw
