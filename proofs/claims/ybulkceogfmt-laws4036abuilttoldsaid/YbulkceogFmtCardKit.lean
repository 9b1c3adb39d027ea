/-
  Seat b4036aF: what the three cards share: a start that meets what the rows list; closed facts of the program.
-/
import Derived.Test.YbulkceogFmtCards
import Derived.Test.YbulkceogFmtTie
import Derived.Test.YbulkceogFmtErr
import Derived.Test.YbulkceogFmtOpen
import Derived.Stop.JoinedAt
import Derived.Stop.JoinedTold
import Derived.LaidLaws
import Derived.SevenTiedAt
namespace Go.Proofs.YbulkceogFmt
open Go.ChangeShapes Go.WideShapes Go.ChangeAt Go.RowKit Go.Kit
open Go.Extern.Stop Go.Stop Go.Extern

theorem own : ownKnob Ybaf.prog.godebug = none := by kernel_rfl
theorem laidOut : laidOutB Ybaf.prog = true := by kernel_rfl
def errLenS : ByteArray := { data := #[101, 110, 99, 111, 100, 105, 110, 103, 47, 104, 101, 120, 58, 32, 111, 100, 100, 32, 108, 101, 110, 103, 116, 104, 32, 104, 101, 120, 32, 115, 116, 114, 105, 110, 103] }
theorem laid_met (os : Os) (args : Array Value) : laidMet Ybaf.prog Rows.lawS4036ARawRow.laid
    ((({ World.holding Ybaf.prog os ⟨#[.cells #[.string errLenS] 77], #[], []⟩ with heap := (World.holding Ybaf.prog os ⟨#[.cells #[.string errLenS] 77], #[], []⟩).heap.modify 0 fun
      | .cells _ t frozen => .cells #[.iface 75 (.pointer (some ⟨(World.holding Ybaf.prog default ⟨#[], #[], []⟩).heap.size, 0, none⟩))] t frozen
      | o => o } : World)).forCall (fun _ _ => 0) ⟨#[], args, []⟩).memory :=
  laidMet_of_run (ps := [.cell 0 0, .cell (World.holding Ybaf.prog default ⟨#[], #[], []⟩).heap.size 0]) 8 (by kernel_rfl) (by kernel_rfl) (by kernel_rfl)
theorem pinnedLaidOut : laidOutB Ybaf.pinned.checked.prog = true := by kernel_rfl
theorem pinnedStops : Ybaf.pinned.checked.prog.stops = Rows.lawS4036ARawRow.stops := by kernel_rfl
theorem pinnedKnobs : Ybaf.pinned.checked.prog.stopKnobs = [] := by kernel_rfl
theorem pinnedQuiet (os : Os) : Stop.quiet Ybaf.pinned.checked.prog os := by
  intro k hk
  rw [pinnedKnobs] at hk
  cases hk

end Go.Proofs.YbulkceogFmt
