/-
  Seat b4036aF: malformedID: fmt.Errorf over the calling stop: an error that is not nil.
-/
import Derived.Test.YbulkceogFmtKit
import Derived.Stop.CallBack
import Derived.Stop.IfaceNil
import GoSem.ClaimData
namespace Go.Proofs.YbulkceogFmt
open Go.RowKit Go.Extern.Stop Go.Stop Go.Extern

theorem Ybaf.call29 (args : Array Value) (w : World) : (callFunc 29 args).run Ybaf.prog w = (FmtCalls.errorf #[9, 83] #[30] args).run Ybaf.prog w :=
  run_callFunc_next Ybaf.func29 (by kernel_rfl) (by kernel_rfl) (by kernel_rfl) args w
theorem Ybaf.guard (name : String) (w : World) : (FmtStop.guard name).run Ybaf.prog w = .ok () w := by kernel_rfl
theorem Ybaf.nextTurns : Extern.next FmtCalls.turnsRow = some (FmtCalls.begun #[] #[]) := by kernel_rfl
def fmtText : ByteArray := { data := ([109, 97, 108, 102, 111, 114, 109, 101, 100, 32, 105, 100, 32, 37, 46, 52, 48, 113, 58, 32, 119, 97, 110, 116, 32, 56, 45, 52, 45, 52, 45, 52, 45, 49, 50, 32].append [104, 101, 120, 97, 100, 101, 99, 105, 109, 97, 108, 32, 100, 105, 103, 105, 116, 115, 32, 106, 111, 105, 110, 101, 100, 32, 98, 121, 32, 104, 121, 112, 104, 101, 110, 115]).toArray }
theorem Ybaf.fmt0 : FmtStop.printed? fmtText 1 = some [(0, 113, false)] := by kernel_rfl
theorem Ybaf.fmt0r (w : World) : (FmtDoors.printed fmtText 1).run Ybaf.prog w = .ok [(0, 113, false)] w := by kernel_rfl
def Ybaf.shape9 : List UInt8 := [12, 6, 0, 0, 0, 0, 0, 0, 0, 115, 116, 114, 105, 110, 103]
theorem Ybaf.act9_113w (name : String) (x : Value) (w : World) : (FmtCalls.act name true 113 false (.iface 9 x)).run Ybaf.prog w = .ok (.closed true) w := by kernel_rfl
theorem Ybaf.op9_113w (name : String) (x : ByteArray) (w : World) : (FmtStop.operand name true 113 false (.iface 9 (.string x))).run Ybaf.prog w = .ok (Ybaf.shape9, FmtStop.pack x.data.toList) w := by kernel_rfl
theorem Ybaf.ptr75 (w : World) : (FmtStop.ptrTo "errors.errorString").run Ybaf.prog w = .ok 75 w := by kernel_rfl
theorem Ybaf.elem75 (w : World) : (elemOf 75).run Ybaf.prog w = .ok 77 w := by kernel_rfl
attribute [local go_sem] Ybaf.call29 Ybaf.guard Ybaf.fmt0 Ybaf.fmt0r Ybaf.act9_113w Ybaf.op9_113w Ybaf.ptr75 Ybaf.elem75

set_option maxHeartbeats 800000 in
theorem errorf27 (F : Interp) (s : ByteArray) (blk : Nat) (w : World) (hF : F.answers w.tape) (hc0 : w.cell? ⟨blk, 0, none⟩ = some (.iface 9 (.string s))) :
    Calls Ybaf.prog 27 #[.string fmtText, .slice (some ⟨blk, 0, none⟩) 1 1] w fun e w' =>
      e = .returned (.iface 75 (.pointer (some ⟨w.heap.size, 0, none⟩))) ∧ Below w.heap.size w w' := by
  have hF' := answers_open hF
  go_enter Ybaf.func27, Ybaf.ntmps27
  go_wp2
  apply rows_value Ybaf.nextTurns
  case hr =>
    go_simp
    exact ⟨rfl, rfl⟩
  case h =>
    go_wp2
    go_ret
    exact ⟨rfl, ((Below.refl _ w).alloc (Nat.le_refl _) _).drew⟩

/-- What malformedID leaves: an error that is not nil. -/
def isErr (v : Value) : Prop := ∃ u x, v = .iface u x

set_option maxHeartbeats 800000 in
theorem malformed23 (F : Interp) (s : ByteArray) (w : World) (hF : F.answers w.tape) :
    Calls Ybaf.prog 23 #[.string s] w fun e w' => e = .returned (.iface 75 (.pointer (some ⟨w.heap.size + 1, 0, none⟩))) ∧ Below w.heap.size w w' := by
  go_enter Ybaf.func23, Ybaf.ntmps23
  go_wp2_with (go_at_call 27; refine (errorf27 F s w.heap.size _ (by exact hF) (by go_simp)).mono ?_; rintro e w' ⟨rfl, hb⟩)
  go_ret
  exact ⟨rfl, ((Below.refl _ w).alloc (Nat.le_refl _) _).trans (hb.mono (by simp))⟩
end Go.Proofs.YbulkceogFmt
