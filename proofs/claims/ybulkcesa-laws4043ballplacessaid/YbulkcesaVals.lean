/-
  Seat b4043a: a slice of int32 that came in; vals0 by its contract.
-/
import Derived.Test.YbulkcesaProg
import Derived.WalkKit
import Derived.WalkSpells
import Derived.WalkLawsBesides
import Derived.Deep.OwnRows
import Derived.Laws.Rows
namespace Go.Proofs.Ybulkcesa
open Go.RowKit

/-- The slice's elements are V 0 .. V (len - 1); V is nought behind them. -/
structure Vals (w : World) (a : Option Addr) (len : Nat) (V : Nat → Int) : Prop where
  rd : ∀ j, j < len → ∃ b off, a = some ⟨b, off, none⟩ ∧ w.cell? ⟨b, off + j, none⟩ = some (.int .i32 (V j))
  out : ∀ j, len ≤ j → V j = 0
  bd : ∀ j, -2147483648 ≤ V j ∧ V j ≤ 2147483647

theorem Vals.below {w w' : World} {a : Option Addr} {len : Nat} {V : Nat → Int} (h : Vals w a len V) (hb : Below w.heap.size w w') : Vals w' a len V :=
  ⟨fun j hj => by
    obtain ⟨b, off, e, hc⟩ := h.rd j hj
    exact ⟨b, off, e, (hb.cell (World.block_lt_of_cell? w _ hc)).trans hc⟩, h.out, h.bd⟩

set_option maxHeartbeats 400000 in
theorem vals0_8 (a : Option Addr) (len cap : Nat) (V : Nat → Int) (j : Nat) (w : World) (h : Vals w a len V) :
    Calls Yba.prog 8 #[.slice a len cap, .int .i64 j] w fun e w' => e = .returned (.int .i32 (V j)) ∧ w' = w := by
  by_cases hj : j < len
  · obtain ⟨b, off, rfl, hc⟩ := h.rd j hj
    clear h
    go_enter Yba.func8, Yba.ntmps8
    go_wp2
    go_ret
    exact ⟨rfl, rfl⟩
  · have e := h.out j (by omega)
    rw [e]
    clear h e
    go_enter Yba.func8, Yba.ntmps8
    go_wp2
    go_ret
    exact ⟨rfl, rfl⟩
end Go.Proofs.Ybulkcesa
