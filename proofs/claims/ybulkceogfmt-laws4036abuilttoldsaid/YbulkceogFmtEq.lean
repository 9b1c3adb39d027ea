/-
  Seat b4036aF: an array of bytes equals itself.
-/
import Derived.Test.YbulkceogFmtKit
import Derived.ChangeKeysEq
import Derived.Laws.StructEq
namespace Go.Proofs.YbulkceogFmt
open Go.RowKit

theorem eq_items (l : List Int) (d : Nat) (w : World) : ∀ is : List Nat, (∀ i ∈ is, i < l.length) → (Op.eqItems (d + 1) 5 1 (av l) (av l) is).run Ybaf.prog w = .ok true w
  | [], _ => by simp [Op.eqItems]
  | i :: is, h => by
    have hp : (part 5 (av l) (i * 1)).run Ybaf.prog w = .ok (.int .u8 (l.getD i 0)) w := run_part_plain w (by kernel_rfl) (by rw [Nat.mul_one]; exact av_at l i (h i (by simp)))
    have hq : (Op.equalIn (d + 1) 5 (.int .u8 (l.getD i 0)) (.int .u8 (l.getD i 0))).run Ybaf.prog w = .ok true w := by
      rw [run_equalIn_int w d 5 .u8 .u8 _ _ Ybaf.underlying5]; simp
    simp only [Op.eqItems, Sem.run_bind, hp, hq, Result.andThen_ok, Bool.not_true, Bool.false_eq_true, if_false]
    exact eq_items l d w is (fun j hj => h j (by simp [hj]))

theorem cells5 : Ybaf.prog.cellsOf 5 = 1 := by kernel_rfl
theorem eq_self (l : List Int) (h : l.length = 16) (w : World) : (Op.equalIn 10000 26 (.agg (av l)) (.agg (av l))).run Ybaf.prog w = .ok true w := by
  obtain ⟨i, hi⟩ := info_of_underlying Ybaf.underlying5
  rw [show (10000 : Nat) = 9999 + 1 from rfl, run_equalIn_array w 9999 _ _ Ybaf.underlying26 hi, cells5]
  exact eq_items l 9998 w _ (fun i hi => by rw [h]; simpa using hi)
theorem eql_self (l : List Int) (h : l.length = 16) (w : World) : (binOp .eql 26 (.agg (av l)) (.agg (av l))).run Ybaf.prog w = .ok (.bool true) w := by
  rw [run_eql_struct, eq_self l h w]; rfl
theorem neq_self (l : List Int) (h : l.length = 16) (w : World) : (binOp .neq 26 (.agg (av l)) (.agg (av l))).run Ybaf.prog w = .ok (.bool false) w := by
  rw [run_neq_struct, eq_self l h w]; rfl
theorem noGuard26 : Ybaf.prog.eqGuardType Ybaf.prog.depth 26 = false := by kernel_rfl
end Go.Proofs.YbulkceogFmt
