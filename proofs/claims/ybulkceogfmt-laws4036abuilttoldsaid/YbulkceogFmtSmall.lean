/-
  Seat b4036aF: the small functions, each by its contract.
-/
import Derived.Test.YbulkceogFmtProg
import Derived.Test.YbulkceogFmtPure
import Derived.WalkKit
import Derived.WalkSpells
namespace Go.Proofs.YbulkceogFmt
open Go.RowKit

theorem ret_bool {p q : Bool} (h : p = q) : Ending.returned (.bool p) = .returned (.bool q) := by rw [h]
theorem hyB_int (i : Nat) : ((i : Int) == 8 || (i : Int) == 13 || (i : Int) == 18 || (i : Int) == 23) = hyB i := by
  unfold hyB; rw [Bool.eq_iff_iff]; simp; omega

set_option maxHeartbeats 400000 in
theorem ishyphen16 (i : Nat) (w : World) : Calls Ybaf.prog 16 #[.int .i64 i] w fun e w' => e = .returned (.bool (hyB i)) ∧ w' = w := by
  rw [← hyB_int]
  go_enter Ybaf.func16, Ybaf.ntmps16
  go_wp2
  all_goals (go_ret; exact ⟨ret_bool (by simp_all), rfl⟩)

set_option maxHeartbeats 400000 in
theorem ishyphen24 (i : Nat) (w : World) : Calls Ybaf.prog 24 #[.int .i64 i] w fun e w' => e = .returned (.bool (hyB i)) ∧ w' = w := by
  rw [← hyB_int]
  go_enter Ybaf.func24, Ybaf.ntmps24
  go_wp2
  all_goals (go_ret; exact ⟨ret_bool (by simp_all), rfl⟩)

theorem ret2 {a b : Int} {p q : Bool} (h : a = b) (g : p = q) : Ending.returned (.tuple #[.int .u8 a, .bool p]) = .returned (.tuple #[.int .u8 b, .bool q]) := by rw [h, g]

set_option maxHeartbeats 400000 in
theorem hex17 (c : Int) (w : World) (h0 : 0 ≤ c) (h1 : c ≤ 255) : Calls Ybaf.prog 17 #[.int .u8 c] w fun e w' => e = .returned (.tuple #[.int .u8 (hexN c), .bool (hexB c)]) ∧ w' = w := by
  rcases (show (48 ≤ c ∧ c ≤ 57) ∨ (97 ≤ c ∧ c ≤ 102) ∨ (65 ≤ c ∧ c ≤ 70) ∨ c < 48 ∨ (57 < c ∧ c < 65) ∨ (70 < c ∧ c < 97) ∨ 102 < c by omega) with h | h | h | h | h | h | h
  all_goals
    go_enter Ybaf.func17, Ybaf.ntmps17
    go_wp2
    go_ret2
    exact ⟨ret2 (by unfold hexN; repeat' split
                    all_goals omega) (by unfold hexB; simp; omega), rfl⟩
end Go.Proofs.YbulkceogFmt
