/-
  Seat b4043a: backwardSnake by its contract.
-/
import Derived.Test.YbulkcesaVals
import Derived.Deep.QuietTactic
import Derived.BigQuiet
import Derived.WalkSmall
namespace Go.Proofs.Ybulkcesa
open Go.RowKit

/-- A snake that does not step first. -/
def snakeV (x0 y0 x1 y1 : Int) : Value := .agg #[.int .i64 x0, .int .i64 y0, .int .i64 x1, .int .i64 y1, .bool false]
theorem below_five {B g : Nat} {w0 w : World} (h : Below B w0 w) (hg : B ≤ g) (a b c d e : Value) : Below B w0 (((((w.setCell ⟨g, 0, none⟩ a).setCell ⟨g, 1, none⟩ b).setCell ⟨g, 2, none⟩ c).setCell ⟨g, 3, none⟩ d).setCell ⟨g, 4, none⟩ e) :=
  ((((h.setCell (p := ⟨g, 0, none⟩) hg a).setCell (p := ⟨g, 1, none⟩) hg b).setCell (p := ⟨g, 2, none⟩) hg c).setCell (p := ⟨g, 3, none⟩) hg d).setCell (p := ⟨g, 4, none⟩) hg e

set_option maxHeartbeats 800000 in
theorem snake9_zero_a (sb B m i : Nat) (z c left top delta y up lf : Int) (w : World) (s5 : w.cell? ⟨sb, 5, none⟩ = some (.slice (some ⟨B, 0, none⟩) m m)) (s6 : w.cell? ⟨sb, 6, none⟩ = some (.int .i64 z))
    (_hm : m ≤ 1024) (_hi : i + 2 < m) (_hz0 : 0 ≤ z) (_hz1 : z ≤ 512) (_hc0 : -1024 ≤ c) (_hc1 : c ≤ 1024) (_hzc : z + c = (i : Int) + 1)
    (cu : w.cell? ⟨B, i, none⟩ = some (.int .i64 up)) (cl : w.cell? ⟨B, i + 2, none⟩ = some (.int .i64 lf)) (_hu : -2147483648 ≤ up ∧ up ≤ 2147483647) (_hl : -2147483648 ≤ lf ∧ lf ≤ 2147483647) (_hlt : up - 1 < lf) :
    Calls Yba.prog 9 #[.pointer (some ⟨sb, 0, none⟩), .int .i64 left, .int .i64 top, .int .i64 0, .int .i64 c, .int .i64 delta, .int .i64 y] w fun e w' =>
      e = .returned (snakeV (wrap64 (wrap64 (wrap64 (left + y) + c) + delta)) (wrap64 (top + y)) (wrap64 (left + wrap64 (up - 1 + c + delta))) (wrap64 (top + (up - 1)))) ∧ Below w.heap.size w w' := by
  have hb : sb < w.heap.size := World.block_lt_of_cell? w ⟨sb, 5, none⟩ s5
  have hB : B < w.heap.size := World.block_lt_of_cell? w ⟨B, i, none⟩ cu
  have t5 : ∀ o, (w.alloc o).cell? ⟨sb, 5, none⟩ = some (.slice (some ⟨B, 0, none⟩) m m) := fun o => (((Below.refl _ w).alloc (Nat.le_refl _) o).cell (p := ⟨sb, 5, none⟩) hb).trans s5
  have t6 : ∀ o, (w.alloc o).cell? ⟨sb, 6, none⟩ = some (.int .i64 z) := fun o => (((Below.refl _ w).alloc (Nat.le_refl _) o).cell (p := ⟨sb, 6, none⟩) hb).trans s6
  have du : ∀ o, (w.alloc o).cell? ⟨B, i, none⟩ = some (.int .i64 up) := fun o => (((Below.refl _ w).alloc (Nat.le_refl _) o).cell (p := ⟨B, i, none⟩) hB).trans cu
  have dl : ∀ o, (w.alloc o).cell? ⟨B, i + 2, none⟩ = some (.int .i64 lf) := fun o => (((Below.refl _ w).alloc (Nat.le_refl _) o).cell (p := ⟨B, i + 2, none⟩) hB).trans cl
  clear s5 s6 cu cl
  go_enter Yba.func9, Yba.ntmps9
  go_wp2
  go_quiet (fail)
  go_wp2
  go_quiet (fail)
  go_wp2
  refine bodyPost_ret (v := snakeV _ _ _ _) (by simp [results, Yba.results9, go_sem, snakeV]) rfl ⟨rfl, ?_⟩
  exact below_five (below_drewN ((Below.refl _ w).alloc (Nat.le_refl _) _) _) (Nat.le_refl _) _ _ _ _ _

set_option maxHeartbeats 800000 in
theorem snake9_zero_b (sb B m i : Nat) (z c left top delta y up lf : Int) (w : World) (s5 : w.cell? ⟨sb, 5, none⟩ = some (.slice (some ⟨B, 0, none⟩) m m)) (s6 : w.cell? ⟨sb, 6, none⟩ = some (.int .i64 z))
    (_hm : m ≤ 1024) (_hi : i + 2 < m) (_hz0 : 0 ≤ z) (_hz1 : z ≤ 512) (_hc0 : -1024 ≤ c) (_hc1 : c ≤ 1024) (_hzc : z + c = (i : Int) + 1)
    (cu : w.cell? ⟨B, i, none⟩ = some (.int .i64 up)) (cl : w.cell? ⟨B, i + 2, none⟩ = some (.int .i64 lf)) (_hu : -2147483648 ≤ up ∧ up ≤ 2147483647) (_hl : -2147483648 ≤ lf ∧ lf ≤ 2147483647) (_hlt : lf ≤ up - 1) :
    Calls Yba.prog 9 #[.pointer (some ⟨sb, 0, none⟩), .int .i64 left, .int .i64 top, .int .i64 0, .int .i64 c, .int .i64 delta, .int .i64 y] w fun e w' =>
      e = .returned (snakeV (wrap64 (wrap64 (wrap64 (left + y) + c) + delta)) (wrap64 (top + y)) (wrap64 (left + wrap64 (lf + c + delta))) (wrap64 (top + lf))) ∧ Below w.heap.size w w' := by
  have hb : sb < w.heap.size := World.block_lt_of_cell? w ⟨sb, 5, none⟩ s5
  have hB : B < w.heap.size := World.block_lt_of_cell? w ⟨B, i, none⟩ cu
  have t5 : ∀ o, (w.alloc o).cell? ⟨sb, 5, none⟩ = some (.slice (some ⟨B, 0, none⟩) m m) := fun o => (((Below.refl _ w).alloc (Nat.le_refl _) o).cell (p := ⟨sb, 5, none⟩) hb).trans s5
  have t6 : ∀ o, (w.alloc o).cell? ⟨sb, 6, none⟩ = some (.int .i64 z) := fun o => (((Below.refl _ w).alloc (Nat.le_refl _) o).cell (p := ⟨sb, 6, none⟩) hb).trans s6
  have du : ∀ o, (w.alloc o).cell? ⟨B, i, none⟩ = some (.int .i64 up) := fun o => (((Below.refl _ w).alloc (Nat.le_refl _) o).cell (p := ⟨B, i, none⟩) hB).trans cu
  have dl : ∀ o, (w.alloc o).cell? ⟨B, i + 2, none⟩ = some (.int .i64 lf) := fun o => (((Below.refl _ w).alloc (Nat.le_refl _) o).cell (p := ⟨B, i + 2, none⟩) hB).trans cl
  clear s5 s6 cu cl
  go_enter Yba.func9, Yba.ntmps9
  go_wp2
  go_quiet (fail)
  go_wp2
  go_quiet (fail)
  go_wp2
  refine bodyPost_ret (v := snakeV _ _ _ _) (by simp [results, Yba.results9, go_sem, snakeV]) rfl ⟨rfl, ?_⟩
  exact below_five (below_drewN ((Below.refl _ w).alloc (Nat.le_refl _) _) _) (Nat.le_refl _) _ _ _ _ _

set_option maxHeartbeats 800000 in
theorem snake9_del (sb B m i : Nat) (z c left top delta y up lf : Int) (w : World) (s5 : w.cell? ⟨sb, 5, none⟩ = some (.slice (some ⟨B, 0, none⟩) m m)) (s6 : w.cell? ⟨sb, 6, none⟩ = some (.int .i64 z))
    (_hm : m ≤ 1024) (_hi : i + 2 < m) (_hz0 : 0 ≤ z) (_hz1 : z ≤ 512) (_hc0 : -1024 ≤ c) (_hc1 : c ≤ 1024) (_hzc : z + c = (i : Int) + 1)
    (cu : w.cell? ⟨B, i, none⟩ = some (.int .i64 up)) (cl : w.cell? ⟨B, i + 2, none⟩ = some (.int .i64 lf)) (_hu : -2147483648 ≤ up ∧ up ≤ 2147483647) (_hl : -2147483648 ≤ lf ∧ lf ≤ 2147483647) (d : Int) (_hd : (d == 0) = false) (_hlt : lf < up) :
    Calls Yba.prog 9 #[.pointer (some ⟨sb, 0, none⟩), .int .i64 left, .int .i64 top, .int .i64 d, .int .i64 c, .int .i64 delta, .int .i64 y] w fun e w' =>
      e = .returned (snakeV (wrap64 (wrap64 (wrap64 (left + y) + c) + delta)) (wrap64 (top + y)) (wrap64 (left + wrap64 (wrap64 (lf + c + delta) + 1))) (wrap64 (top + lf))) ∧ Below w.heap.size w w' := by
  have hb : sb < w.heap.size := World.block_lt_of_cell? w ⟨sb, 5, none⟩ s5
  have hB : B < w.heap.size := World.block_lt_of_cell? w ⟨B, i, none⟩ cu
  have t5 : ∀ o, (w.alloc o).cell? ⟨sb, 5, none⟩ = some (.slice (some ⟨B, 0, none⟩) m m) := fun o => (((Below.refl _ w).alloc (Nat.le_refl _) o).cell (p := ⟨sb, 5, none⟩) hb).trans s5
  have t6 : ∀ o, (w.alloc o).cell? ⟨sb, 6, none⟩ = some (.int .i64 z) := fun o => (((Below.refl _ w).alloc (Nat.le_refl _) o).cell (p := ⟨sb, 6, none⟩) hb).trans s6
  have du : ∀ o, (w.alloc o).cell? ⟨B, i, none⟩ = some (.int .i64 up) := fun o => (((Below.refl _ w).alloc (Nat.le_refl _) o).cell (p := ⟨B, i, none⟩) hB).trans cu
  have dl : ∀ o, (w.alloc o).cell? ⟨B, i + 2, none⟩ = some (.int .i64 lf) := fun o => (((Below.refl _ w).alloc (Nat.le_refl _) o).cell (p := ⟨B, i + 2, none⟩) hB).trans cl
  clear s5 s6 cu cl
  go_enter Yba.func9, Yba.ntmps9
  go_wp2
  go_quiet (fail)
  go_wp2
  go_quiet (fail)
  go_wp2
  go_quiet (fail)
  go_wp2
  refine bodyPost_ret (v := snakeV _ _ _ _) (by simp [results, Yba.results9, go_sem, snakeV]) rfl ⟨rfl, ?_⟩
  exact below_five (below_drewN ((Below.refl _ w).alloc (Nat.le_refl _) _) _) (Nat.le_refl _) _ _ _ _ _

set_option maxHeartbeats 800000 in
theorem snake9_ins (sb B m i : Nat) (z c left top delta y up lf : Int) (w : World) (s5 : w.cell? ⟨sb, 5, none⟩ = some (.slice (some ⟨B, 0, none⟩) m m)) (s6 : w.cell? ⟨sb, 6, none⟩ = some (.int .i64 z))
    (_hm : m ≤ 1024) (_hi : i + 2 < m) (_hz0 : 0 ≤ z) (_hz1 : z ≤ 512) (_hc0 : -1024 ≤ c) (_hc1 : c ≤ 1024) (_hzc : z + c = (i : Int) + 1)
    (cu : w.cell? ⟨B, i, none⟩ = some (.int .i64 up)) (cl : w.cell? ⟨B, i + 2, none⟩ = some (.int .i64 lf)) (_hu : -2147483648 ≤ up ∧ up ≤ 2147483647) (_hl : -2147483648 ≤ lf ∧ lf ≤ 2147483647) (d : Int) (_hd : (d == 0) = false) (_hlt : up ≤ lf) :
    Calls Yba.prog 9 #[.pointer (some ⟨sb, 0, none⟩), .int .i64 left, .int .i64 top, .int .i64 d, .int .i64 c, .int .i64 delta, .int .i64 y] w fun e w' =>
      e = .returned (snakeV (wrap64 (wrap64 (wrap64 (left + y) + c) + delta)) (wrap64 (top + y)) (wrap64 (left + wrap64 (up - 1 + c + delta))) (wrap64 (top + (up - 1 + 1)))) ∧ Below w.heap.size w w' := by
  have hb : sb < w.heap.size := World.block_lt_of_cell? w ⟨sb, 5, none⟩ s5
  have hB : B < w.heap.size := World.block_lt_of_cell? w ⟨B, i, none⟩ cu
  have t5 : ∀ o, (w.alloc o).cell? ⟨sb, 5, none⟩ = some (.slice (some ⟨B, 0, none⟩) m m) := fun o => (((Below.refl _ w).alloc (Nat.le_refl _) o).cell (p := ⟨sb, 5, none⟩) hb).trans s5
  have t6 : ∀ o, (w.alloc o).cell? ⟨sb, 6, none⟩ = some (.int .i64 z) := fun o => (((Below.refl _ w).alloc (Nat.le_refl _) o).cell (p := ⟨sb, 6, none⟩) hb).trans s6
  have du : ∀ o, (w.alloc o).cell? ⟨B, i, none⟩ = some (.int .i64 up) := fun o => (((Below.refl _ w).alloc (Nat.le_refl _) o).cell (p := ⟨B, i, none⟩) hB).trans cu
  have dl : ∀ o, (w.alloc o).cell? ⟨B, i + 2, none⟩ = some (.int .i64 lf) := fun o => (((Below.refl _ w).alloc (Nat.le_refl _) o).cell (p := ⟨B, i + 2, none⟩) hB).trans cl
  clear s5 s6 cu cl
  go_enter Yba.func9, Yba.ntmps9
  go_wp2
  go_quiet (fail)
  go_wp2
  go_quiet (fail)
  go_wp2
  go_quiet (fail)
  go_wp2
  refine bodyPost_ret (v := snakeV _ _ _ _) (by simp [results, Yba.results9, go_sem, snakeV]) rfl ⟨rfl, ?_⟩
  exact below_five (below_drewN ((Below.refl _ w).alloc (Nat.le_refl _) _) _) (Nat.le_refl _) _ _ _ _ _

/-- Where the snake ends. -/
def Y1 (d up lf : Int) : Int := if d = 0 then (if up - 1 < lf then up - 1 else lf) else if lf < up then lf else up
def X1 (d c delta up lf : Int) : Int := if d = 0 then wrap64 ((if up - 1 < lf then up - 1 else lf) + c + delta) else if lf < up then wrap64 (wrap64 (lf + c + delta) + 1) else wrap64 (up - 1 + c + delta)

theorem snake9 (sb B m i : Nat) (z c left top delta y up lf : Int) (w : World) (s5 : w.cell? ⟨sb, 5, none⟩ = some (.slice (some ⟨B, 0, none⟩) m m)) (s6 : w.cell? ⟨sb, 6, none⟩ = some (.int .i64 z))
    (_hm : m ≤ 1024) (_hi : i + 2 < m) (_hz0 : 0 ≤ z) (_hz1 : z ≤ 512) (_hc0 : -1024 ≤ c) (_hc1 : c ≤ 1024) (_hzc : z + c = (i : Int) + 1)
    (cu : w.cell? ⟨B, i, none⟩ = some (.int .i64 up)) (cl : w.cell? ⟨B, i + 2, none⟩ = some (.int .i64 lf)) (_hu : -2147483648 ≤ up ∧ up ≤ 2147483647) (_hl : -2147483648 ≤ lf ∧ lf ≤ 2147483647) (d : Int) :
    Calls Yba.prog 9 #[.pointer (some ⟨sb, 0, none⟩), .int .i64 left, .int .i64 top, .int .i64 d, .int .i64 c, .int .i64 delta, .int .i64 y] w fun e w' =>
      e = .returned (snakeV (wrap64 (wrap64 (wrap64 (left + y) + c) + delta)) (wrap64 (top + y)) (wrap64 (left + X1 d c delta up lf)) (wrap64 (top + Y1 d up lf))) ∧ Below w.heap.size w w' := by
  by_cases hd : d = 0
  · subst hd
    by_cases hlt : up - 1 < lf
    · have := snake9_zero_a sb B m i z c left top delta y up lf w s5 s6 _hm _hi _hz0 _hz1 _hc0 _hc1 _hzc cu cl _hu _hl hlt
      unfold X1 Y1
      rw [if_pos rfl, if_pos rfl, if_pos hlt]
      exact this
    · have := snake9_zero_b sb B m i z c left top delta y up lf w s5 s6 _hm _hi _hz0 _hz1 _hc0 _hc1 _hzc cu cl _hu _hl (by omega)
      unfold X1 Y1
      rw [if_pos rfl, if_pos rfl, if_neg hlt]
      exact this
  · have hd' : (d == 0) = false := by simpa using hd
    by_cases hlt : lf < up
    · have := snake9_del sb B m i z c left top delta y up lf w s5 s6 _hm _hi _hz0 _hz1 _hc0 _hc1 _hzc cu cl _hu _hl d hd' hlt
      unfold X1 Y1
      rw [if_neg hd, if_neg hd, if_pos hlt, if_pos hlt]
      exact this
    · have := snake9_ins sb B m i z c left top delta y up lf w s5 s6 _hm _hi _hz0 _hz1 _hc0 _hc1 _hzc cu cl _hu _hl d hd' (by omega)
      rw [show up - 1 + 1 = up by omega] at this
      unfold X1 Y1
      rw [if_neg hd, if_neg hd, if_neg hlt, if_neg hlt]
      exact this
theorem ex1_ins (up c delta : Int) : wrap64 (wrap64 (up + c + delta) - 1) = wrap64 (up - 1 + c + delta) := by
  unfold wrap64; omega
end Go.Proofs.Ybulkcesa
