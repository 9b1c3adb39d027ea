/-
  Seat b4043a: layout's cost by its contracts: the first call, and a later one.
-/
import Derived.Test.YbulkcesaCosts
import Derived.WalkSpells
namespace Go.Proofs.Ybulkcesa
open Go.RowKit

set_option maxHeartbeats 800000 in
theorem cost10_nil (lb n cap i : Nat) (a : Option Addr) (LL : List (List Int)) (w : World) (h0 : w.cell? ⟨lb, 0, none⟩ = some (.slice a n cap)) (h1 : w.cell? ⟨lb, 1, none⟩ = some (.slice none 0 0)) (hf : w.frozen? ⟨lb, 1, none⟩ = false)
    (h : LinesAt w a n LL) (hn : n ≤ 1024) (hs : short LL) (hi : i ≤ n) :
    Calls Yba.prog 10 #[.pointer (some ⟨lb, 0, none⟩), .int .i64 i] w fun e w' => e = .returned (.int .i64 (mdl LL i)) ∧ Below lb w w' ∧ w'.cell? ⟨lb, 1, none⟩ = some (.slice (some ⟨w.heap.size, 0, none⟩) (n + 1) (n + 1)) ∧ w'.rowIs w.heap.size 21 (n + 1) (fun j => .int .i32 (mdl LL j)) := by
  have hlb : lb < w.heap.size := World.block_lt_of_cell? w ⟨lb, 1, none⟩ h1
  have hmb := mdl_bd LL hs i (by rw [h.len_eq]; exact hi)
  have hcon := costs16 a n cap LL w h hn hs
  have HC : Hid (Calls Yba.prog 16 #[.slice a n cap] w fun e w' => e = .returned (.slice (some ⟨w.heap.size, 0, none⟩) (n + 1) (n + 1)) ∧ Below w.heap.size w w' ∧ w'.rowIs w.heap.size 21 (n + 1) (fun i => .int .i32 (mdl LL i))) := hcon
  clear hcon h hs
  have heq : (binOp .eql 22 (.slice none 0 0) (.slice none 0 0)).run Yba.prog w = .ok (.bool true) w := Lib.run_eql_slice_nil w 22 21 none 0 0 0 0 Yba.underlying22
  go_enter Yba.func10, Yba.ntmps10
  go_wp2_with fail
  refine Calls.mono HC.out ?_
  rintro e w2 ⟨rfl, hb, hrow⟩
  have h1' : w2.cell? ⟨lb, 1, none⟩ = some (.slice none 0 0) := (hb.cell (p := ⟨lb, 1, none⟩) hlb).trans h1
  have hf' : w2.frozen? ⟨lb, 1, none⟩ = false := (hb.frozen (p := ⟨lb, 1, none⟩) hlb).trans hf
  have g1 : (w2.setCell ⟨lb, 1, none⟩ (.slice (some ⟨w.heap.size, 0, none⟩) (n + 1) (n + 1))).cell? ⟨lb, 1, none⟩ = some (.slice (some ⟨w.heap.size, 0, none⟩) (n + 1) (n + 1)) := World.cell?_setCell_same' _ _ _ (by rw [h1']; rfl)
  have hrow' : (w2.setCell ⟨lb, 1, none⟩ (.slice (some ⟨w.heap.size, 0, none⟩) (n + 1) (n + 1))).rowIs w.heap.size 21 (n + 1) (fun i => .int .i32 (mdl LL i)) := hrow.setOther (by show w.heap.size ≠ lb; omega) _
  have g2 : (w2.setCell ⟨lb, 1, none⟩ (.slice (some ⟨w.heap.size, 0, none⟩) (n + 1) (n + 1))).cell? ⟨w.heap.size, i, none⟩ = some (.int .i32 (mdl LL i)) := hrow'.cell (by omega)
  have HR : Hid ((w2.setCell ⟨lb, 1, none⟩ (.slice (some ⟨w.heap.size, 0, none⟩) (n + 1) (n + 1))).rowIs w.heap.size 21 (n + 1) (fun i => .int .i32 (mdl LL i))) := hrow'
  clear hrow hrow' h0 h1 hf HC heq
  have G1 : Hid ((w2.setCell ⟨lb, 1, none⟩ (.slice (some ⟨w.heap.size, 0, none⟩) (n + 1) (n + 1))).cell? ⟨lb, 1, none⟩ = some (.slice (some ⟨w.heap.size, 0, none⟩) (n + 1) (n + 1))) := g1
  go_wp2
  go_ret
  exact ⟨rfl, (hb.mono (Nat.le_of_lt hlb)).setCell (p := ⟨lb, 1, none⟩) (Nat.le_refl _) _, G1.out, HR.out⟩

set_option maxHeartbeats 800000 in
theorem cost10_had (lb B n i : Nat) (LL : List (List Int)) (w : World) (h1 : w.cell? ⟨lb, 1, none⟩ = some (.slice (some ⟨B, 0, none⟩) (n + 1) (n + 1)))
    (hrow : w.rowIs B 21 (n + 1) (fun j => .int .i32 (mdl LL j))) (hlen : LL.length = n) (_hn : n ≤ 1024) (hs : short LL) (hi : i ≤ n) :
    Calls Yba.prog 10 #[.pointer (some ⟨lb, 0, none⟩), .int .i64 i] w fun e w' => e = .returned (.int .i64 (mdl LL i)) ∧ w' = w := by
  have hmb := mdl_bd LL hs i (by rw [hlen]; exact hi)
  have g2 : w.cell? ⟨B, i, none⟩ = some (.int .i32 (mdl LL i)) := hrow.cell (by omega)
  have heq : (binOp .eql 22 (.slice (some ⟨B, 0, none⟩) (n + 1) (n + 1)) (.slice none 0 0)).run Yba.prog w = .ok (.bool false) w := Lib.run_eql_slice_nil w 22 21 (some ⟨B, 0, none⟩) (n + 1) (n + 1) 0 0 Yba.underlying22
  clear hrow hlen hs
  generalize mdl LL i = M at *
  go_enter Yba.func10, Yba.ntmps10
  go_wp2
  go_ret
  exact ⟨rfl, rfl⟩
end Go.Proofs.Ybulkcesa
