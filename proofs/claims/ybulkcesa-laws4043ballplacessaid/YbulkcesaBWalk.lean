/-
  Seat b4043a: the walk of LawS4043BModel.
-/
import Derived.Test.YbulkcesaCost
namespace Go.Proofs.Ybulkcesa
open Go.RowKit

/-- The layout's block. -/
def layO (a : Option Addr) (n cap : Nat) : Obj := .cells #[.slice a n cap, .slice none 0 0] 39

set_option maxHeartbeats 1600000 in
set_option maxRecDepth 100000 in
theorem bModel4 (a : Option Addr) (n cap : Nat) (LL : List (List Int)) (sel : Int) (w : World) (h : LinesAt w a n LL) (hs0 : 0 ≤ sel) (hs1 : sel ≤ 18446744073709551615) :
    Calls Yba.prog 4 #[.slice a n cap, .int .u64 sel] w fun e w' => e = .returned (.bool true) ∧ Below w.heap.size w w' := by
  have HA : Hid (LinesAt w a n LL) := h
  have HL : Hid (LL.length = n) := h.len_eq
  clear h
  by_cases hn : 1024 < n
  · go_enter Yba.func4, Yba.ntmps4
    go_wp2
    go_ret
    exact ⟨rfl, Below.refl _ _⟩
  · go_enter Yba.func4, Yba.ntmps4
    go_wp2
    go_loop [5] (fun vk => ∃ k : Nat, k ≤ n ∧ vk = .int .i64 k ∧ Hid (∀ j, j < k → (LL.getD j []).length ≤ 1024)) (fun vk => n - (intOf vk).toNat)
    case atStart => exact ⟨0, by omega, rfl, fun j hj => absurd hj (by omega)⟩
    case round =>
      obtain ⟨k, hk, rfl, hsh⟩ := hrel
      by_cases hlt : k < n
      · obtain ⟨b, off, la, llen, lcap, ha, hc, -, hl⟩ := HA.out.rd k hlt
        subst ha
        have HLL : Hid ((LL.getD k []).length = llen) := hl.len_eq
        clear hl
        by_cases hll : 1024 < llen
        · go_wp2
          go_ret
          exact ⟨rfl, Below.refl _ _⟩
        · go_wp2
          go_round
          case rel => exact ⟨k + 1, by omega, by go_num, fun j hj => by
            by_cases e : j = k
            · rw [e, HLL.out]; omega
            · exact hsh.out j (by omega)⟩
          case measure => simp [intOf]; omega
      · have hs : short LL := fun j hj => hsh.out j (by rw [HL.out] at hj; omega)
        obtain ⟨i, hi0⟩ : ∃ i : Nat, sel % ((n : Int) + 1) = (i : Int) := ⟨(sel % ((n : Int) + 1)).toNat, by have := Int.emod_nonneg sel (show ((n : Int) + 1) ≠ 0 by omega); omega⟩
        have hin : i ≤ n := by have := Int.emod_lt_of_pos sel (show 0 < ((n : Int) + 1) by omega); omega
        have hAl : Below w.heap.size w (w.alloc (layO a n cap)) := (Below.refl _ w).alloc (Nat.le_refl _) _
        have hS : (w.alloc (layO a n cap)).heap[w.heap.size]? = some (layO a n cap) := heap_alloc_new _ _
        have q0 := cell_of_row _ _ 0 _ 39 (0, 0) hS
        have q1 := cell_of_row _ _ 1 _ 39 (0, 0) hS
        have hcon := cost10_nil w.heap.size n cap i a LL (w.alloc (layO a n cap)) q0 q1 (World.frozen?_alloc_new _ _ _ _) (HA.out.below hAl) (by omega) hs hin
        have HC : Hid (Calls Yba.prog 10 #[.pointer (some ⟨w.heap.size, 0, none⟩), .int .i64 i] (w.alloc (layO a n cap)) fun e w' => e = .returned (.int .i64 (mdl LL i)) ∧ Below w.heap.size w w') := hcon.mono fun e w' hh => ⟨hh.1, hAl.trans hh.2.1⟩
        clear hcon q0 q1 hS
        have HS : Hid (short LL) := hs
        clear hs hsh
        go_wp2_with fail
        refine HC.out.mono ?_
        rintro e w2 ⟨rfl, hb⟩
        go_wp2_with fail
        refine (model11 a n cap LL i w2 (HA.out.below hb) (by omega) HS.out hin).mono ?_
        rintro e w3 ⟨rfl, rfl⟩
        go_wp2
        go_ret
        exact ⟨rfl, hb⟩
end Go.Proofs.Ybulkcesa
