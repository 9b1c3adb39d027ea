/-
  Seat b4039a: the small methods by their contracts: lone, items, isWord.
-/
import Derived.Test.YbulkcepwProg
import Derived.WalkKit
import Derived.WalkSpells
import Derived.WalkLawsBesides
namespace Go.Proofs.Ybulkcepw
open Go.RowKit

def keyS : ByteArray := { data := #[107, 101, 121] }

theorem ret_bool {p q : Bool} (h : p = q) : Ending.returned (.bool p) = .returned (.bool q) := by rw [h]

set_option maxHeartbeats 400000 in
theorem lone8 (s : ByteArray) (a : Option Addr) (o k : Int) (v b : Option Addr) (w : World) :
    Calls Yba.prog 8 #[.agg #[.string s, .pointer a, .int .i32 o, .int .u8 k, .pointer v, .pointer b]] w fun e w' => e = .returned (.bool (k != 1)) ∧ Below w.heap.size w w' := by
  go_enter Yba.func8, Yba.ntmps8
  go_wp2
  go_ret
  exact ⟨rfl, (Below.refl _ _).alloc (Nat.le_refl _) _⟩

set_option maxHeartbeats 400000 in
theorem items9_nil (s : ByteArray) (a : Option Addr) (o k : Int) (x b : Option Addr) (w : World) :
    Calls Yba.prog 9 #[.agg #[.string s, .pointer a, .int .i32 o, .int .u8 k, .pointer x, .pointer b, .pointer none]] w fun e w' => e = .returned (.slice none 0 0) ∧ Below w.heap.size w w' := by
  go_enter Yba.func9, Yba.ntmps9
  go_wp2
  go_ret
  exact ⟨rfl, (Below.refl _ _).alloc (Nat.le_refl _) _⟩

set_option maxHeartbeats 400000 in
theorem items9_some (s : ByteArray) (a : Option Addr) (o k : Int) (x b : Option Addr) (eb : Nat) (sv : Value) (sa : Option Addr) (sl sc : Nat) (w : World) (hs : sv = .slice sa sl sc) (hc : w.cell? ⟨eb, 1, none⟩ = some sv) :
    Calls Yba.prog 9 #[.agg #[.string s, .pointer a, .int .i32 o, .int .u8 k, .pointer x, .pointer b, .pointer (some ⟨eb, 0, none⟩)]] w fun e w' => e = .returned sv ∧ Below w.heap.size w w' := by
  have hlt : eb < w.heap.size := World.block_lt_of_cell? w ⟨eb, 1, none⟩ hc
  subst hs
  have hc1 : ∀ o, (w.alloc o).cell? ⟨eb, 1, none⟩ = some (.slice sa sl sc) := fun o => (((Below.refl _ w).alloc (Nat.le_refl _) o).cell (p := ⟨eb, 1, none⟩) hlt).trans hc
  clear hc
  go_enter Yba.func9, Yba.ntmps9
  go_wp2
  go_ret
  exact ⟨rfl, (Below.refl _ _).alloc (Nat.le_refl _) _⟩

set_option maxHeartbeats 400000 in
theorem isWord10 (s t : ByteArray) (a : Option Addr) (o k : Int) (w : World) :
    Calls Yba.prog 10 #[.agg #[.string s, .pointer a, .int .i32 o, .int .u8 k], .string t] w fun e w' => e = .returned (.bool ((k == 1) && (s.toList == t.toList))) ∧ Below w.heap.size w w' := by
  go_enter Yba.func10, Yba.ntmps10
  go_wp2
  all_goals (go_ret; exact ⟨ret_bool (by simp_all), (Below.refl _ _).alloc (Nat.le_refl _) _⟩)
end Go.Proofs.Ybulkcepw
