/-
  Seat b4039a: keyElement by its contract.
-/
import Derived.Test.YbulkcepwSmall
import Derived.Deep.MidRow
namespace Go.Proofs.Ybulkcepw
open Go.RowKit

theorem info47 : (Yba.prog.info? 47).map (·.size) = some 7 := by kernel_rfl
theorem info27 : (Yba.prog.info? 27).map (·.size) = some 4 := by kernel_rfl
theorem info31 : (Yba.prog.info? 31).map (·.size) = some 6 := by kernel_rfl

/-- A value whose list is 'ep'. -/
def valCells (ep : Option Addr) : Array Value := #[.string { data := #[] }, .pointer none, .int .i32 0, .int .u8 0, .pointer none, .pointer none, .pointer ep]
theorem info47v (ep : Option Addr) : (Yba.prog.info? 47).map (·.size) = some (valCells ep).size := info47
/-- The four cells of a token. -/
def tokL (s : ByteArray) (k : Int) : List Value := [.string s, .pointer none, .int .i32 0, .int .u8 k]
/-- A statement. -/
def stVal (s : ByteArray) (k : Int) (v : Option Addr) : Value := .agg #[.string s, .pointer none, .int .i32 0, .int .u8 k, .pointer v, .pointer none]

set_option maxHeartbeats 400000 in
theorem ke6_lone (s : ByteArray) (v : Option Addr) (w : World) :
    Calls Yba.prog 6 #[stVal s 1 v] w fun e w' => e = .returned (.bool false) ∧ Below w.heap.size w w' := by
  unfold stVal
  go_enter Yba.func6, Yba.ntmps6
  go_wp2_with (go_at_call 8; refine (lone8 _ _ _ _ _ _ _).mono ?_; rintro e w1 ⟨rfl, hb⟩)
  go_ret
  exact ⟨rfl, ((Below.refl _ w).alloc (Nat.le_refl _) _).trans (hb.mono (by simp))⟩

set_option maxHeartbeats 400000 in
theorem ke6_nil (s : ByteArray) (k : Int) (w : World) (hk : k ≠ 1) :
    Calls Yba.prog 6 #[stVal s k none] w fun e w' => e = .returned (.bool false) ∧ Below w.heap.size w w' := by
  unfold stVal
  have hk' : (k != 1) = true := by simpa using hk
  clear hk
  go_enter Yba.func6, Yba.ntmps6
  go_wp2_with fail
  refine (lone8 _ _ _ _ _ _ _).mono ?_
  rintro e w1 ⟨rfl, hb⟩
  have hq : w1.cell? ⟨w.heap.size, 4, none⟩ = some (.pointer none) := (hb.cell (p := ⟨w.heap.size, 4, none⟩) (by simp)).trans (by go_simp)
  go_wp2
  go_ret
  exact ⟨rfl, ((Below.refl _ w).alloc (Nat.le_refl _) _).trans (hb.mono (by simp))⟩

set_option maxHeartbeats 400000 in
theorem ke6_bare (s : ByteArray) (k : Int) (vb : Nat) (w : World) (hk : k ≠ 1) (hv : w.heap[vb]? = some (.cells (valCells none) 47 (0, 0))) :
    Calls Yba.prog 6 #[stVal s k (some ⟨vb, 0, none⟩)] w fun e w' => e = .returned (.bool false) ∧ Below w.heap.size w w' := by
  unfold stVal
  have hk' : (k != 1) = true := by simpa using hk
  have hlt : vb < w.heap.size := (Array.getElem?_eq_some_iff.1 hv).1
  have HV : Hid (w.heap[vb]? = some (.cells (valCells none) 47 (0, 0))) := hv
  clear hk hv
  go_enter Yba.func6, Yba.ntmps6
  go_wp2_with fail
  refine (lone8 _ _ _ _ _ _ _).mono ?_
  rintro e w1 ⟨rfl, hb⟩
  have hq : w1.cell? ⟨w.heap.size, 4, none⟩ = some (.pointer (some ⟨vb, 0, none⟩)) := (hb.cell (p := ⟨w.heap.size, 4, none⟩) (by simp)).trans (by go_simp)
  have HV1 : Hid (w1.heap[vb]? = some (.cells (valCells none) 47 (0, 0))) := (hb.block vb (by simp; omega)).trans ((Below.heap_alloc w _ vb hlt).trans HV.out)
  go_wp2_with (first | (with_reducible show wpList _ _ _ (Oper.mk _ (Op.load 47 (Operand.tmp 14)) _ _ _ _ :: _) _ _; go_must (refine wpList_load_row rfl 47 (.tmp 14) rfl vb rfl 47 (valCells none) (0, 0) _ HV1.out Yba.underlying47 rfl (info47v _) ?_)) | (go_at_call 9; go_must (refine (items9_nil _ _ _ _ _ _ _).mono ?_); rintro e w2 ⟨rfl, hb2⟩))
  go_ret
  exact ⟨rfl, (((Below.refl _ w).alloc (Nat.le_refl _) _).trans (hb.mono (by simp))).trans (hb2.mono (by have := hb.size; simp at this; omega))⟩

set_option maxHeartbeats 400000 in
theorem ke6_other (s : ByteArray) (k : Int) (vb eb n : Nat) (ia : Option Addr) (w : World) (hk : k ≠ 1) (hn : n ≠ 2) (hv : w.heap[vb]? = some (.cells (valCells (some ⟨eb, 0, none⟩)) 47 (0, 0)))
    (he : w.cell? ⟨eb, 1, none⟩ = some (.slice ia n n)) :
    Calls Yba.prog 6 #[stVal s k (some ⟨vb, 0, none⟩)] w fun e w' => e = .returned (.bool false) ∧ Below w.heap.size w w' := by
  unfold stVal
  have hk' : (k != 1) = true := by simpa using hk
  have hn' : ((n : Int) == 2) = false := by simp; omega
  have hlt : vb < w.heap.size := (Array.getElem?_eq_some_iff.1 hv).1
  have hlte : eb < w.heap.size := World.block_lt_of_cell? w ⟨eb, 1, none⟩ he
  have HV : Hid (w.heap[vb]? = some (.cells (valCells (some ⟨eb, 0, none⟩)) 47 (0, 0))) := hv
  have HE : Hid (w.cell? ⟨eb, 1, none⟩ = some (.slice ia n n)) := he
  clear hk hv he hn
  go_enter Yba.func6, Yba.ntmps6
  go_wp2_with fail
  refine (lone8 _ _ _ _ _ _ _).mono ?_
  rintro e w1 ⟨rfl, hb⟩
  have hq : w1.cell? ⟨w.heap.size, 4, none⟩ = some (.pointer (some ⟨vb, 0, none⟩)) := (hb.cell (p := ⟨w.heap.size, 4, none⟩) (by simp)).trans (by go_simp)
  have hB1 : Below w.heap.size w w1 := ((Below.refl _ w).alloc (Nat.le_refl _) _).trans (hb.mono (by simp))
  have HV1 : Hid (w1.heap[vb]? = some (.cells (valCells (some ⟨eb, 0, none⟩)) 47 (0, 0))) := (hB1.block vb hlt).trans HV.out
  have HE1 : Hid (w1.cell? ⟨eb, 1, none⟩ = some (.slice ia n n)) := (hB1.cell (p := ⟨eb, 1, none⟩) hlte).trans HE.out
  have hsz1 := hB1.size
  clear hb
  go_wp2_with (first | (with_reducible show wpList _ _ _ (Oper.mk _ (Op.load 47 (Operand.tmp 14)) _ _ _ _ :: _) _ _; go_must (refine wpList_load_row rfl 47 (.tmp 14) rfl vb rfl 47 (valCells (some ⟨eb, 0, none⟩)) (0, 0) _ HV1.out Yba.underlying47 rfl (info47v _) ?_)) | (go_at_call 9; go_must (refine (items9_some _ _ _ _ _ _ eb _ ia n n _ rfl HE1.out).mono ?_); rintro e w2 ⟨rfl, hb2⟩))
  go_ret
  exact ⟨rfl, hB1.trans (hb2.mono hsz1)⟩

set_option maxHeartbeats 400000 in
theorem ke6_two (s t : ByteArray) (k fk : Int) (vb eb ib : Nat) (w : World) (hk : k ≠ 1) (hv : w.heap[vb]? = some (.cells (valCells (some ⟨eb, 0, none⟩)) 47 (0, 0)))
    (he : w.cell? ⟨eb, 1, none⟩ = some (.slice (some ⟨ib, 0, none⟩) 2 2)) (hi : w.rangeAt ib 0 (tokL t fk)) :
    Calls Yba.prog 6 #[stVal s k (some ⟨vb, 0, none⟩)] w fun e w' => e = .returned (.bool ((fk == 1) && (t.toList == [107, 101, 121]))) ∧ Below w.heap.size w w' := by
  unfold stVal
  have hk' : (k != 1) = true := by simpa using hk
  have hlt : vb < w.heap.size := (Array.getElem?_eq_some_iff.1 hv).1
  have hlte : eb < w.heap.size := World.block_lt_of_cell? w ⟨eb, 1, none⟩ he
  have hlti : ib < w.heap.size := World.block_lt_of_cell? w ⟨ib, 0 + 0, none⟩ (hi 0 _ rfl)
  have HV : Hid (w.heap[vb]? = some (.cells (valCells (some ⟨eb, 0, none⟩)) 47 (0, 0))) := hv
  have HE : Hid (w.cell? ⟨eb, 1, none⟩ = some (.slice (some ⟨ib, 0, none⟩) 2 2)) := he
  have HI : Hid (w.rangeAt ib 0 (tokL t fk)) := hi
  clear hk hv he hi
  go_enter Yba.func6, Yba.ntmps6
  go_wp2_with fail
  refine (lone8 _ _ _ _ _ _ _).mono ?_
  rintro e w1 ⟨rfl, hb⟩
  have hq : w1.cell? ⟨w.heap.size, 4, none⟩ = some (.pointer (some ⟨vb, 0, none⟩)) := (hb.cell (p := ⟨w.heap.size, 4, none⟩) (by simp)).trans (by go_simp)
  have hB1 : Below w.heap.size w w1 := ((Below.refl _ w).alloc (Nat.le_refl _) _).trans (hb.mono (by simp))
  have HV1 : Hid (w1.heap[vb]? = some (.cells (valCells (some ⟨eb, 0, none⟩)) 47 (0, 0))) := (hB1.block vb hlt).trans HV.out
  have HE1 : Hid (w1.cell? ⟨eb, 1, none⟩ = some (.slice (some ⟨ib, 0, none⟩) 2 2)) := (hB1.cell (p := ⟨eb, 1, none⟩) hlte).trans HE.out
  have hsz1 := hB1.size
  clear hb
  go_wp2_with (first | (with_reducible show wpList _ _ _ (Oper.mk _ (Op.load 47 (Operand.tmp 14)) _ _ _ _ :: _) _ _; go_must (refine wpList_load_row rfl 47 (.tmp 14) rfl vb rfl 47 (valCells (some ⟨eb, 0, none⟩)) (0, 0) _ HV1.out Yba.underlying47 rfl (info47v _) ?_)) | fail)
  refine (items9_some _ _ _ _ _ _ eb _ (some ⟨ib, 0, none⟩) 2 2 _ rfl HE1.out).mono ?_
  rintro e w2 ⟨rfl, hb2⟩
  have hB2 : Below w.heap.size w w2 := hB1.trans (hb2.mono hsz1)
  have hr : ∀ j v, (tokL t fk)[j]? = some v → w2.cell? ⟨ib, 0 + j, none⟩ = some v := fun j v hj => (hB2.cell (p := ⟨ib, 0 + j, none⟩) hlti).trans (HI.out j v hj)
  have c0 : w2.cell? ⟨ib, 0, none⟩ = some (.string t) := hr 0 _ rfl
  have c1 : w2.cell? ⟨ib, 1, none⟩ = some (.pointer none) := hr 1 _ rfl
  have c2 : w2.cell? ⟨ib, 2, none⟩ = some (.int .i32 0) := hr 2 _ rfl
  have c3 : w2.cell? ⟨ib, 3, none⟩ = some (.int .u8 fk) := hr 3 _ rfl
  have hsz2 := hB2.size
  clear hr hb2
  go_wp2_with (go_at_call 10; go_must (refine (isWord10 _ _ _ _ _ _).mono ?_); rintro e w3 ⟨rfl, hb3⟩)
  go_ret
  exact ⟨rfl, hB2.trans (hb3.mono hsz2)⟩
end Go.Proofs.Ybulkcepw
