/-
  Seat b4036aF: the walk of LawS4036ARaw.
-/
import Derived.Test.YbulkceogFmtUnm
import Derived.Test.YbulkceogFmtModel
import Derived.Test.YbulkceogFmtEq
namespace Go.Proofs.YbulkceogFmt
open Go.RowKit Go.Extern.Stop Go.Stop Go.Extern

theorem setRow_alloc2 (w : World) (A : Obj) (c c' : Array Value) (t : TypeId) : ((w.alloc A).alloc (.cells c t)).setRow (w.heap.size + 1) c' = (w.alloc A).alloc (.cells c' t) := by
  have := World.setRow_alloc_new (w.alloc A) c c' t
  simpa only [World.size_alloc] using this
/-- What the model says. -/
def said (s : ByteArray) : List Int := if okB s then idOf (byteOf s) else zeros
theorem said_len (s : ByteArray) : (said s).length = 16 := by unfold said; split <;> first | exact idOf_length _ | rfl

set_option maxHeartbeats 800000 in
theorem raw4 (F : Interp) (s : ByteArray) (sv : Value) (bf : List Int) (w : World) (hF : F.answers w.tape) (hbf : bf.length = 16)
    (hcv : ∀ w1, Below w.heap.size w w1 → (convert 24 9 sv).run Ybaf.prog w1 = .ok (.string s) w1)
    (hm : ∀ w1, Below w.heap.size w w1 → Calls Ybaf.prog 9 #[sv] w1 fun e w' => e = .returned (.tuple #[.agg (av (said s)), .bool (okB s)]) ∧ Below w1.heap.size w1 w') :
    Calls Ybaf.prog 4 #[sv, .agg (av bf)] w fun e w' => e = .returned (.bool true) ∧ Below w.heap.size w w' := by
  have HBF : Hid (bf.length = 16) := hbf
  have HCV := (show Hid _ from hcv)
  have HM := (show Hid _ from hm)
  have h26 := noGuard26
  clear hbf hcv hm
  go_enter Ybaf.func4, Ybaf.ntmps4
  go_wp2_with fail
  refine (HM.out _ ((Below.refl _ w).alloc (Nat.le_refl _) _)).mono ?_
  rintro e w1 ⟨rfl, hb⟩
  have hb0 : Below w.heap.size w w1 := ((Below.refl _ w).alloc (Nat.le_refl _) _).trans (hb.mono (by simp))
  have hlt1 : w.heap.size < w1.heap.size := by have := hb.size; simp at this; omega
  have hbx : ∀ o, (w1.alloc o).heap[w.heap.size]? = some (.cells (av bf) 22 (0, 0)) := fun o => (Below.heap_alloc w1 o _ hlt1).trans ((hb.block _ (by simp)).trans (heap_alloc_new _ _))
  have HBX := (show Hid _ from hbx)
  clear hb hbx
  go_wp2_with (first
      | (with_reducible show wpList _ _ _ (Oper.mk _ (Op.store 26 (Operand.tmp 5) (Operand.tmp 12)) _ _ _ _ :: _) _ _; go_must (refine wpList_store_row rfl 26 (.tmp 5) (.tmp 12) rfl w1.heap.size (av (said s)) rfl rfl 26 _ (heap_alloc_new _ _) (info26_av (said_len s)) (size_av (m := 16) rfl (said_len s)) (av_all _) ?_); rw [World.setRow_alloc_new])
      | (with_reducible show wpList _ _ _ (Oper.mk _ (Op.load 22 (Operand.tmp 3)) _ _ _ _ :: _) _ _; go_must (refine wpList_load_row rfl 22 (.tmp 3) rfl w.heap.size rfl 22 (av bf) (0, 0) _ (HBX.out _) Ybaf.underlying22 rfl (info22_av HBF.out) ?_))
      | (with_reducible show wpList _ _ _ (Oper.mk _ (Op.store 26 (Operand.tmp 7) (Operand.tmp 14)) _ _ _ _ :: _) _ _; go_must (refine wpList_store_row rfl 26 (.tmp 7) (.tmp 14) rfl (w1.heap.size + 1) (av bf) rfl rfl 26 _ (heap_alloc2_new _ _ _) (info26_av HBF.out) (size_av (m := 16) rfl HBF.out) (av_all _) ?_); rw [setRow_alloc2])
      | fail)
  have hb1 : Below w.heap.size w ((w1.alloc (.cells (av (said s)) 26)).alloc (.cells (av bf) 26)) := (hb0.alloc (by omega) _).alloc (by simp; omega) _
  refine (unm10 F s (w1.heap.size + 1) sv bf _ (by rw [hb1.tape]; exact hF) (HCV.out _ hb1) (heap_alloc2_new _ _ _) HBF.out).mono ?_
  rintro e w2 ⟨hgr, hor⟩
  have hb2 : Below w.heap.size w w2 := hb1.grown hgr (by simp; omega) (fun k hk => by cases hk; omega)
  have hw2 : w2.heap[w1.heap.size]? = some (.cells (av (said s)) 26 (0, 0)) := (hgr.block _ (by simp; omega) (by simp)).trans (heap_alloc2_old _ _ _)
  have hx2 : w2.heap[w.heap.size]? = some (.cells (av bf) 22 (0, 0)) := (hgr.block _ (by simp; omega) (by simp; omega)).trans ((Below.heap_alloc _ _ _ (by simp; omega)).trans (HBX.out _))
  have HW2 := (show Hid _ from hw2)
  have HX2 := (show Hid _ from hx2)
  clear hgr hw2 hx2 HBX hb1
  rcases hor with ⟨hok, rfl, hid⟩ | ⟨hok, ⟨u, x, rfl⟩, hid⟩
  · have hsd : said s = idOf (byteOf s) := by unfold said; rw [hok]; rfl
    have HID := (show Hid _ from hid)
    rw [hsd] at HW2
    have heq := eql_self (idOf (byteOf s)) (idOf_length _)
    clear hid hsd
    go_wp2_with (first
      | (with_reducible show wpList _ _ _ (Oper.mk _ (Op.load 26 (Operand.tmp 7)) _ _ _ _ :: _) _ _; go_must (refine wpList_load_row_g rfl 26 (.tmp 7) rfl (w1.heap.size + 1) rfl 26 (av (idOf (byteOf s))) (0, 0) _ HID.out Ybaf.underlying26 rfl (info26_av (idOf_length _)) ?_))
      | (with_reducible show wpList _ _ _ (Oper.mk _ (Op.load 26 (Operand.tmp 5)) _ _ _ _ :: _) _ _; go_must (refine wpList_load_row_g rfl 26 (.tmp 5) rfl w1.heap.size rfl 26 (av (idOf (byteOf s))) (0, 0) _ HW2.out Ybaf.underlying26 rfl (info26_av (idOf_length _)) ?_)))
    go_ret
    exact ⟨rfl, hb2⟩
  · have HID := (show Hid _ from hid)
    have heq := eql_self bf HBF.out
    clear hid
    go_wp2_with (first
      | (with_reducible show wpList _ _ _ (Oper.mk _ (Op.load 26 (Operand.tmp 7)) _ _ _ _ :: _) _ _; go_must (refine wpList_load_row_g rfl 26 (.tmp 7) rfl (w1.heap.size + 1) rfl 26 (av bf) (0, 0) _ HID.out Ybaf.underlying26 rfl (info26_av HBF.out) ?_))
      | (with_reducible show wpList _ _ _ (Oper.mk _ (Op.load 22 (Operand.tmp 3)) _ _ _ _ :: _) _ _; go_must (refine wpList_load_row_g rfl 22 (.tmp 3) rfl w.heap.size rfl 22 (av bf) (0, 0) _ HX2.out Ybaf.underlying22 rfl (info22_av HBF.out) ?_)))
    go_ret
    exact ⟨rfl, hb2⟩
end Go.Proofs.YbulkceogFmt
