/-
  Seat b4036aF: (ID).MarshalText by its contract; the walk of LawS4036ARoundTrip.
-/
import Derived.Test.YbulkceogFmtString
import Derived.Test.YbulkceogFmtEq
import Derived.Test.YbulkceogFmtRaw
namespace Go.Proofs.YbulkceogFmt
open Go.RowKit Go.Extern.Stop Go.Stop Go.Extern

set_option maxHeartbeats 800000 in
theorem marshal11 (l : List Int) (w : World) (hl : l.length = 16) (hV : ∀ j, j < 16 → 0 ≤ fnOf l j ∧ fnOf l j ≤ 255) :
    Calls Ybaf.prog 11 #[.agg (av l)] w fun e w' => ∃ b cap, e = .returned (.tuple #[.slice (some ⟨b, 0, none⟩) 36 cap, .nilIface]) ∧ Below w.heap.size w w' ∧
      ∀ i, i < 36 → w'.cell? ⟨b, i, none⟩ = some (.int .u8 (txt (fnOf l) i)) := by
  have HL : Hid (l.length = 16) := hl
  have HV : Hid (∀ j, j < 16 → 0 ≤ fnOf l j ∧ fnOf l j ≤ 255) := hV
  clear hl hV
  have hcv := fun w => run_bytes_of_string (P := Ybaf.prog) w 9 24 5 (strOf (fnOf l)) Ybaf.underlying9 Ybaf.underlying24 Ybaf.underlying5
  simp only [strOf_size] at hcv
  go_enter Ybaf.func11, Ybaf.ntmps11
  go_wp2_with (first
    | (with_reducible show wpList _ _ _ (Oper.mk _ (Op.load 26 (Operand.tmp 1)) _ _ _ _ :: _) _ _; go_must (refine wpList_load_row rfl 26 (.tmp 1) rfl w.heap.size rfl 26 (av l) (0, 0) _ (heap_alloc_new _ _) Ybaf.underlying26 rfl (info26_av HL.out) ?_))
    | (go_at_call 19; refine (string19 l _ HL.out HV.out).mono ?_; rintro e w1 ⟨rfl, hb⟩))
  go_ret2
  refine ⟨w1.heap.size, _, rfl, ((((Below.refl _ w).alloc (Nat.le_refl _) _).trans (hb.mono (by simp))).alloc (by have := hb.size; simp at this; omega) _).drew, fun i hi => ?_⟩
  show (w1.alloc _).cell? _ = _
  rw [World.cell?_alloc_mark, bytesRow_at _ _ i (by show i < (strOf (fnOf l)).size; rw [strOf_size]; exact hi)]
  refine congrArg (fun x => some (Value.int .u8 x)) ?_
  rw [← byteOf_str _ HV.out i hi, ← byteOf_at (strOf (fnOf l)) i (by rw [strOf_size]; exact hi)]
  rfl

set_option maxHeartbeats 800000 in
theorem round5 (F : Interp) (l bf : List Int) (w : World) (hF : F.answers w.tape) (hl : l.length = 16) (hV : ∀ j, j < 16 → 0 ≤ fnOf l j ∧ fnOf l j ≤ 255) (hbf : bf.length = 16) :
    Calls Ybaf.prog 5 #[.agg (av l), .agg (av bf)] w fun e w' => e = .returned (.bool true) ∧ Below w.heap.size w w' := by
  have HL : Hid (l.length = 16) := hl
  have HV : Hid (∀ j, j < 16 → 0 ≤ fnOf l j ∧ fnOf l j ≤ 255) := hV
  have HBF : Hid (bf.length = 16) := hbf
  have h26 := noGuard26
  clear hl hV hbf
  go_enter Ybaf.func5, Ybaf.ntmps5
  go_wp2_with (first
    | (with_reducible show wpList _ _ _ (Oper.mk _ (Op.load 22 (Operand.tmp 2)) _ _ _ _ :: _) _ _; go_must (refine wpList_load_row rfl 22 (.tmp 2) rfl w.heap.size rfl 22 (av l) (0, 0) _ (heap_alloc2_old _ _ _) Ybaf.underlying22 rfl (info22_av HL.out) ?_))
    | fail)
  refine (marshal11 l _ HL.out HV.out).mono ?_
  rintro e w1 ⟨b, cap, rfl, hb, hcell⟩
  have hb0 : Below w.heap.size w w1 := (((Below.refl _ w).alloc (Nat.le_refl _) _).alloc (by simp) _).trans (hb.mono (by simp; omega))
  have hlt1 : w.heap.size + 1 < w1.heap.size := by have := hb.size; simp at this; omega
  have HX0 : Hid (w1.heap[w.heap.size]? = some (.cells (av l) 22 (0, 0))) := (hb.block _ (by simp; omega)).trans (heap_alloc2_old _ _ _)
  have HX1 : Hid (w1.heap[w.heap.size + 1]? = some (.cells (av bf) 22 (0, 0))) := (hb.block _ (by simp)).trans (heap_alloc2_new _ _ _)
  have HCL := (show Hid (∀ i, i < 36 → w1.cell? ⟨b, i, none⟩ = some (.int .u8 (txt (fnOf l) i))) from hcell)
  have hbl : b < w1.heap.size := World.block_lt_of_cell? w1 ⟨b, 0, none⟩ (hcell 0 (by omega))
  clear hb hcell
  go_wp2_with (first
    | (with_reducible show wpList _ _ _ (Oper.mk _ (Op.load 22 (Operand.tmp 3)) _ _ _ _ :: _) _ _; go_must (refine wpList_load_row rfl 22 (.tmp 3) rfl (w.heap.size + 1) rfl 22 (av bf) (0, 0) _ HX1.out Ybaf.underlying22 rfl (info22_av HBF.out) ?_))
    | (with_reducible show wpList _ _ _ (Oper.mk _ (Op.store 26 (Operand.tmp 7) (Operand.tmp 20)) _ _ _ _ :: _) _ _; go_must (refine wpList_store_row rfl 26 (.tmp 7) (.tmp 20) rfl w1.heap.size (av bf) rfl rfl 26 _ (heap_alloc_new _ _) (info26_av HBF.out) (size_av (m := 16) rfl HBF.out) (av_all _) ?_); rw [World.setRow_alloc_new])
    | fail)
  have hb1 : Below w.heap.size w (w1.alloc (.cells (av bf) 26)) := hb0.alloc (by omega) _
  have hcv : (convert 24 9 (.slice (some ⟨b, 0, none⟩) 36 cap)).run Ybaf.prog (w1.alloc (.cells (av bf) 26)) = .ok (.string (strOf (fnOf l))) (w1.alloc (.cells (av bf) 26)) := by
    have := run_convert_bytes_back (P := Ybaf.prog) (w1.alloc (.cells (av bf) 26)) 24 9 5 ⟨b, 0, none⟩ cap (txtL (fnOf l)) Ybaf.underlying24 Ybaf.underlying5 Ybaf.underlying9 (fun j hj => by
      have hadd : (⟨b, 0, none⟩ : Addr).add j = ⟨b, j, none⟩ := by unfold Addr.add; split <;> simp_all
      have hj' : j < 36 := by rw [txtL_len] at hj; exact hj
      rw [hadd, ((Below.refl _ w1).alloc (Nat.le_refl _) _).cell (p := ⟨b, j, none⟩) hbl, HCL.out j hj', txtL_at _ HV.out j hj])
    rw [txtL_len] at this
    exact this
  refine (unm10 F (strOf (fnOf l)) w1.heap.size _ bf _ (by rw [hb1.tape]; exact hF) hcv (heap_alloc_new _ _) HBF.out).mono ?_
  rintro e w2 ⟨hgr, hor⟩
  have hb2 : Below w.heap.size w w2 := hb1.grown hgr (by simp; omega) (fun k hk => by cases hk; omega)
  have HX2 : Hid (w2.heap[w.heap.size]? = some (.cells (av l) 22 (0, 0))) := (hgr.block _ (by simp; omega) (by simp; omega)).trans ((Below.heap_alloc _ _ _ (by omega)).trans HX0.out)
  clear hgr hb1 hcv
  rcases hor with ⟨hok, rfl, hid⟩ | ⟨hok, _⟩
  · rw [id_str l HL.out HV.out] at hid
    have HID := (show Hid (w2.heap[w1.heap.size]? = some (.cells (av l) 26 (0, 0))) from hid)
    have heq := eql_self l HL.out
    clear hid
    go_wp2_with (first
      | (with_reducible show wpList _ _ _ (Oper.mk _ (Op.load 26 (Operand.tmp 7)) _ _ _ _ :: _) _ _; go_must (refine wpList_load_row_g rfl 26 (.tmp 7) rfl w1.heap.size rfl 26 (av l) (0, 0) _ HID.out Ybaf.underlying26 rfl (info26_av HL.out) ?_))
      | (with_reducible show wpList _ _ _ (Oper.mk _ (Op.load 22 (Operand.tmp 2)) _ _ _ _ :: _) _ _; go_must (refine wpList_load_row_g rfl 22 (.tmp 2) rfl w.heap.size rfl 22 (av l) (0, 0) _ HX2.out Ybaf.underlying22 rfl (info22_av HL.out) ?_)))
    go_ret
    exact ⟨rfl, hb2⟩
  · exfalso
    rw [ok_str _ HV.out] at hok
    cases hok
end Go.Proofs.YbulkceogFmt
