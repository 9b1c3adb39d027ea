/-
  Seat b4036aF: zzs4036amodel by its contract.
-/
import Derived.Test.YbulkceogFmtKit
namespace Go.Proofs.YbulkceogFmt
open Go.RowKit

set_option maxHeartbeats 1000000 in
theorem model9 (T : Nat → Int) (b off cap : Nat) (w : World) (hT : ∀ i, 0 ≤ T i ∧ T i ≤ 255) (hc : ∀ i, i < 36 → w.cell? ⟨b, off + i, none⟩ = some (.int .u8 (T i))) :
    Calls Ybaf.prog 9 #[.slice (some ⟨b, off, none⟩) 36 cap] w fun e w' =>
      e = .returned (.tuple #[.agg (av (if accB T then idOf T else zeros)), .bool (accB T)]) ∧ Below w.heap.size w w' := by
  have hb : b < w.heap.size := World.block_lt_of_cell? w ⟨b, off + 0, none⟩ (hc 0 (by omega))
  have HC : Hid (∀ i, i < 36 → w.cell? ⟨b, off + i, none⟩ = some (.int .u8 (T i))) := hc
  have HT : Hid (∀ i, 0 ≤ T i ∧ T i ≤ 255) := hT
  clear hc hT
  go_enter Ybaf.func9, Ybaf.ntmps9
  go_wp2
  go_loopw [5, 6] (fun vk vi wr => ∃ i : Nat, i ≤ 36 ∧ vi = .int .i64 i ∧ vk = .int .i64 (cnt i : Nat) ∧ Hid (goodTo T i) ∧ Hid (wr.rowIs w.heap.size 26 16 (fun _ => .int .u8 0)) ∧
      Hid (wr.rowIs (w.heap.size + 1) 26 16 (fun j => .int .u8 (outN T (cnt i) j))) ∧ Hid (Below w.heap.size w wr)) (fun _ vi _ => 36 - (intOf vi).toNat)
  case atStart =>
    refine ⟨0, by omega, rfl, rfl, fun i hi => absurd hi (by omega), (row_zeros w 26).alloc _, ?_, ((Below.refl _ w).alloc (Nat.le_refl _) _).alloc (by simp) _⟩
    have := (row_zeros (w.alloc (.cells #[Value.int .u8 0, .int .u8 0, .int .u8 0, .int .u8 0, .int .u8 0, .int .u8 0, .int .u8 0, .int .u8 0, .int .u8 0, .int .u8 0, .int .u8 0, .int .u8 0, .int .u8 0, .int .u8 0, .int .u8 0, .int .u8 0] 26)) 26)
    simp only [World.size_alloc] at this
    exact this.congr fun j _ => by rw [cnt_zero, outN_zero]
  case round =>
    obtain ⟨i, hi, rfl, rfl, hgood, hres, hout, hbel⟩ := hrel
    have hcx : i < 36 → wr.cell? ⟨b, off + i, none⟩ = some (.int .u8 (T i)) := fun h => (hbel.out.cell (p := ⟨b, off + i, none⟩) hb).trans (HC.out i h)
    by_cases hlt : i < 36
    · cases hh : hyB i with
      | true =>
        by_cases h45 : T i = 45
        · have hgs := good_step hgood.out (show goodB T i = true by unfold goodB; rw [hh, h45]; rfl)
          have hcs := cnt_hy hh
          have HG : Hid (goodTo T (i + 1)) := hgs
          have HK : Hid (cnt (i + 1) = cnt i) := hcs
          clear hgs hcs
          go_wp2_with (go_at_call 16; refine (ishyphen16 _ _).mono ?_; rintro e w' ⟨rfl, rfl⟩)
          go_roundw
          case rel => exact ⟨i + 1, by omega, by go_num, by rw [HK.out], HG, hres, by rw [HK.out]; exact hout, hbel⟩
          case measure => simp [intOf]; omega
        · have hno : accB T = false := acc_not hlt (by unfold goodB; rw [hh]; simpa using h45)
          have h45' : (T i != 45) = true := by simpa using h45
          clear h45
          obtain ⟨old, hg0, hs0, _⟩ := hres.out
          go_wp2_with (first | (go_at_call 16; refine (ishyphen16 _ _).mono ?_; rintro e w' ⟨rfl, rfl⟩) | (with_reducible show wpList _ _ _ (Oper.mk _ (Op.store 26 (Operand.tmp 2) (Operand.tmp 26)) _ _ _ _ :: _) _ _; go_must (refine wpList_store_row rfl 26 (.tmp 2) (.tmp 26) rfl w.heap.size (av zeros) rfl rfl 26 _ hg0 (info26_av zeros_len) (size_av hs0 zeros_len) (av_all _) ?_)))
          all_goals
            refine bodyPost_ret (v := .tuple #[.agg (av zeros), .bool false]) (results_cell_tmp Ybaf.results9 _ _ w.heap.size 26 (av zeros) (0, 0) _ rfl (setRow_heap _ _ _ _ _ _ hg0) Ybaf.underlying26 rfl (info26_av zeros_len)) rfl ⟨rfl, below_setRow' hbel.out (Nat.le_refl _) _⟩
      | false =>
        have hT0 := (HT.out i).1
        have hT1 := (HT.out i).2
        cases hx : hexB (T i) with
        | false =>
          have hno : accB T = false := acc_not hlt (by unfold goodB; rw [hh]; exact hx)
          obtain ⟨old, hg0, hs0, _⟩ := hres.out
          go_wp2_with (first | (go_at_call 16; refine (ishyphen16 _ _).mono ?_; rintro e w' ⟨rfl, rfl⟩) | (go_at_call 17; refine (hex17 _ _ hT0 hT1).mono ?_; rintro e w' ⟨rfl, rfl⟩) | (with_reducible show wpList _ _ _ (Oper.mk _ (Op.store 26 (Operand.tmp 2) (Operand.tmp 34)) _ _ _ _ :: _) _ _; go_must (refine wpList_store_row rfl 26 (.tmp 2) (.tmp 34) rfl w.heap.size (av zeros) rfl rfl 26 _ hg0 (info26_av zeros_len) (size_av hs0 zeros_len) (av_all _) ?_)))
          all_goals
            refine bodyPost_ret (v := .tuple #[.agg (av zeros), .bool false]) (results_cell_tmp Ybaf.results9 _ _ w.heap.size 26 (av zeros) (0, 0) _ rfl (setRow_heap _ _ _ _ _ _ hg0) Ybaf.underlying26 rfl (info26_av zeros_len)) rfl ⟨rfl, below_setRow' hbel.out (Nat.le_refl _) _⟩
        | true =>
          have HG : Hid (goodTo T (i + 1)) := good_step hgood.out (show goodB T i = true by unfold goodB; rw [hh]; exact hx)
          have HK : Hid (cnt (i + 1) = cnt i + 1) := cnt_dig hh
          have HP : Hid (pos (cnt i) = i) := pos_cnt hh
          have hk32 := cnt_lt hlt
          have hv := hexN_bd (T i)
          generalize hk0 : cnt i = k at *
          have HK0 : Hid (cnt i = k) := hk0
          clear hk0
          rcases Nat.mod_two_eq_zero_or_one k with he | he
          · have he' : ((k : Int) % 2 == 0) = true := by simp; omega
            have hf1 : wr.frozen? ⟨w.heap.size + 1, k / 2, none⟩ = false := hout.out.frozen _
            have hc1 : wr.cell? ⟨w.heap.size + 1, k / 2, none⟩ = some (.int .u8 (outN T k (k / 2))) := hout.out.cell (by omega)
            go_wp2_with (first | (go_at_call 16; refine (ishyphen16 _ _).mono ?_; rintro e w' ⟨rfl, rfl⟩) | (go_at_call 17; refine (hex17 _ _ hT0 hT1).mono ?_; rintro e w' ⟨rfl, rfl⟩))
            go_roundw
            case rel => exact ⟨i + 1, by omega, by go_num, by rw [HK.out]; go_num, HG, hres.out.setOther (by simp) _, (hout.out.set _ _).congr (fun j _ => by rw [HK.out, outN_even T i k j he HP.out]; split <;> rfl), hbel.out.setCell (by simp) _⟩
            case measure => simp [intOf]; omega
          · have he' : ((k : Int) % 2 == 0) = false := by simp; omega
            have hf1 : wr.frozen? ⟨w.heap.size + 1, k / 2, none⟩ = false := hout.out.frozen _
            have hc1 : wr.cell? ⟨w.heap.size + 1, k / 2, none⟩ = some (.int .u8 (outN T k (k / 2))) := hout.out.cell (by omega)
            go_wp2_with (first | (go_at_call 16; refine (ishyphen16 _ _).mono ?_; rintro e w' ⟨rfl, rfl⟩) | (go_at_call 17; refine (hex17 _ _ hT0 hT1).mono ?_; rintro e w' ⟨rfl, rfl⟩))
            go_roundw
            case rel => exact ⟨i + 1, by omega, by go_num, by rw [HK.out]; go_num, HG, hres.out.setOther (by simp) _, (hout.out.set _ _).congr (fun j _ => by rw [HK.out, outN_odd T i k j he HP.out, out_or T i k he]; split <;> rfl), hbel.out.setCell (by simp) _⟩
            case measure => simp [intOf]; omega
    · have h36 : i = 36 := by omega
      subst h36
      have hyes : accB T = true := (acc_iff T).2 hgood.out
      have hblk := block_of_row hout.out
      obtain ⟨old, hg0, hs0, _⟩ := hres.out
      have HB : Hid (wr.heap[w.heap.size + 1]? = some (.cells (av (idOf T)) 26 (0, 0))) := hblk
      clear hblk
      go_wp2_with (first | (with_reducible show wpList _ _ _ (Oper.mk _ (Op.load 26 (Operand.tmp 4)) _ _ _ _ :: _) _ _; go_must (refine wpList_load_row rfl 26 (.tmp 4) rfl (w.heap.size + 1) rfl 26 (av (idOf T)) (0, 0) _ HB.out Ybaf.underlying26 rfl (info26_av (idOf_length T)) ?_)) | (with_reducible show wpList _ _ _ (Oper.mk _ (Op.store 26 (Operand.tmp 2) (Operand.tmp 52)) _ _ _ _ :: _) _ _; go_must (refine wpList_store_row rfl 26 (.tmp 2) (.tmp 52) rfl w.heap.size (av (idOf T)) rfl rfl 26 _ hg0 (info26_av (idOf_length T)) (size_av hs0 (idOf_length T)) (av_all _) ?_)))
      refine bodyPost_ret (v := .tuple #[.agg (av (idOf T)), .bool true]) (results_cell_tmp Ybaf.results9 _ _ w.heap.size 26 (av (idOf T)) (0, 0) _ rfl (setRow_heap _ _ _ _ _ _ hg0) Ybaf.underlying26 rfl (info26_av (idOf_length T))) rfl ⟨rfl, below_setRow' hbel.out (Nat.le_refl _) _⟩

set_option maxHeartbeats 400000 in
/-- A text of another length is refused. -/
theorem model9_len (ao : Option Addr) (len cap : Nat) (w : World) (h : len ≠ 36) :
    Calls Ybaf.prog 9 #[.slice ao len cap] w fun e w' => e = .returned (.tuple #[.agg (av zeros), .bool false]) ∧ Below w.heap.size w w' := by
  have h' : ((len : Int) != 36) = true := by simp; omega
  clear h
  go_enter Ybaf.func9, Ybaf.ntmps9
  go_wp2
  all_goals
    refine bodyPost_ret (v := .tuple #[.agg (av zeros), .bool false]) (results_cell_tmp Ybaf.results9 _ _ w.heap.size 26 (av zeros) (0, 0) _ rfl (heap_alloc_new _ _) Ybaf.underlying26 rfl (info26_av zeros_len)) rfl ⟨rfl, (Below.refl _ w).alloc (Nat.le_refl _) _⟩
end Go.Proofs.YbulkceogFmt
