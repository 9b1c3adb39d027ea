/-
  Seat b4036aF: ParseID by its contract.
-/
import Derived.Test.YbulkceogFmtErr
import Derived.Test.YbulkceogFmtDecode
import Derived.Deep.RegionWith
namespace Go.Proofs.YbulkceogFmt
open Go.RowKit Go.Extern.Stop Go.Stop Go.Extern

/-- The bytes of a string as numbers. -/
def byteOf (s : ByteArray) (i : Nat) : Int := (((s.data[i]?.getD 0).toNat : Nat) : Int)
theorem byteOf_at (s : ByteArray) (i : Nat) (h : i < s.size) : (((s[i]'h).toNat : Nat) : Int) = byteOf s i := by
  unfold byteOf
  rw [Array.getElem?_eq_getElem (by exact h)]; rfl
theorem byteOf_bd (s : ByteArray) (i : Nat) : 0 ≤ byteOf s i ∧ byteOf s i ≤ 255 := by
  unfold byteOf
  have := (s.data[i]?.getD 0).toNat_lt
  omega
/-- The hyphens' places hold hyphens. -/
def hyTo (T : Nat → Int) (n : Nat) : Prop := ∀ i, i < n → hyB i = true → T i = 45
/-- The row of digits when k have been laid. -/
def digN (T : Nat → Int) (k j : Nat) : Int := if j < k then T (pos j) else 0

theorem hyTo_step {T : Nat → Int} {n : Nat} (h : hyTo T n) (g : hyB n = true → T n = 45) : hyTo T (n + 1) := by
  intro i hi hy
  by_cases e : i = n
  · subst e; exact g hy
  · exact h i (by omega) hy
theorem digN_step (T : Nat → Int) (i k j : Nat) (hp : pos k = i) : digN T (k + 1) j = if j = k then T i else digN T k j := by
  unfold digN
  by_cases e : j = k
  · subst e; rw [if_pos (by omega), if_pos rfl, hp]
  · rw [if_neg e]
    by_cases h : j < k
    · rw [if_pos (by omega), if_pos h]
    · rw [if_neg (by omega), if_neg h]
theorem acc_of {T : Nat → Int} (h : hyTo T 36) (g : allHex (fun k => T (pos k))) : accB T = true := by
  rw [acc_iff]
  intro i hi
  unfold goodB
  cases hh : hyB i with
  | true => simp [h i hi hh]
  | false =>
    have := g (cnt i) (cnt_lt hi)
    simp only [pos_cnt hh] at this
    simpa using this
theorem not_acc_of {T : Nat → Int} (g : ¬ allHex (fun k => T (pos k))) : accB T = false := by
  cases ha : accB T with
  | false => rfl
  | true =>
    exfalso; apply g
    intro k hk
    have := (acc_iff T).1 ha (pos k) (pos_lt hk)
    unfold goodB at this
    rw [pos_dig hk] at this
    simpa using this
theorem pair_out (T : Nat → Int) (j : Nat) (h : j < 16) : pairN (fun k => T (pos k)) j = outN T 32 j := by
  unfold pairN outN; rw [if_pos (by omega)]

theorem row_zeros32 (w : World) (t : TypeId) : (w.alloc (.cells #[Value.int .u8 0, .int .u8 0, .int .u8 0, .int .u8 0, .int .u8 0, .int .u8 0, .int .u8 0, .int .u8 0, .int .u8 0, .int .u8 0, .int .u8 0, .int .u8 0, .int .u8 0, .int .u8 0, .int .u8 0, .int .u8 0, .int .u8 0, .int .u8 0, .int .u8 0, .int .u8 0, .int .u8 0, .int .u8 0, .int .u8 0, .int .u8 0, .int .u8 0, .int .u8 0, .int .u8 0, .int .u8 0, .int .u8 0, .int .u8 0, .int .u8 0, .int .u8 0] t)).rowIs w.heap.size t 32 (fun _ => .int .u8 0) := by
  refine ⟨_, heap_alloc_new _ _, rfl, fun i hi => ?_⟩
  have e : (#[Value.int .u8 0, .int .u8 0, .int .u8 0, .int .u8 0, .int .u8 0, .int .u8 0, .int .u8 0, .int .u8 0, .int .u8 0, .int .u8 0, .int .u8 0, .int .u8 0, .int .u8 0, .int .u8 0, .int .u8 0, .int .u8 0, .int .u8 0, .int .u8 0, .int .u8 0, .int .u8 0, .int .u8 0, .int .u8 0, .int .u8 0, .int .u8 0, .int .u8 0, .int .u8 0, .int .u8 0, .int .u8 0, .int .u8 0, .int .u8 0, .int .u8 0, .int .u8 0] : Array Value) = av (List.replicate 32 0) := rfl
  rw [e, av_at _ _ (by simpa using hi)]
  rw [List.getD_eq_getElem?_getD, List.getElem?_replicate]
  split <;> rfl

theorem info70 : (Ybaf.prog.info? 70).map (·.size) = some 32 := by kernel_rfl

set_option maxHeartbeats 1600000 in
theorem parse18 (F : Interp) (s : ByteArray) (w : World) (hF : F.answers w.tape) (hs : s.size = 36) :
    Calls Ybaf.prog 18 #[.string s] w fun e w' => Below w.heap.size w w' ∧
      ((accB (byteOf s) = true ∧ e = .returned (.tuple #[.agg (av (idOf (byteOf s))), .nilIface])) ∨ (accB (byteOf s) = false ∧ ∃ u x, e = .returned (.tuple #[.agg (av zeros), .iface u x]))) := by
  have HS : Hid (s.size = 36) := hs
  have hs' : ((s.size : Int) != 36) = false := by simp [hs]
  have hs1 : s.size ≤ 36 := by omega
  have hs2 : 36 ≤ s.size := by omega
  clear hs
  go_enter Ybaf.func18, Ybaf.ntmps18
  go_wp2
  go_loopw [5, 6] (fun vn vi wr => ∃ i : Nat, i ≤ 36 ∧ vi = .int .i64 i ∧ vn = .int .i64 (cnt i : Nat) ∧ Hid (hyTo (byteOf s) i) ∧ Hid (wr.rowIs w.heap.size 26 16 (fun _ => .int .u8 0)) ∧
      Hid (wr.rowIs (w.heap.size + 1) 70 32 (fun j => .int .u8 (digN (byteOf s) (cnt i) j))) ∧ Hid (Below w.heap.size w wr) ∧ Hid (wr.heap.size = w.heap.size + 1 + 1)) (fun _ vi _ => 36 - (intOf vi).toNat)
  case atStart =>
    refine ⟨0, by omega, rfl, rfl, fun i hi => absurd hi (by omega), (row_zeros w 26).alloc _, ?_, ((Below.refl _ w).alloc (Nat.le_refl _) _).alloc (by simp) _, by show (_ = _); simp⟩
    have := (row_zeros32 (w.alloc (.cells #[Value.int .u8 0, .int .u8 0, .int .u8 0, .int .u8 0, .int .u8 0, .int .u8 0, .int .u8 0, .int .u8 0, .int .u8 0, .int .u8 0, .int .u8 0, .int .u8 0, .int .u8 0, .int .u8 0, .int .u8 0, .int .u8 0] 26)) 70)
    simp only [World.size_alloc] at this
    exact this.congr fun j _ => by rw [cnt_zero]; rfl
  case round =>
    obtain ⟨i, hi, rfl, rfl, hhy, hres, hdig, hbel, hsz⟩ := hrel
    by_cases hlt : i < 36
    · have hk32 := cnt_lt hlt
      have hTi := byteOf_at s i (by omega)
      have HTi : Hid ((((s[i]'(by omega)).toNat : Nat) : Int) = byteOf s i) := hTi
      clear hTi
      cases hh : hyB i with
      | true =>
        by_cases h45 : byteOf s i = 45
        · have h45' : ((((s[i]'(by omega)).toNat : Nat) : Int) != 45) = false := by rw [HTi.out]; simpa using h45
          have HH : Hid (hyTo (byteOf s) (i + 1)) := hyTo_step hhy.out (fun _ => h45)
          have HK : Hid (cnt (i + 1) = cnt i) := cnt_hy hh
          clear h45
          go_wp2_with (go_at_call 24; refine (ishyphen24 _ _).mono ?_; rintro e w' ⟨rfl, rfl⟩)
          go_roundw
          case rel => exact ⟨i + 1, by omega, by go_num, by rw [HK.out], HH, hres, by rw [HK.out]; exact hdig, hbel, hsz⟩
          case measure => simp [intOf]; omega
        · have hno : accB (byteOf s) = false := acc_not hlt (by unfold goodB; rw [hh]; simpa using h45)
          have h45' : ((((s[i]'(by omega)).toNat : Nat) : Int) != 45) = true := by rw [HTi.out]; simpa using h45
          clear h45
          obtain ⟨old, hg0, hs0, _⟩ := hres.out
          have HG0 : Hid (wr.heap[w.heap.size]? = some (.cells old 26 (0, 0))) := hg0
          have hFr : F.answers wr.tape := by rw [hbel.out.tape]; exact hF
          clear hg0
          go_wp2_with (first | (go_at_call 24; refine (ishyphen24 _ _).mono ?_; rintro e w' ⟨rfl, rfl⟩) | (go_at_call 23; refine (malformed23 F s _ (by exact hFr)).mono ?_; rintro e w1 ⟨rfl, hb⟩; have hg1 := (hb.block w.heap.size (by have := hsz.out; omega)).trans HG0.out; have HG1 := (show Hid _ from hg1); clear hg1) | (with_reducible show wpList _ _ _ (Oper.mk _ (Op.store 26 (Operand.tmp 2) (Operand.tmp 34)) _ _ _ _ :: _) _ _; go_must (refine wpList_store_row rfl 26 (.tmp 2) (.tmp 34) rfl w.heap.size (av zeros) rfl rfl 26 _ HG1.out (info26_av zeros_len) (size_av hs0 zeros_len) (av_all _) ?_)))
          refine bodyPost_ret (v := .tuple #[.agg (av zeros), .iface 75 (.pointer (some ⟨_, 0, none⟩))]) (results_cell_tmp Ybaf.results18 _ _ w.heap.size 26 (av zeros) (0, 0) _ rfl (setRow_heap _ _ _ _ _ _ HG1.out) Ybaf.underlying26 rfl (info26_av zeros_len)) rfl ⟨below_setRow' (hbel.out.trans (hb.mono (by have := hsz.out; omega))) (Nat.le_refl _) _, .inr ⟨hno, _, _, rfl⟩⟩
      | false =>
        have HH : Hid (hyTo (byteOf s) (i + 1)) := hyTo_step hhy.out (fun h => by rw [hh] at h; cases h)
        have HK : Hid (cnt (i + 1) = cnt i + 1) := cnt_dig hh
        have HP : Hid (pos (cnt i) = i) := pos_cnt hh
        generalize hk0 : cnt i = k at *
        have hf1 : wr.frozen? ⟨w.heap.size + 1, k, none⟩ = false := hdig.out.frozen _
        have hc1 : wr.cell? ⟨w.heap.size + 1, k, none⟩ = some (.int .u8 (digN (byteOf s) k k)) := hdig.out.cell (by omega)
        clear hk0
        go_wp2_with (go_at_call 24; refine (ishyphen24 _ _).mono ?_; rintro e w' ⟨rfl, rfl⟩)
        go_roundw
        case rel =>
          refine ⟨i + 1, by omega, by go_num, by rw [HK.out]; go_num, HH, hres.out.setOther (by simp) _, (hdig.out.set _ _).congr (fun j _ => ?_), hbel.out.setCell (by simp) _, by show (_ = _); simpa [World.setCell] using hsz.out⟩
          rw [HK.out, digN_step (byteOf s) i k j HP.out, ← HTi.out]
          split <;> rfl
        case measure => simp [intOf]; omega
    · have h36 : i = 36 := by omega
      subst h36
      have hszz := hsz.out
      have HD : Hid (∀ j, j < 32 → wr.cell? ⟨w.heap.size + 1, j, none⟩ = some (.int .u8 (byteOf s (pos j)))) := fun j hj => by
        rw [hdig.out.cell hj]; unfold digN; rw [cnt_end, if_pos hj]
      obtain ⟨old, hg0, hs0, _⟩ := hres.out
      have HG0 : Hid (wr.heap[w.heap.size]? = some (.cells old 26 (0, 0))) := hg0
      have hFr : F.answers wr.tape := by rw [hbel.out.tape]; exact hF
      clear hg0
      have hrow := row_zeros wr 26
      rw [hszz] at hrow
      have hcD : ∀ j, j < 32 → (wr.alloc (.cells #[Value.int .u8 0, .int .u8 0, .int .u8 0, .int .u8 0, .int .u8 0, .int .u8 0, .int .u8 0, .int .u8 0, .int .u8 0, .int .u8 0, .int .u8 0, .int .u8 0, .int .u8 0, .int .u8 0, .int .u8 0, .int .u8 0] 26)).cell? ⟨w.heap.size + 1, j, none⟩ = some (.int .u8 (byteOf s (pos j))) := fun j hj =>
        (((Below.refl _ wr).alloc (Nat.le_refl _) _).cell (p := ⟨w.heap.size + 1, j, none⟩) (by simp; omega)).trans (HD.out j hj)
      have HR := (show Hid _ from hrow)
      have HCD := (show Hid _ from hcD)
      clear hrow hcD
      go_wp2
      go_region_with (go_at_call 25; refine (decode25_n (fun k => byteOf s (pos k)) (w.heap.size + 1 + 1) (w.heap.size + 1) _ (fun i => byteOf_bd s (pos i)) (by exact HCD.out) (by exact HR.out) (by omega)).mono ?_; rintro e w2 ⟨n, v, rfl, hgr, hor⟩)
      have hB2 : Below w.heap.size w w2 := (hbel.out.alloc (by omega) _).drew.grown hgr (by simp; omega) (fun k hk => by cases hk; omega)
      have hg2 : w2.heap[w.heap.size]? = some (.cells old 26 (0, 0)) := (hgr.block w.heap.size (by simp; omega) (by simp; omega)).trans ((Below.heap_alloc wr _ _ (by omega)).trans HG0.out)
      have HG2 := (show Hid _ from hg2)
      have hsz2 : w.heap.size + 1 + 1 + 1 ≤ w2.heap.size := by have := hgr.size; simp at this; omega
      have hF2 : F.answers w2.tape := by rw [hB2.tape]; exact hF
      clear hgr hg2 HR HCD HG0 HD hszz
      rcases hor with ⟨hall, rfl, hrow2⟩ | ⟨hall, x, rfl⟩
      · have hyes : accB (byteOf s) = true := acc_of hhy.out hall
        have hblk := block_of_row (hrow2.congr (g := fun j => .int .u8 (outN (byteOf s) 32 j)) (fun j hj => by rw [pair_out (byteOf s) j hj]))
        have HB : Hid (w2.heap[w.heap.size + 1 + 1]? = some (.cells (av (idOf (byteOf s))) 26 (0, 0))) := hblk
        clear hblk hrow2 hall
        go_wp2_with (first | (with_reducible show wpList _ _ _ (Oper.mk _ (Op.load 26 (Operand.tmp 7)) _ _ _ _ :: _) _ _; go_must (refine wpList_load_row rfl 26 (.tmp 7) rfl (w.heap.size + 1 + 1) rfl 26 (av (idOf (byteOf s))) (0, 0) _ HB.out Ybaf.underlying26 rfl (info26_av (idOf_length _)) ?_)) | (with_reducible show wpList _ _ _ (Oper.mk _ (Op.store 26 (Operand.tmp 2) (Operand.tmp 48)) _ _ _ _ :: _) _ _; go_must (refine wpList_store_row rfl 26 (.tmp 2) (.tmp 48) rfl w.heap.size (av (idOf (byteOf s))) rfl rfl 26 _ HG2.out (info26_av (idOf_length _)) (size_av hs0 (idOf_length _)) (av_all _) ?_)))
        refine bodyPost_ret (v := .tuple #[.agg (av (idOf (byteOf s))), .nilIface]) (results_cell_tmp Ybaf.results18 _ _ w.heap.size 26 (av (idOf (byteOf s))) (0, 0) _ rfl (setRow_heap _ _ _ _ _ _ HG2.out) Ybaf.underlying26 rfl (info26_av (idOf_length _))) rfl ⟨below_setRow' hB2 (Nat.le_refl _) _, .inl ⟨hyes, rfl⟩⟩
      · have hno : accB (byteOf s) = false := not_acc_of hall
        clear hall
        go_wp2_with (first | (go_at_call 23; refine (malformed23 F s _ (by exact hF2)).mono ?_; rintro e w3 ⟨rfl, hb⟩; have hg3 := (hb.block w.heap.size (by omega)).trans HG2.out; have HG3 := (show Hid _ from hg3); clear hg3) | (with_reducible show wpList _ _ _ (Oper.mk _ (Op.store 26 (Operand.tmp 2) (Operand.tmp 45)) _ _ _ _ :: _) _ _; go_must (refine wpList_store_row rfl 26 (.tmp 2) (.tmp 45) rfl w.heap.size (av zeros) rfl rfl 26 _ HG3.out (info26_av zeros_len) (size_av hs0 zeros_len) (av_all _) ?_)))
        refine bodyPost_ret (v := .tuple #[.agg (av zeros), .iface 75 (.pointer (some ⟨_, 0, none⟩))]) (results_cell_tmp Ybaf.results18 _ _ w.heap.size 26 (av zeros) (0, 0) _ rfl (setRow_heap _ _ _ _ _ _ HG3.out) Ybaf.underlying26 rfl (info26_av zeros_len)) rfl ⟨below_setRow' (hB2.trans (hb.mono (by omega))) (Nat.le_refl _) _, .inr ⟨hno, _, _, rfl⟩⟩

set_option maxHeartbeats 800000 in
/-- A text of another length. -/
theorem parse18_len (F : Interp) (s : ByteArray) (w : World) (hF : F.answers w.tape) (hs : s.size ≠ 36) :
    Calls Ybaf.prog 18 #[.string s] w fun e w' => Below w.heap.size w w' ∧ ∃ u x, e = .returned (.tuple #[.agg (av zeros), .iface u x]) := by
  have hs' : ((s.size : Int) != 36) = true := by simp; omega
  clear hs
  go_enter Ybaf.func18, Ybaf.ntmps18
  go_wp2_with (first | (go_at_call 23; refine (malformed23 F s _ (by exact hF)).mono ?_; rintro e w3 ⟨rfl, hb⟩; have hg3 := (hb.block w.heap.size (by simp)).trans (heap_alloc_new _ _); have HG3 := (show Hid _ from hg3); clear hg3) | (with_reducible show wpList _ _ _ (Oper.mk _ (Op.store 26 (Operand.tmp 2) (Operand.tmp 13)) _ _ _ _ :: _) _ _; go_must (refine wpList_store_row rfl 26 (.tmp 2) (.tmp 13) rfl w.heap.size (av zeros) rfl rfl 26 _ HG3.out (info26_av zeros_len) rfl (av_all _) ?_)))
  refine bodyPost_ret (v := .tuple #[.agg (av zeros), .iface 75 (.pointer (some ⟨_, 0, none⟩))]) (results_cell_tmp Ybaf.results18 _ _ w.heap.size 26 (av zeros) (0, 0) _ rfl (setRow_heap _ _ _ _ _ _ HG3.out) Ybaf.underlying26 rfl (info26_av zeros_len)) rfl ⟨below_setRow' (((Below.refl _ w).alloc (Nat.le_refl _) _).trans (hb.mono (by simp))) (Nat.le_refl _) _, _, _, rfl⟩
end Go.Proofs.YbulkceogFmt
