/-
  Seat b4036aF: (ID).String and (ID).MarshalText by their contracts.
-/
import Derived.Test.YbulkceogFmtEncode
import Derived.Test.YbulkceogFmtUnm
import Derived.Laws.IdiomStrings
import Derived.Deep.RegionWith
namespace Go.Proofs.YbulkceogFmt
open Go.RowKit

/-- Byte i of the text form of V. -/
def txt (V : Nat → Int) (i : Nat) : Int := if hyB i then 45 else digC V (cnt i)
def txtL (V : Nat → Int) : List UInt8 := (List.range 36).map fun i => UInt8.ofNat (txt V i).toNat
def strOf (V : Nat → Int) : ByteArray := ⟨(txtL V).toArray⟩
def txtTo (V : Nat → Int) (k j : Nat) : Int := if j < k then txt V j else 0
/-- The bytes of an array as a function. -/
def fnOf (l : List Int) (j : Nat) : Int := l.getD j 0

theorem hexD_bd (n : Int) (h0 : 0 ≤ n) (h1 : n ≤ 15) : 0 ≤ hexD n ∧ hexD n ≤ 255 := by unfold hexD; split <;> omega
theorem hexN_hexD (n : Int) (h0 : 0 ≤ n) (h1 : n ≤ 15) : hexN (hexD n) = n ∧ hexB (hexD n) = true := by
  unfold hexD hexN hexB
  split
  · exact ⟨by rw [if_pos (by omega)]; omega, by simp; omega⟩
  · exact ⟨by rw [if_neg (by omega), if_pos (by omega)]; omega, by simp; omega⟩
theorem digC_bd (V : Nat → Int) (hV : ∀ j, j < 16 → 0 ≤ V j ∧ V j ≤ 255) (j : Nat) (hj : j < 32) : 0 ≤ digC V j ∧ digC V j ≤ 255 := by
  have := hV (j / 2) (by omega)
  unfold digC
  split
  · exact hexD_bd _ (by omega) (by omega)
  · exact hexD_bd _ (by omega) (by omega)
theorem txt_bd (V : Nat → Int) (hV : ∀ j, j < 16 → 0 ≤ V j ∧ V j ≤ 255) (i : Nat) (hi : i < 36) : 0 ≤ txt V i ∧ txt V i ≤ 255 := by
  unfold txt
  split
  · omega
  · exact digC_bd V hV _ (cnt_lt hi)
theorem txtTo_step (V : Nat → Int) (k j : Nat) : txtTo V (k + 1) j = if j = k then txt V k else txtTo V k j := by
  unfold txtTo
  by_cases e : j = k
  · subst e; rw [if_pos (by omega), if_pos rfl]
  · rw [if_neg e]
    by_cases h : j < k
    · rw [if_pos (by omega), if_pos h]
    · rw [if_neg (by omega), if_neg h]
theorem txtL_len (V : Nat → Int) : (txtL V).length = 36 := by simp [txtL]
theorem strOf_size (V : Nat → Int) : (strOf V).size = 36 := by simp [strOf, ByteArray.size, txtL_len]
theorem txtL_at (V : Nat → Int) (hV : ∀ j, j < 16 → 0 ≤ V j ∧ V j ≤ 255) (i : Nat) (hi : i < (txtL V).length) : (((txtL V)[i].toNat : Nat) : Int) = txt V i := by
  have hi' : i < 36 := by rw [txtL_len] at hi; exact hi
  have := txt_bd V hV i hi'
  simp [txtL]
  omega
theorem byteOf_str (V : Nat → Int) (hV : ∀ j, j < 16 → 0 ≤ V j ∧ V j ≤ 255) (i : Nat) (hi : i < 36) : byteOf (strOf V) i = txt V i := by
  unfold byteOf strOf
  have hl : i < (txtL V).length := by rw [txtL_len]; exact hi
  rw [show (⟨(txtL V).toArray⟩ : ByteArray).data[i]? = some ((txtL V)[i]'hl) by simp [hl]]
  exact txtL_at V hV i hl
theorem ok_str (V : Nat → Int) (hV : ∀ j, j < 16 → 0 ≤ V j ∧ V j ≤ 255) : okB (strOf V) = true := by
  unfold okB
  rw [strOf_size]
  simp only [decide_true, Bool.true_and]
  rw [acc_iff]
  intro i hi
  unfold goodB
  rw [byteOf_str V hV i hi]
  unfold txt
  cases hh : hyB i with
  | true => simp
  | false =>
    have h1 := hV (cnt i / 2) (by have := cnt_lt hi; omega)
    simp only [Bool.false_eq_true, if_false]
    unfold digC
    split
    · exact (hexN_hexD _ (by omega) (by omega)).2
    · exact (hexN_hexD _ (by omega) (by omega)).2
theorem cnt_pos {k : Nat} (h : k < 32) : cnt (pos k) = k := by
  unfold pos cnt; repeat' split
  all_goals omega
theorem id_str (l : List Int) (hl : l.length = 16) (hV : ∀ j, j < 16 → 0 ≤ fnOf l j ∧ fnOf l j ≤ 255) : idOf (byteOf (strOf (fnOf l))) = l := by
  apply List.ext_getElem?
  intro i
  by_cases hi : i < 16
  · unfold idOf
    rw [List.getElem?_map, List.getElem?_range hi]
    show some (outN _ 32 i) = _
    have hv := hV i hi
    have e1 : byteOf (strOf (fnOf l)) (pos (2 * i)) = hexD (fnOf l i / 16) := by
      rw [byteOf_str _ hV _ (pos_lt (by omega)), txt, pos_dig (by omega), cnt_pos (by omega), digC]
      simp only [Bool.false_eq_true, if_false]
      rw [if_pos (by omega), show 2 * i / 2 = i by omega]
    have e2 : byteOf (strOf (fnOf l)) (pos (2 * i + 1)) = hexD (fnOf l i % 16) := by
      rw [byteOf_str _ hV _ (pos_lt (by omega)), txt, pos_dig (by omega), cnt_pos (by omega), digC]
      simp only [Bool.false_eq_true, if_false]
      rw [if_neg (by omega), show (2 * i + 1) / 2 = i by omega]
    unfold outN
    rw [if_pos (by omega), e1, e2, (hexN_hexD _ (by omega) (by omega)).1, (hexN_hexD _ (by omega) (by omega)).1, List.getElem?_eq_getElem (by omega)]
    have : fnOf l i = l[i]'(by omega) := by unfold fnOf; simp [List.getD_eq_getElem?_getD, hl, hi]
    rw [this] at hv ⊢
    congr 1
    omega
  · rw [List.getElem?_eq_none (by rw [idOf_length]; omega), List.getElem?_eq_none (by omega)]

theorem row_zeros32s (w : World) (t : TypeId) (c : Array Value) (n : Nat) (h : c = av (List.replicate n 0)) : (w.alloc (.cells c t)).rowIs w.heap.size t n (fun _ => .int .u8 0) := by
  subst h
  refine ⟨_, heap_alloc_new _ _, by rw [av_size]; simp, fun i hi => ?_⟩
  rw [av_at _ _ (by simpa using hi), List.getD_eq_getElem?_getD, List.getElem?_replicate]
  split <;> rfl

set_option maxHeartbeats 1600000 in
theorem string19 (l : List Int) (w : World) (hl : l.length = 16) (hV : ∀ j, j < 16 → 0 ≤ fnOf l j ∧ fnOf l j ≤ 255) :
    Calls Ybaf.prog 19 #[.agg (av l)] w fun e w' => e = .returned (.string (strOf (fnOf l))) ∧ Below w.heap.size w w' := by
  have HL : Hid (l.length = 16) := hl
  have HV : Hid (∀ j, j < 16 → 0 ≤ fnOf l j ∧ fnOf l j ≤ 255) := hV
  clear hl hV
  have HR : Hid ((w.alloc (.cells (av l) 26)).rowIs w.heap.size 26 16 (fun j => .int .u8 (fnOf l j))) := by
    have := row_of_block (heap_alloc_new w (.cells (av l) 26))
    rw [HL.out] at this
    exact this
  go_enter Ybaf.func19, Ybaf.ntmps19
  go_wp2
  have hrow2 := row_zeros32s (w.alloc (.cells (av l) 26)) 70 _ 32 rfl
  simp only [World.size_alloc] at hrow2
  go_region_with (go_at_call 26; go_must (refine (encode26 (fnOf l) (w.heap.size + 1) w.heap.size _ HV.out (by exact fun i hi => (HR.out.alloc _).cell hi) (by exact hrow2) (by omega)).mono ?_); rintro e w2 ⟨rfl, hgr, hsz, hdig⟩)
  have hB2 : Below w.heap.size w w2 := (((Below.refl _ w).alloc (Nat.le_refl _) _).alloc (by simp) _).drew.grown hgr (by simp; omega) (fun k hk => by cases hk; omega)
  have hsz2 : w2.heap.size = w.heap.size + 1 + 1 := by rw [hsz]; simp
  clear hgr hrow2 HR hsz
  go_wp2
  go_loopw [5, 10] (fun vn vi wr => ∃ i : Nat, i ≤ 36 ∧ vi = .int .i64 i ∧ vn = .int .i64 (cnt i : Nat) ∧ Hid (wr.rowIs (w.heap.size + 1) 70 32 (fun j => .int .u8 (digC (fnOf l) j))) ∧
      Hid (wr.rowIs (w.heap.size + 1 + 1) 74 36 (fun j => .int .u8 (txtTo (fnOf l) i j))) ∧ Hid (Below w.heap.size w wr)) (fun _ vi _ => 36 - (intOf vi).toNat)
  case atStart =>
    refine ⟨0, by omega, rfl, rfl, hdig.alloc _, ?_, hB2.alloc (by omega) _⟩
    have := row_zeros32s w2 74 _ 36 rfl
    rw [hsz2] at this
    exact this.congr fun j _ => rfl
  case round =>
    obtain ⟨i, hi, rfl, rfl, hdg, htx, hbel⟩ := hrel
    clear hdig hB2 hsz2
    by_cases hlt : i < 36
    · have hf1 : wr.frozen? ⟨w.heap.size + 1 + 1, i, none⟩ = false := htx.out.frozen _
      have hc1 : wr.cell? ⟨w.heap.size + 1 + 1, i, none⟩ = some (.int .u8 (txtTo (fnOf l) i i)) := htx.out.cell hlt
      have hk32 := cnt_lt hlt
      cases hh : hyB i with
      | true =>
        have HK : Hid (cnt (i + 1) = cnt i) := cnt_hy hh
        go_wp2_with (go_at_call 24; refine (ishyphen24 _ _).mono ?_; rintro e w' ⟨rfl, rfl⟩)
        go_roundw
        case rel =>
          refine ⟨i + 1, by omega, by go_num, by rw [HK.out], hdg.out.setOther (by simp) _, (htx.out.set _ _).congr (fun j _ => ?_), hbel.out.setCell (by simp; omega) _⟩
          rw [txtTo_step, txt, hh]
          split <;> rfl
        case measure => simp [intOf]; omega
      | false =>
        have HK : Hid (cnt (i + 1) = cnt i + 1) := cnt_dig hh
        have hc2 : wr.cell? ⟨w.heap.size + 1, cnt i, none⟩ = some (.int .u8 (digC (fnOf l) (cnt i))) := hdg.out.cell hk32
        go_wp2_with (go_at_call 24; refine (ishyphen24 _ _).mono ?_; rintro e w' ⟨rfl, rfl⟩)
        go_roundw
        case rel =>
          refine ⟨i + 1, by omega, by go_num, by rw [HK.out]; go_num, hdg.out.setOther (by simp) _, (htx.out.set _ _).congr (fun j _ => ?_), hbel.out.setCell (by simp; omega) _⟩
          rw [txtTo_step, txt, hh]
          split <;> rfl
        case measure => simp [intOf]; omega
    · have h36 : i = 36 := by omega
      subst h36
      have hcv := run_convert_bytes_back (P := Ybaf.prog) wr 24 9 5 ⟨w.heap.size + 1 + 1, 0, none⟩ 36 (txtL (fnOf l)) Ybaf.underlying24 Ybaf.underlying5 Ybaf.underlying9 (fun j hj => by
        have hadd : (⟨w.heap.size + 1 + 1, 0, none⟩ : Addr).add j = ⟨w.heap.size + 1 + 1, j, none⟩ := by unfold Addr.add; split <;> simp_all
        have hj' : j < 36 := by rw [txtL_len] at hj; exact hj
        rw [hadd, htx.out.cell hj', txtL_at _ HV.out j hj, txtTo, if_pos hj'])
      rw [txtL_len] at hcv
      go_wp2
      go_ret
      exact ⟨rfl, hbel.out⟩
end Go.Proofs.YbulkceogFmt
