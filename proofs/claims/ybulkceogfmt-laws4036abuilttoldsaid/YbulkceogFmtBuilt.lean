/-
  Seat b4036aF: the walk of LawS4036ABuilt.
-/
import Derived.Test.YbulkceogFmtBuild
import Derived.Test.YbulkceogFmtText
namespace Go.Proofs.YbulkceogFmt
open Go.RowKit Go.Extern.Stop Go.Stop Go.Extern

theorem hexU_bd (n : Int) (h0 : 0 ≤ n) (h1 : n ≤ 15) : 0 ≤ hexU n ∧ hexU n ≤ 255 := by unfold hexU; split <;> omega
theorem hexN_hexU (n : Int) (h0 : 0 ≤ n) (h1 : n ≤ 15) : hexN (hexU n) = n ∧ hexB (hexU n) = true := by
  unfold hexU hexN hexB
  split
  · exact ⟨by rw [if_pos (by omega)]; omega, by simp; omega⟩
  · exact ⟨by rw [if_neg (by omega), if_neg (by omega), if_pos (by omega)]; omega, by simp; omega⟩
theorem nib_bd (V : Nat → Int) (hV : ∀ j, j < 16 → 0 ≤ V j ∧ V j ≤ 255) (k : Nat) (hk : k < 32) : 0 ≤ nibOf V k ∧ nibOf V k ≤ 15 := by
  have := hV (k / 2) (by omega)
  unfold nibOf; split <;> omega
theorem btxt_bd (V : Nat → Int) (u : Int) (hV : ∀ j, j < 16 → 0 ≤ V j ∧ V j ≤ 255) (i : Nat) (hi : i < 36) : 0 ≤ btxt V u i ∧ btxt V u i ≤ 255 := by
  have hn := nib_bd V hV (cnt i) (cnt_lt hi)
  unfold btxt
  split
  · omega
  · split
    · exact hexU_bd _ hn.1 hn.2
    · exact hexD_bd _ hn.1 hn.2
theorem btxt_dig (V : Nat → Int) (u : Int) (hV : ∀ j, j < 16 → 0 ≤ V j ∧ V j ≤ 255) (k : Nat) (hk : k < 32) : hexN (btxt V u (pos k)) = nibOf V k ∧ hexB (btxt V u (pos k)) = true := by
  have hn := nib_bd V hV k hk
  unfold btxt
  rw [pos_dig hk, cnt_pos hk]
  simp only [Bool.false_eq_true, if_false]
  split
  · exact hexN_hexU _ hn.1 hn.2
  · exact hexN_hexD _ hn.1 hn.2
theorem acc_congr {T S : Nat → Int} (h : ∀ i, i < 36 → T i = S i) : accB T = accB S := by
  have e : ∀ i, i < 36 → goodB T i = goodB S i := fun i hi => by unfold goodB; rw [h i hi]
  rw [Bool.eq_iff_iff, acc_iff, acc_iff]
  exact ⟨fun g i hi => (e i hi) ▸ g i hi, fun g i hi => (e i hi).symm ▸ g i hi⟩
theorem built_ok (l : List Int) (u : Int) (T : Nat → Int) (hl : l.length = 16) (hV : ∀ j, j < 16 → 0 ≤ fnOf l j ∧ fnOf l j ≤ 255) (hT : ∀ i, i < 36 → T i = btxt (fnOf l) u i) : accB T = true ∧ idOf T = l := by
  constructor
  · rw [acc_congr hT, acc_iff]
    intro i hi
    unfold goodB
    cases hh : hyB i with
    | true => simp [btxt, hh]
    | false =>
      have := (btxt_dig (fnOf l) u hV (cnt i) (cnt_lt hi)).2
      rw [pos_cnt hh] at this
      simpa using this
  · apply List.ext_getElem?
    intro i
    by_cases hi : i < 16
    · unfold idOf
      rw [List.getElem?_map, List.getElem?_range hi]
      show some (outN _ 32 i) = _
      have hv := hV i hi
      unfold outN
      rw [if_pos (by omega), hT _ (pos_lt (by omega)), hT _ (pos_lt (by omega)), (btxt_dig _ u hV _ (by omega)).1, (btxt_dig _ u hV _ (by omega)).1, List.getElem?_eq_getElem (by omega)]
      have e : fnOf l i = l[i]'(by omega) := by unfold fnOf; simp [List.getD_eq_getElem?_getD, hl, hi]
      unfold nibOf
      rw [if_pos (show 2 * i % 2 = 0 by omega), if_neg (show ¬ (2 * i + 1) % 2 = 0 by omega), show 2 * i / 2 = i by omega, show (2 * i + 1) / 2 = i by omega]
      rw [e] at hv ⊢
      congr 1
      omega
    · rw [List.getElem?_eq_none (by rw [idOf_length]; omega), List.getElem?_eq_none (by omega)]

/-- The text behind the edit. -/
def edTxt (V : Nat → Int) (u : Int) (ed : Bool) (ps sb : Int) (i : Nat) : Int := if ed = true ∧ i = (ps % 36).toNat then sb else btxt V u i
def numsOf (E : Nat → Int) : List Int := (List.range 36).map E
theorem nums_at (E : Nat → Int) (i : Nat) (h : i < 36) : (numsOf E).getD i 0 = E i := by
  unfold numsOf
  rw [List.getD_eq_getElem?_getD, List.getElem?_map, List.getElem?_range h]
  rfl
theorem text_of_row {w : World} {g : Nat} {E : Nat → Int} (hE : ∀ i, i < 36 → 0 ≤ E i ∧ E i ≤ 255) (h : w.rowIs g 5 36 (fun j => .int .u8 (E j))) : IsText w (.slice (some ⟨g, 0, none⟩) 36 36) ⟨(bytesOf (numsOf E)).toArray⟩ := by
  refine text_row w ⟨g, 0, none⟩ 36 36 (numsOf E) (by simp [numsOf]) (fun i hi => ?_) (fun i hi => ?_) (fun _ => ⟨g, 0, rfl⟩)
  · rw [nums_at E i hi]; exact hE i hi
  · have hadd : (⟨g, 0, none⟩ : Addr).add i = ⟨g, i, none⟩ := by unfold Addr.add; split <;> simp_all
    rw [hadd, nums_at E i hi]
    exact h.cell hi
theorem byteOf_nums {E : Nat → Int} (hE : ∀ i, i < 36 → 0 ≤ E i ∧ E i ≤ 255) (i : Nat) (hi : i < 36) : byteOf ⟨(bytesOf (numsOf E)).toArray⟩ i = E i := by
  have h := hE i hi
  rw [byteOf_of (numsOf E) i (by simpa [numsOf] using hi) (by rw [nums_at E i hi]; exact h.1) (by rw [nums_at E i hi]; exact h.2), nums_at E i hi]
theorem nums_size (E : Nat → Int) : (⟨(bytesOf (numsOf E)).toArray⟩ : ByteArray).size = 36 := by simp [ByteArray.size, bytesOf, numsOf]

set_option maxHeartbeats 1600000 in
theorem built3_false (F : Interp) (l bf : List Int) (u ps sb : Int) (w : World) (hF : F.answers w.tape) (hl : l.length = 16) (hV : ∀ j, j < 16 → 0 ≤ fnOf l j ∧ fnOf l j ≤ 255) (hbf : bf.length = 16)
    (hu : 0 ≤ u ∧ u ≤ 4294967295) (_hps : 0 ≤ ps ∧ ps ≤ 255) (hsb : 0 ≤ sb ∧ sb ≤ 255) :
    Calls Ybaf.prog 3 #[.agg (av l), .agg (av bf), .int .u32 u, .bool false, .int .u8 ps, .int .u8 sb] w fun e w' => e = .returned (.bool true) ∧ Below w.heap.size w w' := by
  have HL : Hid (l.length = 16) := hl
  have HV : Hid (∀ j, j < 16 → 0 ≤ fnOf l j ∧ fnOf l j ≤ 255) := hV
  have HBF : Hid (bf.length = 16) := hbf
  have HU : Hid (0 ≤ u ∧ u ≤ 4294967295) := hu
  have HE : Hid (∀ i, i < 36 → 0 ≤ edTxt (fnOf l) u false ps sb i ∧ edTxt (fnOf l) u false ps sb i ≤ 255) := fun i hi => by
    unfold edTxt; split
    · exact hsb
    · exact btxt_bd _ _ hV i hi
  have h26 := noGuard26
  clear hl hV hbf hu
  go_enter Ybaf.func3, Ybaf.ntmps3
  go_wp2_with (first
    | (with_reducible show wpList _ _ _ (Oper.mk _ (Op.load 22 (Operand.tmp 6)) _ _ _ _ :: _) _ _; go_must (refine wpList_load_row rfl 22 (.tmp 6) rfl w.heap.size rfl 22 (av l) (0, 0) _ (heap_alloc2_old _ _ _) Ybaf.underlying22 rfl (info22_av HL.out) ?_))
    | fail)
  refine (build8 l u _ HL.out HV.out HU.out).mono ?_
  rintro e w1 ⟨rfl, hb, hrow⟩
  simp only [World.size_alloc] at hb hrow ⊢
  have hb0 : Below w.heap.size w w1 := (((Below.refl _ w).alloc (Nat.le_refl _) _).alloc (by simp) _).trans (hb.mono (by omega))
  have hlt1 : w.heap.size + 1 + 1 + 1 < w1.heap.size := hrow.lt
  have HX0 : Hid (w1.heap[w.heap.size]? = some (.cells (av l) 22 (0, 0))) := (hb.block _ (by omega)).trans (heap_alloc2_old _ _ _)
  have HX1 : Hid (w1.heap[w.heap.size + 1]? = some (.cells (av bf) 22 (0, 0))) := (hb.block _ (by omega)).trans (heap_alloc2_new _ _ _)
  clear hb
  have HT : Hid (w1.rowIs (w.heap.size + 1 + 1 + 1) 5 36 (fun j => .int .u8 (edTxt (fnOf l) u false ps sb j))) := hrow.congr (fun j _ => by
    unfold edTxt
    rw [if_neg (by simp)])
  clear hrow
  go_wp2_with fail
  have hb1 := hb0
  have HX0' := HX0
  have HX1' := HX1
  have hlt2 := hlt1
  clear hb0 HX0 HX1 hlt1
  generalize w1 = wx at *
  have hs := text_of_row HE.out HT.out
  have hsz := nums_size (edTxt (fnOf l) u false ps sb)
  have hbt := byteOf_nums HE.out
  have HO : Hid (okB ⟨(bytesOf (numsOf (edTxt (fnOf l) u false ps sb))).toArray⟩ = true ∧ idOf (byteOf ⟨(bytesOf (numsOf (edTxt (fnOf l) u false ps sb))).toArray⟩) = l) := by
    have := built_ok l u (byteOf ⟨(bytesOf (numsOf (edTxt (fnOf l) u false ps sb))).toArray⟩) HL.out HV.out (fun i hi => by
      rw [hbt i hi]; unfold edTxt; rw [if_neg (by simp)])
    exact ⟨by unfold okB; rw [hsz, this.1]; rfl, this.2⟩
  clear HE HT hsz hbt
  generalize (⟨(bytesOf (numsOf (edTxt (fnOf l) u false ps sb))).toArray⟩ : ByteArray) = s at *
  refine (hs.model _ (Below.refl _ _)).mono ?_
  rintro e w2 ⟨rfl, hb⟩
  have hB2 : Below w.heap.size w w2 := hb1.trans (hb.mono (by omega))
  have hlt3 : w.heap.size + 1 + 1 + 1 < w2.heap.size := by have := hb.size; omega
  have HX0 : Hid (∀ o, (w2.alloc o).heap[w.heap.size]? = some (.cells (av l) 22 (0, 0))) := fun o => (Below.heap_alloc w2 o _ (by omega)).trans ((hb.block _ (by omega)).trans HX0'.out)
  have HX1 : Hid (∀ o, (w2.alloc o).heap[w.heap.size + 1]? = some (.cells (av bf) 22 (0, 0))) := fun o => (Below.heap_alloc w2 o _ (by omega)).trans ((hb.block _ (by omega)).trans HX1'.out)
  have HCV : Hid (∀ o1 o2, (convert 24 9 (.slice (some ⟨w.heap.size + 1 + 1 + 1, 0, none⟩) 36 36)).run Ybaf.prog ((w2.alloc o1).alloc o2) = .ok (.string s) ((w2.alloc o1).alloc o2)) := fun o1 o2 => hs.conv _ ((hb.alloc hb.size o1).alloc (by have := hb.size; simp; omega) o2)
  clear hb HX0' HX1' hs hb1 hlt2
  go_wp2_with (first
      | (with_reducible show wpList _ _ _ (Oper.mk _ (Op.store 26 (Operand.tmp 14) (Operand.tmp 31)) _ _ _ _ :: _) _ _; go_must (refine wpList_store_row rfl 26 (.tmp 14) (.tmp 31) rfl w2.heap.size (av (said s)) rfl rfl 26 _ (heap_alloc_new _ _) (info26_av (said_len s)) (size_av (m := 16) rfl (said_len s)) (av_all _) ?_); rw [World.setRow_alloc_new])
      | (with_reducible show wpList _ _ _ (Oper.mk _ (Op.load 22 (Operand.tmp 7)) _ _ _ _ :: _) _ _; go_must (refine wpList_load_row rfl 22 (.tmp 7) rfl (w.heap.size + 1) rfl 22 (av bf) (0, 0) _ (HX1.out _) Ybaf.underlying22 rfl (info22_av HBF.out) ?_))
      | (with_reducible show wpList _ _ _ (Oper.mk _ (Op.store 26 (Operand.tmp 16) (Operand.tmp 33)) _ _ _ _ :: _) _ _; go_must (refine wpList_store_row rfl 26 (.tmp 16) (.tmp 33) rfl (w2.heap.size + 1) (av bf) rfl rfl 26 _ (heap_alloc2_new _ _ _) (info26_av HBF.out) (size_av (m := 16) rfl HBF.out) (av_all _) ?_); rw [setRow_alloc2])
      | fail)
  have hB3 : Below w.heap.size w ((w2.alloc (.cells (av (said s)) 26)).alloc (.cells (av bf) 26)) := (hB2.alloc (by omega) _).alloc (by simp; omega) _
  refine (unm10 F s (w2.heap.size + 1) _ bf _ (by rw [hB3.tape]; exact hF) (HCV.out _ _) (heap_alloc2_new _ _ _) HBF.out).mono ?_
  rintro e w3 ⟨hgr, hor⟩
  have hB4 : Below w.heap.size w w3 := hB3.grown hgr (by simp; omega) (fun k hk => by cases hk; omega)
  have HW3 : Hid (w3.heap[w2.heap.size]? = some (.cells (av (said s)) 26 (0, 0))) := (hgr.block _ (by simp; omega) (by simp)).trans (heap_alloc2_old _ _ _)
  have HY0 : Hid (w3.heap[w.heap.size]? = some (.cells (av l) 22 (0, 0))) := (hgr.block _ (by simp; omega) (by simp; omega)).trans ((Below.heap_alloc _ _ _ (by simp; omega)).trans (HX0.out _))
  have HY1 : Hid (w3.heap[w.heap.size + 1]? = some (.cells (av bf) 22 (0, 0))) := (hgr.block _ (by simp; omega) (by simp; omega)).trans ((Below.heap_alloc _ _ _ (by simp; omega)).trans (HX1.out _))
  clear hgr HX0 HX1 hB3 HCV
  rcases hor with ⟨hok, rfl, hid⟩ | ⟨hok, ⟨v, x, rfl⟩, hid⟩
  · have hsd : said s = idOf (byteOf s) := by unfold said; rw [hok]; rfl
    have HID : Hid (w3.heap[w2.heap.size + 1]? = some (.cells (av (idOf (byteOf s))) 26 (0, 0))) := hid
    rw [hsd] at HW3
    have HIL : Hid ((idOf (byteOf s)).length = 16) := idOf_length _
    clear hid hsd
    rw [HO.out.2] at HW3 HID HIL
    have heq := neq_self l HL.out
    go_wp2_with (first
      | (with_reducible show wpList _ _ _ (Oper.mk _ (Op.load 26 (Operand.tmp 16)) _ _ _ _ :: _) _ _; go_must (refine wpList_load_row_g rfl 26 (.tmp 16) rfl (w2.heap.size + 1) rfl 26 (av l) (0, 0) _ HID.out Ybaf.underlying26 rfl (info26_av HIL.out) ?_))
      | (with_reducible show wpList _ _ _ (Oper.mk _ (Op.load 26 (Operand.tmp 14)) _ _ _ _ :: _) _ _; go_must (refine wpList_load_row_g rfl 26 (.tmp 14) rfl w2.heap.size rfl 26 (av l) (0, 0) _ HW3.out Ybaf.underlying26 rfl (info26_av HIL.out) ?_))
      | (with_reducible show wpList _ _ _ (Oper.mk _ (Op.load 22 (Operand.tmp 6)) _ _ _ _ :: _) _ _; go_must (refine wpList_load_row_g rfl 22 (.tmp 6) rfl w.heap.size rfl 22 (av l) (0, 0) _ HY0.out Ybaf.underlying22 rfl (info22_av HL.out) ?_)))
    go_ret
    exact ⟨rfl, hB4⟩
  · exfalso
    rw [HO.out.1] at hok
    cases hok

set_option maxHeartbeats 1600000 in
theorem built3_true (F : Interp) (l bf : List Int) (u ps sb : Int) (w : World) (hF : F.answers w.tape) (hl : l.length = 16) (hV : ∀ j, j < 16 → 0 ≤ fnOf l j ∧ fnOf l j ≤ 255) (hbf : bf.length = 16)
    (hu : 0 ≤ u ∧ u ≤ 4294967295) (_hps : 0 ≤ ps ∧ ps ≤ 255) (hsb : 0 ≤ sb ∧ sb ≤ 255) :
    Calls Ybaf.prog 3 #[.agg (av l), .agg (av bf), .int .u32 u, .bool true, .int .u8 ps, .int .u8 sb] w fun e w' => e = .returned (.bool true) ∧ Below w.heap.size w w' := by
  have HL : Hid (l.length = 16) := hl
  have HV : Hid (∀ j, j < 16 → 0 ≤ fnOf l j ∧ fnOf l j ≤ 255) := hV
  have HBF : Hid (bf.length = 16) := hbf
  have HU : Hid (0 ≤ u ∧ u ≤ 4294967295) := hu
  have HE : Hid (∀ i, i < 36 → 0 ≤ edTxt (fnOf l) u true ps sb i ∧ edTxt (fnOf l) u true ps sb i ≤ 255) := fun i hi => by
    unfold edTxt; split
    · exact hsb
    · exact btxt_bd _ _ hV i hi
  have h26 := noGuard26
  clear hl hV hbf hu
  go_enter Ybaf.func3, Ybaf.ntmps3
  go_wp2_with (first
    | (with_reducible show wpList _ _ _ (Oper.mk _ (Op.load 22 (Operand.tmp 6)) _ _ _ _ :: _) _ _; go_must (refine wpList_load_row rfl 22 (.tmp 6) rfl w.heap.size rfl 22 (av l) (0, 0) _ (heap_alloc2_old _ _ _) Ybaf.underlying22 rfl (info22_av HL.out) ?_))
    | fail)
  refine (build8 l u _ HL.out HV.out HU.out).mono ?_
  rintro e w1 ⟨rfl, hb, hrow⟩
  simp only [World.size_alloc] at hb hrow ⊢
  have hb0 : Below w.heap.size w w1 := (((Below.refl _ w).alloc (Nat.le_refl _) _).alloc (by simp) _).trans (hb.mono (by omega))
  have hlt1 : w.heap.size + 1 + 1 + 1 < w1.heap.size := hrow.lt
  have HX0 : Hid (w1.heap[w.heap.size]? = some (.cells (av l) 22 (0, 0))) := (hb.block _ (by omega)).trans (heap_alloc2_old _ _ _)
  have HX1 : Hid (w1.heap[w.heap.size + 1]? = some (.cells (av bf) 22 (0, 0))) := (hb.block _ (by omega)).trans (heap_alloc2_new _ _ _)
  clear hb
  have hps2 : (ps % 36).toNat < 36 := by omega
  have hf1 : w1.frozen? ⟨w.heap.size + 1 + 1 + 1, (ps % 36).toNat, none⟩ = false := hrow.frozen _
  have hc1 : w1.cell? ⟨w.heap.size + 1 + 1 + 1, (ps % 36).toNat, none⟩ = some (.int .u8 (btxt (fnOf l) u (ps % 36).toNat)) := hrow.cell hps2
  have HT : Hid ((w1.setCell ⟨w.heap.size + 1 + 1 + 1, (ps % 36).toNat, none⟩ (.int .u8 sb)).rowIs (w.heap.size + 1 + 1 + 1) 5 36 (fun j => .int .u8 (edTxt (fnOf l) u true ps sb j))) := (hrow.set _ _).congr (fun j _ => by
    unfold edTxt
    by_cases e : j = (ps % 36).toNat
    · rw [if_pos e, if_pos ⟨rfl, e⟩]
    · rw [if_neg e, if_neg (fun h => e h.2)])
  have hb1 : Below w.heap.size w (w1.setCell ⟨w.heap.size + 1 + 1 + 1, (ps % 36).toNat, none⟩ (.int .u8 sb)) := hb0.setCell (by simp; omega) _
  have HX0' : Hid ((w1.setCell ⟨w.heap.size + 1 + 1 + 1, (ps % 36).toNat, none⟩ (.int .u8 sb)).heap[w.heap.size]? = some (.cells (av l) 22 (0, 0))) := (Below.heap_setCell _ _ _ _ (by simp; omega)).trans HX0.out
  have HX1' : Hid ((w1.setCell ⟨w.heap.size + 1 + 1 + 1, (ps % 36).toNat, none⟩ (.int .u8 sb)).heap[w.heap.size + 1]? = some (.cells (av bf) 22 (0, 0))) := (Below.heap_setCell _ _ _ _ (by simp)).trans HX1.out
  have hlt2 : w.heap.size + 1 + 1 + 1 < (w1.setCell ⟨w.heap.size + 1 + 1 + 1, (ps % 36).toNat, none⟩ (.int .u8 sb)).heap.size := by simpa [World.setCell] using hlt1
  clear hrow
  go_wp2_with fail
  clear hf1 hc1 hb0 HX0 HX1 hlt1
  generalize w1.setCell ⟨w.heap.size + 1 + 1 + 1, (ps % 36).toNat, none⟩ (.int .u8 sb) = wx at *
  have hs := text_of_row HE.out HT.out
  have hsz := nums_size (edTxt (fnOf l) u true ps sb)
  have hbt := byteOf_nums HE.out
  clear HE HT hsz hbt
  generalize (⟨(bytesOf (numsOf (edTxt (fnOf l) u true ps sb))).toArray⟩ : ByteArray) = s at *
  refine (hs.model _ (Below.refl _ _)).mono ?_
  rintro e w2 ⟨rfl, hb⟩
  have hB2 : Below w.heap.size w w2 := hb1.trans (hb.mono (by omega))
  have hlt3 : w.heap.size + 1 + 1 + 1 < w2.heap.size := by have := hb.size; omega
  have HX0 : Hid (∀ o, (w2.alloc o).heap[w.heap.size]? = some (.cells (av l) 22 (0, 0))) := fun o => (Below.heap_alloc w2 o _ (by omega)).trans ((hb.block _ (by omega)).trans HX0'.out)
  have HX1 : Hid (∀ o, (w2.alloc o).heap[w.heap.size + 1]? = some (.cells (av bf) 22 (0, 0))) := fun o => (Below.heap_alloc w2 o _ (by omega)).trans ((hb.block _ (by omega)).trans HX1'.out)
  have HCV : Hid (∀ o1 o2, (convert 24 9 (.slice (some ⟨w.heap.size + 1 + 1 + 1, 0, none⟩) 36 36)).run Ybaf.prog ((w2.alloc o1).alloc o2) = .ok (.string s) ((w2.alloc o1).alloc o2)) := fun o1 o2 => hs.conv _ ((hb.alloc hb.size o1).alloc (by have := hb.size; simp; omega) o2)
  clear hb HX0' HX1' hs hb1 hlt2
  go_wp2_with (first
      | (with_reducible show wpList _ _ _ (Oper.mk _ (Op.store 26 (Operand.tmp 14) (Operand.tmp 31)) _ _ _ _ :: _) _ _; go_must (refine wpList_store_row rfl 26 (.tmp 14) (.tmp 31) rfl w2.heap.size (av (said s)) rfl rfl 26 _ (heap_alloc_new _ _) (info26_av (said_len s)) (size_av (m := 16) rfl (said_len s)) (av_all _) ?_); rw [World.setRow_alloc_new])
      | (with_reducible show wpList _ _ _ (Oper.mk _ (Op.load 22 (Operand.tmp 7)) _ _ _ _ :: _) _ _; go_must (refine wpList_load_row rfl 22 (.tmp 7) rfl (w.heap.size + 1) rfl 22 (av bf) (0, 0) _ (HX1.out _) Ybaf.underlying22 rfl (info22_av HBF.out) ?_))
      | (with_reducible show wpList _ _ _ (Oper.mk _ (Op.store 26 (Operand.tmp 16) (Operand.tmp 33)) _ _ _ _ :: _) _ _; go_must (refine wpList_store_row rfl 26 (.tmp 16) (.tmp 33) rfl (w2.heap.size + 1) (av bf) rfl rfl 26 _ (heap_alloc2_new _ _ _) (info26_av HBF.out) (size_av (m := 16) rfl HBF.out) (av_all _) ?_); rw [setRow_alloc2])
      | fail)
  have hB3 : Below w.heap.size w ((w2.alloc (.cells (av (said s)) 26)).alloc (.cells (av bf) 26)) := (hB2.alloc (by omega) _).alloc (by simp; omega) _
  refine (unm10 F s (w2.heap.size + 1) _ bf _ (by rw [hB3.tape]; exact hF) (HCV.out _ _) (heap_alloc2_new _ _ _) HBF.out).mono ?_
  rintro e w3 ⟨hgr, hor⟩
  have hB4 : Below w.heap.size w w3 := hB3.grown hgr (by simp; omega) (fun k hk => by cases hk; omega)
  have HW3 : Hid (w3.heap[w2.heap.size]? = some (.cells (av (said s)) 26 (0, 0))) := (hgr.block _ (by simp; omega) (by simp)).trans (heap_alloc2_old _ _ _)
  have HY0 : Hid (w3.heap[w.heap.size]? = some (.cells (av l) 22 (0, 0))) := (hgr.block _ (by simp; omega) (by simp; omega)).trans ((Below.heap_alloc _ _ _ (by simp; omega)).trans (HX0.out _))
  have HY1 : Hid (w3.heap[w.heap.size + 1]? = some (.cells (av bf) 22 (0, 0))) := (hgr.block _ (by simp; omega) (by simp; omega)).trans ((Below.heap_alloc _ _ _ (by simp; omega)).trans (HX1.out _))
  clear hgr HX0 HX1 hB3 HCV
  rcases hor with ⟨hok, rfl, hid⟩ | ⟨hok, ⟨v, x, rfl⟩, hid⟩
  · have hsd : said s = idOf (byteOf s) := by unfold said; rw [hok]; rfl
    have HID : Hid (w3.heap[w2.heap.size + 1]? = some (.cells (av (idOf (byteOf s))) 26 (0, 0))) := hid
    rw [hsd] at HW3
    have HIL : Hid ((idOf (byteOf s)).length = 16) := idOf_length _
    clear hid hsd
    have heq := neq_self (idOf (byteOf s)) (idOf_length _)
    go_wp2_with (first
      | (with_reducible show wpList _ _ _ (Oper.mk _ (Op.load 26 (Operand.tmp 16)) _ _ _ _ :: _) _ _; go_must (refine wpList_load_row_g rfl 26 (.tmp 16) rfl (w2.heap.size + 1) rfl 26 (av (idOf (byteOf s))) (0, 0) _ HID.out Ybaf.underlying26 rfl (info26_av HIL.out) ?_))
      | (with_reducible show wpList _ _ _ (Oper.mk _ (Op.load 26 (Operand.tmp 14)) _ _ _ _ :: _) _ _; refine wpList_load_row_g rfl 26 (.tmp 14) rfl w2.heap.size rfl 26 (av (idOf (byteOf s))) (0, 0) _ HW3.out Ybaf.underlying26 rfl (info26_av HIL.out) ?_))
    go_ret
    exact ⟨rfl, hB4⟩
  · have HID : Hid (w3.heap[w2.heap.size + 1]? = some (.cells (av bf) 26 (0, 0))) := hid
    have heq := eql_self bf HBF.out
    clear hid
    go_wp2_with (first
      | (with_reducible show wpList _ _ _ (Oper.mk _ (Op.load 26 (Operand.tmp 16)) _ _ _ _ :: _) _ _; go_must (refine wpList_load_row_g rfl 26 (.tmp 16) rfl (w2.heap.size + 1) rfl 26 (av bf) (0, 0) _ HID.out Ybaf.underlying26 rfl (info26_av HBF.out) ?_))
      | (with_reducible show wpList _ _ _ (Oper.mk _ (Op.load 22 (Operand.tmp 7)) _ _ _ _ :: _) _ _; go_must (refine wpList_load_row_g rfl 22 (.tmp 7) rfl (w.heap.size + 1) rfl 22 (av bf) (0, 0) _ HY1.out Ybaf.underlying22 rfl (info22_av HBF.out) ?_)))
    go_ret
    exact ⟨rfl, hB4⟩

theorem built3 (F : Interp) (l bf : List Int) (u ps sb : Int) (ed : Bool) (w : World) (hF : F.answers w.tape) (hl : l.length = 16) (hV : ∀ j, j < 16 → 0 ≤ fnOf l j ∧ fnOf l j ≤ 255) (hbf : bf.length = 16)
    (hu : 0 ≤ u ∧ u ≤ 4294967295) (hps : 0 ≤ ps ∧ ps ≤ 255) (hsb : 0 ≤ sb ∧ sb ≤ 255) :
    Calls Ybaf.prog 3 #[.agg (av l), .agg (av bf), .int .u32 u, .bool ed, .int .u8 ps, .int .u8 sb] w fun e w' => e = .returned (.bool true) ∧ Below w.heap.size w w' := by
  cases ed with
  | false => exact built3_false F l bf u ps sb w hF hl hV hbf hu hps hsb
  | true => exact built3_true F l bf u ps sb w hF hl hV hbf hu hps hsb
end Go.Proofs.YbulkceogFmt
