/-
  Seat b4036aF: zzs4036abuild by its contract.
-/
import Derived.Test.YbulkceogFmtString
import Derived.OwnWalk
import Derived.WalkLawsBesides
namespace Go.Proofs.YbulkceogFmt
open Go.RowKit

theorem info5 : (Ybaf.prog.info? 5).map (fun i => (i.zero, i.size, i.bytes)) = some (some (.int .u8 0), 1, 1) := by kernel_rfl
/-- What has been written when i places are done. -/
def btL (B : Nat → Int) (i : Nat) : List Value := (List.range i).map fun j => Value.int .u8 (B j)
/-- The upper case digit of a number below 16. -/
def hexU (n : Int) : Int := if n ≤ 9 then 48 + n else 55 + n
/-- Is digit k asked in upper case. -/
def upB (u : Int) (k : Nat) : Bool := bits BinOp.and IntKind.u32 (u / 2 ^ k) 1 == 1
def nibOf (V : Nat → Int) (k : Nat) : Int := if k % 2 = 0 then V (k / 2) / 16 else V (k / 2) % 16
/-- Byte i of the text that is built. -/
def btxt (V : Nat → Int) (u : Int) (i : Nat) : Int := if hyB i then 45 else if upB u (cnt i) then hexU (nibOf V (cnt i)) else hexD (nibOf V (cnt i))
theorem btL_succ (B : Nat → Int) (i : Nat) (x : Int) (h : x = B i) : btL B i ++ [Value.int .u8 x] = btL B (i + 1) := by
  unfold btL; rw [List.range_succ, List.map_append, h]; rfl
theorem btL_zero (B : Nat → Int) : btL B 0 = [] := rfl
def tabU : ByteArray := { data := #[48, 49, 50, 51, 52, 53, 54, 55, 56, 57, 65, 66, 67, 68, 69, 70] }
theorem tabU_size : tabU.size = 16 := by decide
theorem tabU_all : ∀ c : Fin 16, (((tabU.data[c.val]?.getD 0).toNat : Nat) : Int) = hexU (c.val : Int) := by decide
theorem tabU_at (c : Int) (h0 : 0 ≤ c) (h1 : c ≤ 15) (h : c.toNat < tabU.size) : (((tabU[c.toNat]'h).toNat : Nat) : Int) = hexU c := by
  have hf := tabU_all ⟨c.toNat, by omega⟩
  simp only [show ((c.toNat : Nat) : Int) = c by omega] at hf
  rw [← hf]
  have : tabU.data[c.toNat]? = some (tabU[c.toNat]'h) := by
    rw [Array.getElem?_eq_getElem (by exact h)]; rfl
  rw [this]; rfl
theorem one_cell (x : Int) : ∀ u ∈ [Value.int .u8 x], u.oneCell' = true := by intro u hu; simp at hu; subst hu; rfl

theorem row_of_owned {w : World} {base g : Nat} {B : Nat → Int} (h : w.ownsRow base 5 1 (.slice (some ⟨g, 0, none⟩) 36 36) 36 (btL B 36)) : w.rowIs g 5 36 (fun j => .int .u8 (B j)) := by
  obtain ⟨_, ⟨h1, _⟩ | ⟨g', cap, cur, h1, _, hb, _, _, hsz, ht⟩⟩ := h
  · cases h1
  · simp only [Value.slice.injEq, Option.some.injEq, Addr.mk.injEq] at h1
    obtain ⟨⟨rfl, _⟩, _, rfl⟩ := h1
    refine ⟨cur, hb, by omega, fun i hi => ?_⟩
    have h2 : cur.toList = btL B 36 := by rw [← ht, List.take_of_length_le (by simp; omega)]
    rw [← Array.getElem?_toList, h2]
    unfold btL
    rw [List.getElem?_map, List.getElem?_range hi]
    rfl

set_option maxHeartbeats 1600000 in
set_option maxRecDepth 100000 in
theorem build8 (l : List Int) (u : Int) (w : World) (hl : l.length = 16) (hV : ∀ j, j < 16 → 0 ≤ fnOf l j ∧ fnOf l j ≤ 255) (_hu : 0 ≤ u ∧ u ≤ 4294967295) :
    Calls Ybaf.prog 8 #[.agg (av l), .int .u32 u] w fun e w' => e = .returned (.slice (some ⟨w.heap.size + 1, 0, none⟩) 36 36) ∧ Below w.heap.size w w' ∧ w'.rowIs (w.heap.size + 1) 5 36 (fun j => .int .u8 (btxt (fnOf l) u j)) := by
  have HL : Hid (l.length = 16) := hl
  have HV : Hid (∀ j, j < 16 → 0 ≤ fnOf l j ∧ fnOf l j ≤ 255) := hV
  clear hl hV
  have HR : Hid ((w.alloc (.cells (av l) 22)).rowIs w.heap.size 22 16 (fun j => .int .u8 (fnOf l j))) := by
    have := row_of_block (heap_alloc_new w (.cells (av l) 22))
    rw [HL.out] at this
    exact this
  obtain ⟨i0, hi0, hz0, hz1, hz2⟩ := info_parts info5
  have hmk : ∀ w, (Instr.makeSlice 24 (.int .i64 0) (.int .i64 36)).run Ybaf.prog w = .ok (.slice (some ⟨w.heap.size, 0, none⟩) 0 36) (w.alloc (.cells #[.int .u8 0, .int .u8 0, .int .u8 0, .int .u8 0, .int .u8 0, .int .u8 0, .int .u8 0, .int .u8 0, .int .u8 0, .int .u8 0, .int .u8 0, .int .u8 0, .int .u8 0, .int .u8 0, .int .u8 0, .int .u8 0, .int .u8 0, .int .u8 0, .int .u8 0, .int .u8 0, .int .u8 0, .int .u8 0, .int .u8 0, .int .u8 0, .int .u8 0, .int .u8 0, .int .u8 0, .int .u8 0, .int .u8 0, .int .u8 0, .int .u8 0, .int .u8 0, .int .u8 0, .int .u8 0, .int .u8 0, .int .u8 0] 5)) := fun _ => by kernel_rfl
  go_enter Ybaf.func8, Ybaf.ntmps8
  go_wp2
  clear hmk
  go_loopw [5, 6, 7] (fun vt vk vi wr => ∃ i : Nat, i ≤ 36 ∧ vi = .int .i64 i ∧ vk = .int .i64 (cnt i : Nat) ∧ vt = .slice (some ⟨w.heap.size + 1, 0, none⟩) i 36 ∧
      Hid (wr.rowIs w.heap.size 22 16 (fun j => .int .u8 (fnOf l j))) ∧ Hid (wr.ownsRow (w.heap.size + 1) 5 1 (.slice (some ⟨w.heap.size + 1, 0, none⟩) i 36) i (btL (btxt (fnOf l) u) i)) ∧ Hid (Below w.heap.size w wr) ∧ Hid (w.heap.size + 1 < wr.heap.size)) (fun _ _ vi _ => 36 - (intOf vi).toNat)
  case atStart =>
    refine ⟨0, by omega, rfl, rfl, rfl, HR.out.alloc _, ⟨rfl, .inr ⟨w.heap.size + 1, 36, _, rfl, Nat.le_refl _, heap_alloc2_new _ _ _, by omega, by unfold maxLen; omega, rfl, rfl⟩⟩, ((Below.refl _ w).alloc (Nat.le_refl _) _).alloc (by simp) _, by show (_ < _); simp⟩
  case round =>
    obtain ⟨i, hi, rfl, rfl, rfl, hbx, hown, hbel, hsz⟩ := hrel
    by_cases hlt : i < 36
    · have hk32 := cnt_lt hlt
      cases hh : hyB i with
      | true =>
        go_wp2_with (first | (go_at_call 16; refine (ishyphen16 _ _).mono ?_; rintro e w' ⟨rfl, hw⟩; have hw := hw.symm; subst hw) | (at_builtin; go_must (refine wpList_append_fits _ rfl (.tmp 17) (.tmp 18) 24 rfl (w.heap.size + 1) 5 i0 1 Ybaf.underlying24 hi0 hz1 (w.heap.size + 1) i 36 _ rfl (hown.out.alloc _) ⟨wr.heap.size, 0, none⟩ 1 1 [.int .u8 45] rfl rfl (cell_one_new _ _ _) (one_cell _) (by omega) ?_); intro w1 hown1 hgrow1))
        have HK : Hid (cnt (i + 1) = cnt i) := cnt_hy hh
        have HX : Hid (45 = btxt (fnOf l) u i) := by show (_ = _); rw [btxt, hh]; rfl
        go_roundw
        case rel => exact ⟨i + 1, by omega, by go_num, by rw [HK.out], rfl, (hbx.out.alloc _).of_block (hgrow1.block _ (by have := hsz.out; simp; omega) (by simp)), by rw [← btL_succ _ i _ HX.out]; exact hown1, (hbel.out.alloc (by have := hsz.out; omega) _).grown hgrow1 (by have := hsz.out; simp; omega) (fun k hk => by cases hk; omega), by have h1 := hsz.out; have h2 := hgrow1.size; simp at h2; show (_ < _); omega⟩
        case measure => simp [intOf]; omega
      | false =>
        have HK : Hid (cnt (i + 1) = cnt i + 1) := cnt_dig hh
        generalize hk0 : cnt i = k at *
        have HK0 : Hid (cnt i = k) := hk0
        have hv := HV.out (k / 2) (by omega)
        have hcx : wr.cell? ⟨w.heap.size, k / 2, none⟩ = some (.int .u8 (fnOf l (k / 2))) := hbx.out.cell (by omega)
        clear hk0
        generalize hx0 : fnOf l (k / 2) = x at hv hcx
        have HV0 : Hid (fnOf l (k / 2) = x) := hx0
        clear hx0
        rcases Nat.mod_two_eq_zero_or_one k with he | he <;> cases hup : upB u k
        · have he' : ((k : Int) % 2 == 0) = true := by simp; omega
          have hup' : (bits BinOp.and IntKind.u32 (u / 2 ^ k) 1 == 1) = false := hup
          have HX : Hid (∀ y, y = hexD (x / 16) → y = btxt (fnOf l) u i) := fun y hy => by
            rw [btxt, hh, HK0.out, hup, hy, nibOf, if_pos he, HV0.out]; rfl
          clear hup
          go_wp2_with (first | (go_at_call 16; refine (ishyphen16 _ _).mono ?_; rintro e w' ⟨rfl, hw⟩; have hw := hw.symm; subst hw) | (at_builtin; go_must (refine wpList_append_fits _ rfl (.tmp 42) (.tmp 45) 24 rfl (w.heap.size + 1) 5 i0 1 Ybaf.underlying24 hi0 hz1 (w.heap.size + 1) i 36 _ rfl (hown.out.alloc _) ⟨wr.heap.size, 0, none⟩ 1 1 [.int .u8 _] rfl rfl (cell_one_new _ _ _) (one_cell _) (by omega) ?_); intro w1 hown1 hgrow1))
          have e1 := tab_at (x / 16) (by omega) (by omega) (by rw [tab_size]; omega)
          go_roundw
          case rel => exact ⟨i + 1, by omega, by go_num, by rw [HK.out]; go_num, rfl, (hbx.out.alloc _).of_block (hgrow1.block _ (by have := hsz.out; simp; omega) (by simp)), by rw [← btL_succ _ i _ (HX.out _ e1)]; exact hown1, (hbel.out.alloc (by have := hsz.out; omega) _).grown hgrow1 (by have := hsz.out; simp; omega) (fun k hk => by cases hk; omega), by have h1 := hsz.out; have h2 := hgrow1.size; simp at h2; show (_ < _); omega⟩
          case measure => simp [intOf]; omega
        · have he' : ((k : Int) % 2 == 0) = true := by simp; omega
          have hup' : (bits BinOp.and IntKind.u32 (u / 2 ^ k) 1 == 1) = true := hup
          have HX : Hid (∀ y, y = hexU (x / 16) → y = btxt (fnOf l) u i) := fun y hy => by
            rw [btxt, hh, HK0.out, hup, hy, nibOf, if_pos he, HV0.out]; rfl
          clear hup
          go_wp2_with (first | (go_at_call 16; refine (ishyphen16 _ _).mono ?_; rintro e w' ⟨rfl, hw⟩; have hw := hw.symm; subst hw) | (at_builtin; go_must (refine wpList_append_fits _ rfl (.tmp 37) (.tmp 40) 24 rfl (w.heap.size + 1) 5 i0 1 Ybaf.underlying24 hi0 hz1 (w.heap.size + 1) i 36 _ rfl (hown.out.alloc _) ⟨wr.heap.size, 0, none⟩ 1 1 [.int .u8 _] rfl rfl (cell_one_new _ _ _) (one_cell _) (by omega) ?_); intro w1 hown1 hgrow1))
          have e1 := tabU_at (x / 16) (by omega) (by omega) (by rw [tabU_size]; omega)
          go_roundw
          case rel => exact ⟨i + 1, by omega, by go_num, by rw [HK.out]; go_num, rfl, (hbx.out.alloc _).of_block (hgrow1.block _ (by have := hsz.out; simp; omega) (by simp)), by rw [← btL_succ _ i _ (HX.out _ e1)]; exact hown1, (hbel.out.alloc (by have := hsz.out; omega) _).grown hgrow1 (by have := hsz.out; simp; omega) (fun k hk => by cases hk; omega), by have h1 := hsz.out; have h2 := hgrow1.size; simp at h2; show (_ < _); omega⟩
          case measure => simp [intOf]; omega
        · have he' : ((k : Int) % 2 == 0) = false := by simp; omega
          have hup' : (bits BinOp.and IntKind.u32 (u / 2 ^ k) 1 == 1) = false := hup
          have HX : Hid (∀ y, y = hexD (x % 16) → y = btxt (fnOf l) u i) := fun y hy => by
            rw [btxt, hh, HK0.out, hup, hy, nibOf, if_neg (show ¬ k % 2 = 0 by omega), HV0.out]; rfl
          clear hup
          go_wp2_with (first | (go_at_call 16; refine (ishyphen16 _ _).mono ?_; rintro e w' ⟨rfl, hw⟩; have hw := hw.symm; subst hw) | (at_builtin; go_must (refine wpList_append_fits _ rfl (.tmp 42) (.tmp 45) 24 rfl (w.heap.size + 1) 5 i0 1 Ybaf.underlying24 hi0 hz1 (w.heap.size + 1) i 36 _ rfl (hown.out.alloc _) ⟨wr.heap.size, 0, none⟩ 1 1 [.int .u8 _] rfl rfl (cell_one_new _ _ _) (one_cell _) (by omega) ?_); intro w1 hown1 hgrow1))
          have e1 := tab_at (x % 16) (by omega) (by omega) (by rw [tab_size]; omega)
          go_roundw
          case rel => exact ⟨i + 1, by omega, by go_num, by rw [HK.out]; go_num, rfl, (hbx.out.alloc _).of_block (hgrow1.block _ (by have := hsz.out; simp; omega) (by simp)), by rw [← btL_succ _ i _ (HX.out _ e1)]; exact hown1, (hbel.out.alloc (by have := hsz.out; omega) _).grown hgrow1 (by have := hsz.out; simp; omega) (fun k hk => by cases hk; omega), by have h1 := hsz.out; have h2 := hgrow1.size; simp at h2; show (_ < _); omega⟩
          case measure => simp [intOf]; omega
        · have he' : ((k : Int) % 2 == 0) = false := by simp; omega
          have hup' : (bits BinOp.and IntKind.u32 (u / 2 ^ k) 1 == 1) = true := hup
          have HX : Hid (∀ y, y = hexU (x % 16) → y = btxt (fnOf l) u i) := fun y hy => by
            rw [btxt, hh, HK0.out, hup, hy, nibOf, if_neg (show ¬ k % 2 = 0 by omega), HV0.out]; rfl
          clear hup
          go_wp2_with (first | (go_at_call 16; refine (ishyphen16 _ _).mono ?_; rintro e w' ⟨rfl, hw⟩; have hw := hw.symm; subst hw) | (at_builtin; go_must (refine wpList_append_fits _ rfl (.tmp 37) (.tmp 40) 24 rfl (w.heap.size + 1) 5 i0 1 Ybaf.underlying24 hi0 hz1 (w.heap.size + 1) i 36 _ rfl (hown.out.alloc _) ⟨wr.heap.size, 0, none⟩ 1 1 [.int .u8 _] rfl rfl (cell_one_new _ _ _) (one_cell _) (by omega) ?_); intro w1 hown1 hgrow1))
          have e1 := tabU_at (x % 16) (by omega) (by omega) (by rw [tabU_size]; omega)
          go_roundw
          case rel => exact ⟨i + 1, by omega, by go_num, by rw [HK.out]; go_num, rfl, (hbx.out.alloc _).of_block (hgrow1.block _ (by have := hsz.out; simp; omega) (by simp)), by rw [← btL_succ _ i _ (HX.out _ e1)]; exact hown1, (hbel.out.alloc (by have := hsz.out; omega) _).grown hgrow1 (by have := hsz.out; simp; omega) (fun k hk => by cases hk; omega), by have h1 := hsz.out; have h2 := hgrow1.size; simp at h2; show (_ < _); omega⟩
          case measure => simp [intOf]; omega
    · have h36 : i = 36 := by omega
      subst h36
      go_wp2
      go_ret
      exact ⟨rfl, hbel.out, row_of_owned hown.out⟩
end Go.Proofs.YbulkceogFmt
