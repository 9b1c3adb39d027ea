/-
  Seat b4043a: the walk of LawS4043AModel.
-/
import Derived.Test.YbulkcesaSnake
import Derived.Deep.DeepCutAuto
namespace Go.Proofs.Ybulkcesa
open Go.RowKit

theorem info3 : (Yba.prog.info? 3).map (fun i => (i.zero, i.size, i.bytes)) = some (some (.int .i64 0), 1, 8) := by kernel_rfl
/-- What the first loop has filled. -/
def fillTo (V : Nat → Int) (k j : Nat) : Int := if j < k then V j else 0
theorem fill_step (V : Nat → Int) (k j : Nat) : fillTo V (k + 1) j = if j = k then V k else fillTo V k j := by
  unfold fillTo
  by_cases e : j = k
  · subst e; rw [if_pos (by omega), if_pos rfl]
  · rw [if_neg e]
    by_cases h : j < k
    · rw [if_pos (by omega), if_pos h]
    · rw [if_neg (by omega), if_neg h]

theorem vals0_8i (a : Option Addr) (len cap : Nat) (V : Nat → Int) (j : Nat) (x : Int) (w : World) (h : Vals w a len V) (hx : x = (j : Int)) :
    Calls Yba.prog 8 #[.slice a len cap, .int .i64 x] w fun e w' => e = .returned (.int .i32 (V j)) ∧ w' = w := by
  subst hx; exact vals0_8 a len cap V j w h
/-- The search's block. -/
def searchO (m B : Nat) (z : Int) : Obj := .cells #[.slice none 0 0, .slice none 0 0, .slice none 0 0, .slice none 0 0, .slice none 0 0, .slice (some ⟨B, 0, none⟩) m m, .int .i64 z, .pointer none, .bool false] 30

set_option maxHeartbeats 1600000 in
set_option maxRecDepth 100000 in
theorem aModel3 (a : Option Addr) (len cap : Nat) (V : Nat → Int) (pick left top d delta y : Int) (w : World) (h : Vals w a len V) (hlen : len ≤ 1024) (hp0 : 0 ≤ pick) (hp1 : pick ≤ 18446744073709551615) :
    Calls Yba.prog 3 #[.slice a len cap, .int .u64 pick, .int .i64 left, .int .i64 top, .int .i64 d, .int .i64 delta, .int .i64 y] w fun e w' => e = .returned (.bool true) ∧ Below w.heap.size w w' := by
  obtain ⟨m, hm3, hmn, hm1⟩ : ∃ m : Nat, 3 ≤ m ∧ len ≤ m ∧ m ≤ 1024 ∧ (m = if len < 3 then 3 else len) := by
    by_cases hl : len < 3
    · exact ⟨3, by omega, by omega, by omega, by rw [if_pos hl]⟩
    · exact ⟨len, by omega, by omega, by omega, by rw [if_neg hl]⟩
  obtain ⟨hm1, hmd⟩ := hm1
  have HMD : Hid (m = if len < 3 then 3 else len) := hmd
  have HV : Hid (Vals w a len V) := h
  have HP : Hid (pick ≤ 18446744073709551615) := hp1
  clear h hmd hp1
  have hmk := run_make_row' (P := Yba.prog) 24 3 (.int .i64 0) 8 Yba.underlying24 info3 rfl .i64 .i64 m (by omega) (by omega)
  go_enter Yba.func3, Yba.ntmps3
  go_upto_if 35 with (fail)
  go_cut [16] (fun s16 wx => s16 = .int .i64 (m : Nat) ∧ w = wx)
  case first =>
    by_cases hl : len < 3
    · go_wp2
      go_meet
      case rel => exact ⟨by rw [HMD.out, if_pos hl]; rfl, rfl⟩
    · go_wp2
      go_meet
      case rel => exact ⟨by rw [HMD.out, if_neg hl], rfl⟩
  case rest =>
    obtain ⟨rfl, rfl⟩ := hcut
    clear HMD
    go_wp2
    clear hmk
    go_loopw [18] (fun vi wr => ∃ k : Nat, k ≤ len ∧ vi = .int .i64 k ∧ Hid (wr.rowIs w.heap.size 3 m (fun j => .int .i64 (fillTo V k j))) ∧ Hid (Below w.heap.size w wr) ∧ Hid (wr.heap.size = w.heap.size + 1)) (fun vi _ => len - (intOf vi).toNat)
    case atStart => exact ⟨0, by omega, rfl, (World.rowIs_made w (.int .i64 0) m 3).congr (fun j _ => rfl), (Below.refl _ w).alloc (Nat.le_refl _) _, by show (_ = _); simp⟩
    case round =>
      obtain ⟨k, hk, rfl, hrow, hbel, hsz⟩ := hrel
      by_cases hlt : k < len
      · obtain ⟨b, off, ha, hc⟩ := (HV.out.below hbel.out).rd k hlt
        subst ha
        have hv := HV.out.bd k
        have hf1 : wr.frozen? ⟨w.heap.size, k, none⟩ = false := hrow.out.frozen _
        have hc1 : wr.cell? ⟨w.heap.size, k, none⟩ = some (.int .i64 (fillTo V k k)) := hrow.out.cell (by omega)
        go_wp2
        go_roundw
        case rel => exact ⟨k + 1, by omega, by go_num, (hrow.out.set _ _).congr (fun j _ => by rw [fill_step]; split <;> rfl), hbel.out.setCell (Nat.le_refl _) _, by show (_ = _); simpa [World.setCell] using hsz.out⟩
        case measure => simp [intOf]; omega
      · have HRW : Hid (wr.rowIs w.heap.size 3 m (fun j => .int .i64 (V j))) := hrow.out.congr (fun j _ => by
          unfold fillTo
          by_cases hj : j < k
          · rw [if_pos hj]
          · rw [if_neg hj, HV.out.out j (by omega)])
        obtain ⟨p, hpk⟩ : ∃ p : Nat, pick % ((m : Int) - 2) = (p : Int) := ⟨(pick % ((m : Int) - 2)).toNat, by have := Int.emod_nonneg pick (show ((m : Int) - 2) ≠ 0 by omega); omega⟩
        have hpm : p + 2 < m := by have := Int.emod_lt_of_pos pick (show 0 < ((m : Int) - 2) by omega); omega
        have hszr := hsz.out
        clear hrow hsz
        go_wp2_with fail
        refine (vals0_8i a len cap V p _ _ (HV.out.below hbel.out) (by omega)).mono ?_
        rintro e w' ⟨rfl, hw⟩
        have hw := hw.symm
        subst hw
        have hvp := HV.out.bd p
        have hvq := HV.out.bd (p + 2)
        go_wp2_with fail
        refine (vals0_8i a len cap V (p + 2) _ _ (HV.out.below hbel.out) (by omega)).mono ?_
        rintro e w' ⟨rfl, hw⟩
        have hw := hw.symm
        subst hw
        go_wp2_with fail
        have hbS : Below w.heap.size w (wr.alloc (searchO m w.heap.size ((m : Int) / 2))) := hbel.out.alloc (by omega) _
        have hS : (wr.alloc (searchO m w.heap.size ((m : Int) / 2))).heap[w.heap.size + 1]? = some (searchO m w.heap.size ((m : Int) / 2)) := by
          rw [← hszr]; exact heap_alloc_new _ _
        have q5 := cell_of_row _ _ 5 _ 30 (0, 0) hS
        have q6 := cell_of_row _ _ 6 _ 30 (0, 0) hS
        have hrA : (wr.alloc (searchO m w.heap.size ((m : Int) / 2))).rowIs w.heap.size 3 m (fun j => .int .i64 (V j)) := HRW.out.alloc _
        refine (snake9 (w.heap.size + 1) w.heap.size m p ((m : Int) / 2) (1 + (p : Int) - (m : Int) / 2) left top delta y (V p) (V (p + 2)) _ q5 q6 hm1 hpm (by omega) (by omega) (by omega) (by omega) (by omega) (hrA.cell (by omega)) (hrA.cell hpm) hvp hvq d).mono ?_
        rintro e w2 ⟨rfl, hb2⟩
        have hB2 : Below w.heap.size w w2 := hbS.trans (hb2.mono (by simp; omega))
        have hsz2 : w.heap.size + 1 + 1 ≤ w2.heap.size := by have := hb2.size; simp at this; omega
        have HR2 : Hid (∀ o, (w2.alloc o).rowIs w.heap.size 3 m (fun j => .int .i64 (V j))) := fun o => (hrA.of_block (hb2.block _ (by simp; omega))).alloc o
        have HS2 : Hid (∀ o, (w2.alloc o).heap[w.heap.size + 1]? = some (searchO m w.heap.size ((m : Int) / 2))) := fun o => (Below.heap_alloc _ _ _ (by omega)).trans ((hb2.block _ (by simp; omega)).trans hS)
        clear q5 q6 hS hbS hrA hb2 HRW hszr
        simp only [snakeV]
        generalize hc0 : 1 + (p : Int) - (m : Int) / 2 = c
        have hcb : -1024 ≤ c ∧ c ≤ 1024 := by omega
        have HC0 : Hid (1 + (p : Int) - (m : Int) / 2 = c) := hc0
        clear hc0
        generalize hX0 : X1 d c delta (V p) (V (p + 2)) = X
        generalize hY0 : Y1 d (V p) (V (p + 2)) = Y
        have HX : Hid (X1 d c delta (V p) (V (p + 2)) = X) := hX0
        have HY : Hid (Y1 d (V p) (V (p + 2)) = Y) := hY0
        clear hX0 hY0
        go_upto_if 86 with (fail)
        go_cut [4, 26, 27] (fun _ s26 s27 wx => s26 = .int .i64 Y ∧ s27 = .int .i64 X ∧ wx = w2.alloc (.cells #[.int .i64 (wrap64 (wrap64 (wrap64 (left + y) + c) + delta)), .int .i64 (wrap64 (top + y)), .int .i64 (wrap64 (left + X)), .int .i64 (wrap64 (top + Y)), .bool false] 32))
        case first =>
          by_cases hd : d = 0
          · subst hd
            by_cases hlt2 : V p - 1 < V (p + 2)
            · have hy : Hid (Y = V p - 1) := by show (_ = _); rw [← HY.out, Y1, if_pos rfl, if_pos hlt2]
              have hx : Hid (X = wrap64 (V p - 1 + c + delta)) := by show (_ = _); rw [← HX.out, X1, if_pos rfl, if_pos hlt2]
              go_wp2
              go_meet
              case rel => exact ⟨by rw [hy.out], by rw [hx.out], rfl⟩
            · have hy : Hid (Y = V (p + 2)) := by show (_ = _); rw [← HY.out, Y1, if_pos rfl, if_neg hlt2]
              have hx : Hid (X = wrap64 (V (p + 2) + c + delta)) := by show (_ = _); rw [← HX.out, X1, if_pos rfl, if_neg hlt2]
              go_wp2
              go_meet
              case rel => exact ⟨by rw [hy.out], by rw [hx.out], rfl⟩
          · have hd' : (d == 0) = false := by simpa using hd
            by_cases hlt2 : V (p + 2) < V p
            · have hy : Hid (Y = V (p + 2)) := by show (_ = _); rw [← HY.out, Y1, if_neg hd, if_pos hlt2]
              have hx : Hid (X = wrap64 (wrap64 (V (p + 2) + c + delta) + 1)) := by show (_ = _); rw [← HX.out, X1, if_neg hd, if_pos hlt2]
              go_wp2
              go_meet
              case rel => exact ⟨by rw [hy.out], by rw [hx.out], rfl⟩
            · have hy : Hid (Y = V p) := by show (_ = _); rw [← HY.out, Y1, if_neg hd, if_neg hlt2]
              have hx : Hid (X = wrap64 (wrap64 (V p + c + delta) - 1)) := by show (_ = _); rw [← HX.out, X1, if_neg hd, if_neg hlt2, ex1_ins]
              go_wp2
              go_meet
              case rel => exact ⟨by rw [hy.out], by rw [hx.out], rfl⟩
        case rest =>
          obtain ⟨rfl, rfl, rfl⟩ := hcut
          have t5 := cell_of_row _ _ 5 _ 30 (0, 0) (HS2.out (.cells #[.int .i64 (wrap64 (wrap64 (wrap64 (left + y) + c) + delta)), .int .i64 (wrap64 (top + y)), .int .i64 (wrap64 (left + X)), .int .i64 (wrap64 (top + Y)), .bool false] 32))
          have t6 := cell_of_row _ _ 6 _ 30 (0, 0) (HS2.out (.cells #[.int .i64 (wrap64 (wrap64 (wrap64 (left + y) + c) + delta)), .int .i64 (wrap64 (top + y)), .int .i64 (wrap64 (left + X)), .int .i64 (wrap64 (top + Y)), .bool false] 32))
          have t5' : (w2.alloc (.cells #[.int .i64 (wrap64 (wrap64 (wrap64 (left + y) + c) + delta)), .int .i64 (wrap64 (top + y)), .int .i64 (wrap64 (left + X)), .int .i64 (wrap64 (top + Y)), .bool false] 32)).cell? ⟨w.heap.size + 1, 5, none⟩ = some (.slice (some ⟨w.heap.size, 0, none⟩) m m) := t5
          have t6' : (w2.alloc (.cells #[.int .i64 (wrap64 (wrap64 (wrap64 (left + y) + c) + delta)), .int .i64 (wrap64 (top + y)), .int .i64 (wrap64 (left + X)), .int .i64 (wrap64 (top + Y)), .bool false] 32)).cell? ⟨w.heap.size + 1, 6, none⟩ = some (.int .i64 ((m : Int) / 2)) := t6
          clear t5 t6
          have hB3 : Below w.heap.size w (w2.alloc (.cells #[.int .i64 (wrap64 (wrap64 (wrap64 (left + y) + c) + delta)), .int .i64 (wrap64 (top + y)), .int .i64 (wrap64 (left + X)), .int .i64 (wrap64 (top + Y)), .bool false] 32)) := hB2.alloc (by omega) _
          have HT5 := (show Hid ((w2.alloc (.cells #[.int .i64 (wrap64 (wrap64 (wrap64 (left + y) + c) + delta)), .int .i64 (wrap64 (top + y)), .int .i64 (wrap64 (left + X)), .int .i64 (wrap64 (top + Y)), .bool false] 32)).cell? ⟨w.heap.size + 1, 5, none⟩ = some (.slice (some ⟨w.heap.size, 0, none⟩) m m)) from t5')
          clear HS2 HX HY HC0 hpk hvp hvq
          go_wp2
          clear t5' t6'
          go_loopw [28] (fun vi wz => ∃ j : Nat, j ≤ m ∧ vi = .int .i64 j ∧ Hid (wz.rowIs w.heap.size 3 m (fun j => .int .i64 (V j))) ∧ Hid (wz.cell? ⟨w.heap.size + 1, 5, none⟩ = some (.slice (some ⟨w.heap.size, 0, none⟩) m m)) ∧ Hid (Below w.heap.size w wz)) (fun vi _ => m - (intOf vi).toNat)
          case atStart => exact ⟨0, by omega, rfl, HR2.out _, HT5, hB3⟩
          case round =>
            obtain ⟨j, hj, rfl, hrz, htz, hbz⟩ := hrel
            by_cases hjm : j < m
            · have hcz : wr.cell? ⟨w.heap.size, j, none⟩ = some (.int .i64 (V j)) := hrz.out.cell hjm
              have t5 := htz.out
              have hvj := HV.out.bd j
              go_wp2
              go_quiet ((go_at_call 8; exact Calls.quiet_of_same (vals0_8 a len cap V j _ (HV.out.below (below_drewN hbz.out _)))))
              go_wp2
              go_roundw
              case rel => exact ⟨j + 1, by omega, by go_num, hrz, htz, below_drewN hbz.out _⟩
              case measure => simp [intOf]; omega
            · go_wp2
              go_ret
              exact ⟨rfl, hbz.out⟩

set_option maxHeartbeats 400000 in
set_option maxRecDepth 100000 in
theorem aModel3_long (a : Option Addr) (len cap : Nat) (pick left top d delta y : Int) (w : World) (_hlen : 1024 < len) (_hm : len ≤ maxLen) :
    Calls Yba.prog 3 #[.slice a len cap, .int .u64 pick, .int .i64 left, .int .i64 top, .int .i64 d, .int .i64 delta, .int .i64 y] w fun e w' => e = .returned (.bool true) ∧ Below w.heap.size w w' := by
  go_enter Yba.func3, Yba.ntmps3
  go_wp2
  go_ret
  exact ⟨rfl, Below.refl _ _⟩
end Go.Proofs.Ybulkcesa
