/-
  Seat b4043a: zzs4043bmodel by its contract.
-/
import Derived.Test.YbulkcesaLines
import Derived.Deep.DeepCutAuto
import Derived.Deep.CutBlock
namespace Go.Proofs.Ybulkcesa
open Go.RowKit

def max0 (x : Int) : Int := if x < 0 then 0 else x
theorem max0_bd (x : Int) (h : -1 ≤ x ∧ x ≤ 8192) : 0 ≤ max0 x ∧ max0 x ≤ 8192 := by unfold max0; split <;> omega
theorem ret_int {x y : Int} (h : x = y) : Ending.returned (.int .i64 x) = .returned (.int .i64 y) := by rw [h]
theorem blk_at (LL : List (List Int)) (i : Nat) (h : i < LL.length) : blk LL i = (ind (LL.getD i [])).2 := by unfold blk; rw [if_pos h]
theorem blk_end (LL : List (List Int)) (i : Nat) (h : LL.length ≤ i) : blk LL i = true := by unfold blk; rw [if_neg (by omega)]
theorem cst_zero (LL : List (List Int)) {i : Nat} (h : ¬ 0 < i) : cst LL i = 4 * max0 (bel LL i) := by
  unfold cst max0; rw [if_neg (show ¬ (0 < i ∧ blk LL (i - 1) = false) from fun hh => h hh.1), Int.add_zero]
theorem cst_t (LL : List (List Int)) {i : Nat} (h : blk LL i = true) : cst LL (i + 1) = 4 * max0 (bel LL (i + 1)) := by
  unfold cst max0; rw [Nat.add_sub_cancel, if_neg (show ¬ (0 < i + 1 ∧ blk LL i = false) from fun hh => by simp [h] at hh), Int.add_zero]
theorem cst_ft (LL : List (List Int)) {i : Nat} (h : blk LL i = false) (h2 : blk LL (i + 1) = true) : cst LL (i + 1) = 4 * max0 (bel LL (i + 1)) + (col LL i + 10) := by
  unfold cst max0; rw [Nat.add_sub_cancel, if_pos (show (0 < i + 1 ∧ blk LL i = false) from ⟨by omega, h⟩), if_neg (show ¬ blk LL (i + 1) = false by simp [h2]), Int.add_zero]
theorem cst_ff (LL : List (List Int)) {i : Nat} (h : blk LL i = false) (h2 : blk LL (i + 1) = false) : cst LL (i + 1) = 4 * max0 (bel LL (i + 1)) + (col LL i + 10) + 2 := by
  unfold cst max0; rw [Nat.add_sub_cancel, if_pos (show (0 < i + 1 ∧ blk LL i = false) from ⟨by omega, h⟩), if_pos h2]; split <;> omega

set_option maxHeartbeats 1600000 in
theorem model11 (a : Option Addr) (n cap : Nat) (LL : List (List Int)) (i : Nat) (w : World) (h : LinesAt w a n LL) (hn : n ≤ 1024) (hs : short LL) (hi : i ≤ n) :
    Calls Yba.prog 11 #[.slice a n cap, .int .i64 i] w fun e w' => e = .returned (.int .i64 (mdl LL i)) ∧ w' = w := by
  have HA : Hid (LinesAt w a n LL) := h
  have HL : Hid (LL.length = n) := h.len_eq
  have HS : Hid (short LL) := hs
  clear h hs
  go_enter Yba.func11, Yba.ntmps11
  go_upto_block 0 with (fail)
  go_cut [6, 7, 8, 9] (fun s6 _ _ _ wx => s6 = .int .i64 (max0 (bel LL i)) ∧ w = wx)
  case first =>
    go_wp2
    go_loop [6, 7] (fun vb vj => ∃ j : Nat, i ≤ j ∧ j ≤ n ∧ vj = .int .i64 j ∧ vb = .int .i64 0 ∧ Hid (bel LL i = bel LL j)) (fun _ vj => n - (intOf vj).toNat)
    case atStart => exact ⟨i, by omega, hi, rfl, rfl, rfl⟩
    case round =>
      obtain ⟨j, hij, hjn, rfl, rfl, hb⟩ := hrel
      by_cases hlt : j < n
      · obtain ⟨b, off, la, llen, lcap, ha, hc, -, hl⟩ := HA.out.rd j hlt
        subst ha
        have hll : llen ≤ 1024 := by rw [← hl.len_eq]; exact HS.out j (by rw [HL.out]; exact hlt)
        have hst := bel_step LL j (by rw [HL.out]; exact hlt)
        have hbk := blk_at LL j (by rw [HL.out]; exact hlt)
        have hcb := col_bd LL HS.out j (by rw [HL.out]; exact hlt)
        have hcon := bindent17 la llen lcap _ w hl hll
        rw [← hbk, show (ind (LL.getD j [])).1 = col LL j from rfl] at hcon
        have HCON := hcon
        cases hk : blk LL j with
        | true =>
          rw [hk] at hst hcon
          have HB : Hid (bel LL i = bel LL (j + 1)) := by show (_ = _); rw [hb.out, hst, if_pos rfl]
          have HC := (show Hid (Calls Yba.prog 17 #[.slice la llen lcap] w fun e w' => e = .returned (.tuple #[.int .i64 (col LL j), .bool true]) ∧ w' = w) from hcon)
          clear hst hcon hb hbk hl HCON
          go_wp2_with (go_at_call 17; refine Calls.mono HC.out ?_; rintro e w' ⟨rfl, rfl⟩)
          go_round
          case rel => exact ⟨j + 1, by omega, by omega, by go_num, rfl, HB⟩
          case measure => simp [intOf]; omega
        | false =>
          rw [hk] at hst hcon
          have HB : Hid (max0 (bel LL i) = col LL j) := by show (_ = _); rw [hb.out, hst, if_neg (by simp), max0, if_neg (by omega)]
          have HC := (show Hid (Calls Yba.prog 17 #[.slice la llen lcap] w fun e w' => e = .returned (.tuple #[.int .i64 (col LL j), .bool false]) ∧ w' = w) from hcon)
          clear hst hcon hb hbk hl HCON
          go_wp2_with (go_at_call 17; refine Calls.mono HC.out ?_; rintro e w' ⟨rfl, rfl⟩)
          go_meet
          case rel => exact ⟨by rw [HB.out], rfl⟩
      · have HB : Hid (max0 (bel LL i) = 0) := by
          show (_ = _)
          have : j = LL.length := by rw [HL.out]; omega
          rw [hb.out, this, bel_end]; rfl
        clear hb
        go_wp2
        go_meet
        case rel => exact ⟨by rw [HB.out], rfl⟩
  case rest =>
    obtain ⟨rfl, rfl⟩ := hcut
    have hmb := max0_bd _ (bel_bd LL HS.out i)
    generalize hm0 : max0 (bel LL i) = M at *
    have HM : Hid (max0 (bel LL i) = M) := hm0
    clear hm0
    go_upto_if 37 with (fail)
    go_cut [1, 10, 11, 12, 13, 14] (fun s1 s10 _ _ _ _ wx => s1 = .int .i64 i ∧ s10 = .int .i64 (cst LL i) ∧ w = wx)
    case first =>
      by_cases h0 : 0 < i
      · obtain ⟨b, off, la, llen, lcap, ha, hc, -, hl⟩ := HA.out.rd (i - 1) (by omega)
        subst ha
        have hii : i - 1 < LL.length := by rw [HL.out]; omega
        have hll : llen ≤ 1024 := by rw [← hl.len_eq]; exact HS.out (i - 1) hii
        have hbk := blk_at LL (i - 1) hii
        have hcb := col_bd LL HS.out (i - 1) hii
        have hcon := bindent17 la llen lcap _ w hl hll
        rw [← hbk, show (ind (LL.getD (i - 1) [])).1 = col LL (i - 1) from rfl] at hcon
        obtain ⟨i', hi'⟩ : ∃ i', i = i' + 1 := ⟨i - 1, by omega⟩
        subst hi'
        simp only [Nat.add_sub_cancel] at hc hl hcon hbk hcb
        cases hk : blk LL i' with
        | true =>
          have HE : Hid (cst LL (i' + 1) = 4 * M) := by
            show (_ = _); rw [cst_t LL hk, HM.out]
          rw [hk] at hcon
          have HC := (show Hid (Calls Yba.prog 17 #[.slice la llen lcap] w fun e w' => e = .returned (.tuple #[.int .i64 (col LL i'), .bool true]) ∧ w' = w) from hcon)
          clear hcon hbk hl
          go_wp2_with (go_at_call 17; refine Calls.mono HC.out ?_; rintro e w' ⟨rfl, rfl⟩)
          go_meet
          case rel => exact ⟨by go_num, by rw [HE.out], rfl⟩
        | false =>
          rw [hk] at hcon
          have HC := (show Hid (Calls Yba.prog 17 #[.slice la llen lcap] w fun e w' => e = .returned (.tuple #[.int .i64 (col LL i'), .bool false]) ∧ w' = w) from hcon)
          clear hcon hbk hl
          by_cases hin : i' + 1 < n
          · obtain ⟨b2, off2, la2, llen2, lcap2, ha2, hc2, -, hl2⟩ := HA.out.rd (i' + 1) hin
            simp only [Option.some.injEq, Addr.mk.injEq, and_true] at ha2
            obtain ⟨rfl, rfl⟩ := ha2
            have hii2 : i' + 1 < LL.length := by rw [HL.out]; omega
            have hbk2 := blk_at LL (i' + 1) hii2
            have hcon2 := bindent17 la2 llen2 lcap2 _ w hl2 (by rw [← hl2.len_eq]; exact HS.out (i' + 1) hii2)
            rw [← hbk2, show (ind (LL.getD (i' + 1) [])).1 = col LL (i' + 1) from rfl] at hcon2
            cases hk2 : blk LL (i' + 1) with
            | true =>
              have HE : Hid (cst LL (i' + 1) = 4 * M + (col LL i' + 10)) := by
                show (_ = _); rw [cst_ft LL hk hk2, HM.out]
              rw [hk2] at hcon2
              have HC2 := (show Hid (Calls Yba.prog 17 #[.slice la2 llen2 lcap2] w fun e w' => e = .returned (.tuple #[.int .i64 (col LL (i' + 1)), .bool true]) ∧ w' = w) from hcon2)
              clear hcon2 hbk2 hl2
              go_wp2_with fail
              refine Calls.mono HC.out ?_
              rintro e w' ⟨rfl, rfl⟩
              go_wp2_with fail
              refine Calls.mono HC2.out ?_
              rintro e w' ⟨rfl, rfl⟩
              go_wp2
              go_meet
              case rel => exact ⟨by go_num, by rw [HE.out], rfl⟩
            | false =>
              have HE : Hid (cst LL (i' + 1) = 4 * M + (col LL i' + 10) + 2) := by
                show (_ = _); rw [cst_ff LL hk hk2, HM.out]
              rw [hk2] at hcon2
              have HC2 := (show Hid (Calls Yba.prog 17 #[.slice la2 llen2 lcap2] w fun e w' => e = .returned (.tuple #[.int .i64 (col LL (i' + 1)), .bool false]) ∧ w' = w) from hcon2)
              clear hcon2 hbk2 hl2
              go_wp2_with fail
              refine Calls.mono HC.out ?_
              rintro e w' ⟨rfl, rfl⟩
              go_wp2_with fail
              refine Calls.mono HC2.out ?_
              rintro e w' ⟨rfl, rfl⟩
              go_wp2
              go_meet
              case rel => exact ⟨by go_num, by rw [HE.out], rfl⟩
          · have hk2 := blk_end LL (i' + 1) (by rw [HL.out]; omega)
            have HE : Hid (cst LL (i' + 1) = 4 * M + (col LL i' + 10)) := by
              show (_ = _); rw [cst_ft LL hk hk2, HM.out]
            clear hk2
            go_wp2_with (go_at_call 17; refine Calls.mono HC.out ?_; rintro e w' ⟨rfl, rfl⟩)
            go_meet
            case rel => exact ⟨by go_num, by rw [HE.out], rfl⟩
      · have HE : Hid (cst LL i = 4 * M) := by
          show (_ = _); rw [cst_zero LL h0, HM.out]
        go_wp2
        go_meet
        case rel => exact ⟨by rfl, by rw [HE.out], rfl⟩
    case rest =>
      obtain ⟨rfl, rfl, rfl⟩ := hcut
      have hcb := cst_bd LL HS.out i (by rw [HL.out]; exact hi)
      by_cases hin : i = n
      · have HE : Hid (mdl LL i = cst LL i - 32) := by show (_ = _); rw [mdl, if_pos (by rw [HL.out]; exact hin)]
        have hin' : ((i : Int) == (n : Int)) = true := by simp [hin]
        clear hin
        go_wp2
        go_ret
        exact ⟨ret_int (by rw [HE.out]), rfl⟩
      · have HE : Hid (mdl LL i = cst LL i) := by show (_ = _); rw [mdl, if_neg (by rw [HL.out]; exact hin), Int.sub_zero]
        have hin' : ((i : Int) == (n : Int)) = false := by simp; omega
        clear hin
        go_wp2
        go_ret
        exact ⟨ret_int (by rw [HE.out]), rfl⟩
end Go.Proofs.Ybulkcesa
