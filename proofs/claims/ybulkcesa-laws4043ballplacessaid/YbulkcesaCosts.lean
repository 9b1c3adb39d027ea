/-
  Seat b4043a: placeCosts by its contract.
-/
import Derived.Test.YbulkcesaMdl
import Derived.Laws.Bits128
namespace Go.Proofs.Ybulkcesa
open Go.RowKit

theorem i32_and1 (n : Int) : bits .and .i32 n 1 = n % 2 := by
  have h1 : (BitVec.ofInt 32 1).toNat = 2 ^ 1 - 1 := by decide
  have key : (BitVec.ofInt 32 n &&& BitVec.ofInt 32 1).toNat = (n % ((2 ^ 32 : Nat) : Int)).toNat % 2 ^ 1 := by
    rw [BitVec.toNat_and, BitVec.toNat_ofInt, h1, Nat.and_two_pow_sub_one_eq_mod]
  show IntKind.i32.wrap ((BitVec.ofInt 32 n &&& BitVec.ofInt 32 1).toNat : Nat) = n % 2
  rw [key, IntKind.wrap_i32]
  omega

theorem info21 : (Yba.prog.info? 21).map (fun i => (i.zero, i.size, i.bytes)) = some (some (.int .i32 0), 1, 4) := by kernel_rfl
/-- What the first pass writes. -/
def p1 (LL : List (List Int)) (i : Nat) : Int := 2 * bel LL i + (if blk LL i then 1 else 0)
theorem p1_t (LL : List (List Int)) {i : Nat} (h : blk LL i = true) : p1 LL i = 2 * bel LL i + 1 := by unfold p1; rw [if_pos h]
theorem p1_f (LL : List (List Int)) {i : Nat} (h : blk LL i = false) : p1 LL i = 2 * bel LL i := by unfold p1; rw [if_neg (by simp [h]), Int.add_zero]
theorem p1_end (LL : List (List Int)) : p1 LL LL.length = -1 := by rw [p1_t LL (blk_end LL _ (Nat.le_refl _)), bel_end]; rfl
/-- The row ahead of the first pass's place k (from the end). -/
def fA (LL : List (List Int)) (k j : Nat) : Int := if k ≤ j then p1 LL j else 0
theorem fA_step (LL : List (List Int)) (k j : Nat) : fA LL k j = if j = k then p1 LL k else fA LL (k + 1) j := by
  unfold fA
  by_cases e : j = k
  · subst e; rw [if_pos (Nat.le_refl _), if_pos rfl]
  · rw [if_neg e]
    by_cases h : k ≤ j
    · rw [if_pos h, if_pos (by omega)]
    · rw [if_neg h, if_neg (by omega)]
/-- The row ahead of the second pass's place k. -/
def fB (LL : List (List Int)) (k j : Nat) : Int := if j < k then cst LL j else p1 LL j
theorem fB_step (LL : List (List Int)) (k j : Nat) : fB LL (k + 1) j = if j = k then cst LL k else fB LL k j := by
  unfold fB
  by_cases e : j = k
  · subst e; rw [if_pos (by omega), if_pos rfl]
  · rw [if_neg e]
    by_cases h : j < k
    · rw [if_pos (by omega), if_pos h]
    · rw [if_neg (by omega), if_neg h]
theorem fB_at (LL : List (List Int)) (k : Nat) : fB LL k k = p1 LL k := by unfold fB; rw [if_neg (by omega)]
/-- What lies above place k. -/
def abv (LL : List (List Int)) (k : Nat) : Int := if k = 0 then 0 else bel LL (k - 1)
def bab (LL : List (List Int)) (k : Nat) : Bool := if k = 0 then true else blk LL (k - 1)
theorem abv_succ (LL : List (List Int)) (k : Nat) : abv LL (k + 1) = bel LL k := by unfold abv; rw [if_neg (by omega), Nat.add_sub_cancel]
theorem bab_succ (LL : List (List Int)) (k : Nat) : bab LL (k + 1) = blk LL k := by unfold bab; rw [if_neg (by omega), Nat.add_sub_cancel]
theorem cst_bt (LL : List (List Int)) {k : Nat} (h : bab LL k = true) : cst LL k = 4 * max0 (bel LL k) := by
  cases k with
  | zero => exact cst_zero LL (by omega)
  | succ k => rw [bab_succ] at h; exact cst_t LL h
theorem bab_f (LL : List (List Int)) {k : Nat} (h : bab LL k = false) (hk : k ≤ LL.length) : ∃ i, k = i + 1 ∧ blk LL i = false ∧ abv LL k = col LL i := by
  cases k with
  | zero => simp [bab] at h
  | succ k =>
    rw [bab_succ] at h
    exact ⟨k, rfl, h, by rw [abv_succ, bel_step LL k (by omega), if_neg (by simp [h])]⟩
theorem cst_bft (LL : List (List Int)) {k : Nat} (hk : k ≤ LL.length) (h : bab LL k = false) (h2 : blk LL k = true) : cst LL k = 4 * max0 (bel LL k) + (abv LL k + 10) := by
  obtain ⟨i, rfl, hb, hc⟩ := bab_f LL h hk
  rw [hc]; exact cst_ft LL hb h2
theorem cst_bff (LL : List (List Int)) {k : Nat} (hk : k ≤ LL.length) (h : bab LL k = false) (h2 : blk LL k = false) : cst LL k = 4 * max0 (bel LL k) + (abv LL k + 10) + 2 := by
  obtain ⟨i, rfl, hb, hc⟩ := bab_f LL h hk
  rw [hc]; exact cst_ff LL hb h2
theorem abv_bd (LL : List (List Int)) (h : short LL) (k : Nat) : -1 ≤ abv LL k ∧ abv LL k ≤ 8192 := by
  unfold abv
  split
  · omega
  · exact bel_bd LL h _

theorem row_made_set (w : World) (z v : Value) (n : Nat) (t : TypeId) : (w.alloc (.cells ((madeCells #[z] (n + 1)).setIfInBounds n v) t)).rowIs w.heap.size t (n + 1) (fun j => if j = n then v else z) := by
  have h := (World.rowIs_made w z (n + 1) t).set n v
  rw [World.setCell_alloc_new] at h
  exact h

set_option maxHeartbeats 1600000 in
set_option maxRecDepth 100000 in
theorem costs16 (a : Option Addr) (n cap : Nat) (LL : List (List Int)) (w : World) (h : LinesAt w a n LL) (hn : n ≤ 1024) (hs : short LL) :
    Calls Yba.prog 16 #[.slice a n cap] w fun e w' => e = .returned (.slice (some ⟨w.heap.size, 0, none⟩) (n + 1) (n + 1)) ∧ Below w.heap.size w w' ∧ w'.rowIs w.heap.size 21 (n + 1) (fun i => .int .i32 (mdl LL i)) := by
  have HA : Hid (LinesAt w a n LL) := h
  have HL : Hid (LL.length = n) := h.len_eq
  have HS : Hid (short LL) := hs
  clear h hs
  have hmk := run_make_row' (P := Yba.prog) 22 21 (.int .i32 0) 4 Yba.underlying22 info21 rfl .i64 .i64 (n + 1) (by omega) (by omega)
  rw [show ((n + 1 : Nat) : Int) = (n : Int) + 1 by omega] at hmk
  go_enter Yba.func16, Yba.ntmps16
  have hrow0 := (World.rowIs_made w (.int .i32 0) (n + 1) 21)
  have hf0 : (w.alloc (.cells (madeCells #[.int .i32 0] (n + 1)) 21)).frozen? ⟨w.heap.size, n, none⟩ = false := hrow0.frozen _
  have hc0 : (w.alloc (.cells (madeCells #[.int .i32 0] (n + 1)) 21)).cell? ⟨w.heap.size, n, none⟩ = some (.int .i32 0) := hrow0.cell (by omega)
  clear hrow0
  go_wp2
  clear hmk hf0 hc0
  go_loopw [5, 6] (fun vb vi wr => ∃ (k : Nat) (x : Int), k ≤ n ∧ x = (k : Int) - 1 ∧ vi = .int .i64 x ∧ vb = .int .i64 (bel LL k) ∧ Hid (wr.rowIs w.heap.size 21 (n + 1) (fun j => .int .i32 (fA LL k j))) ∧ Hid (Below w.heap.size w wr) ∧ Hid (wr.heap.size = w.heap.size + 1)) (fun _ vi _ => (intOf vi + 1).toNat)
  case atStart =>
    refine ⟨n, (n : Int) - 1, Nat.le_refl _, rfl, by go_num, ?_, ?_, ?_, ?_⟩
    · rw [← HL.out, bel_end]
    · exact (row_made_set w _ _ n 21).congr (fun j hj => by
        unfold fA
        by_cases e : j = n
        · subst e; rw [if_pos rfl, if_pos (Nat.le_refl _), ← HL.out, p1_end]
        · rw [if_neg e, if_neg (by omega)])
    · exact (Below.refl _ w).alloc (Nat.le_refl _) _
    · show (_ = _); simp
  case round =>
    obtain ⟨k, x, hk, hx, rfl, rfl, hrow, hbel, hsz⟩ := hrel
    cases k with
    | succ k =>
      have hx' : x = (k : Int) := by omega
      subst hx'
      clear hx
      obtain ⟨b, off, la, llen, lcap, ha, hc, hcp, hl⟩ := (HA.out.below hbel.out).rd k (by omega)
      subst ha
      have hkl : k < LL.length := by rw [HL.out]; omega
      have hcon := indent20 la llen lcap _ wr hl (by rw [← hl.len_eq]; exact HS.out k hkl) hcp
      rw [← blk_at LL k hkl, show (ind (LL.getD k [])).1 = col LL k from rfl] at hcon
      have hcb := col_bd LL HS.out k hkl
      have hst := bel_step LL k hkl
      have hbb := bel_bd LL HS.out (k + 1)
      have hf1 : wr.frozen? ⟨w.heap.size, k, none⟩ = false := hrow.out.frozen _
      have hc1 : wr.cell? ⟨w.heap.size, k, none⟩ = some (.int .i32 (fA LL (k + 1) k)) := hrow.out.cell (by omega)
      cases hbk : blk LL k with
      | true =>
        rw [hbk] at hcon hst
        have HB : Hid (bel LL k = bel LL (k + 1)) := by show (_ = _); rw [hst, if_pos rfl]
        have HP : Hid (p1 LL k = 2 * bel LL (k + 1) + 1) := by show (_ = _); rw [p1_t LL hbk, HB.out]
        have HC : Hid (Calls Yba.prog 20 #[.slice la llen lcap] wr fun e w' => e = .returned (.tuple #[.int .i64 (col LL k), .bool true]) ∧ w' = wr) := hcon
        clear hcon hst hl hbk
        go_wp2_with (go_at_call 20; refine Calls.mono HC.out ?_; rintro e w' ⟨rfl, rfl⟩)
        go_roundw
        case rel =>
          refine ⟨k, (k : Int) - 1, by omega, rfl, by go_num, by rw [HB.out], ?_, hbel.out.setCell (Nat.le_refl _) _, by show (_ = _); simpa [World.setCell] using hsz.out⟩
          exact (hrow.out.set _ _).congr (fun j _ => by rw [fA_step LL k j, HP.out]; split <;> rfl)
        case measure => simp [intOf]
      | false =>
        rw [hbk] at hcon hst
        have HB : Hid (bel LL k = col LL k) := by show (_ = _); rw [hst, if_neg (by simp)]
        have HP : Hid (p1 LL k = 2 * col LL k) := by show (_ = _); rw [p1_f LL hbk, HB.out]
        have HC : Hid (Calls Yba.prog 20 #[.slice la llen lcap] wr fun e w' => e = .returned (.tuple #[.int .i64 (col LL k), .bool false]) ∧ w' = wr) := hcon
        clear hcon hst hl hbk
        have hmin : min (col LL k) 429496727 = col LL k := by omega
        go_wp2_with (go_at_call 20; refine Calls.mono HC.out ?_; rintro e w' ⟨rfl, rfl⟩)
        go_roundw
        case rel =>
          refine ⟨k, (k : Int) - 1, by omega, rfl, by go_num, by rw [HB.out], ?_, hbel.out.setCell (Nat.le_refl _) _, by show (_ = _); simpa [World.setCell] using hsz.out⟩
          exact (hrow.out.set _ _).congr (fun j _ => by rw [fA_step LL k j, HP.out]; split <;> rfl)
        case measure => simp [intOf]
    | zero =>
      have hx' : x = -1 := by omega
      subst hx'
      clear hx
      have HR1 : Hid (wr.rowIs w.heap.size 21 (n + 1) (fun j => .int .i32 (fB LL 0 j))) := hrow.out.congr (fun j _ => by unfold fA fB; rw [if_pos (by omega), if_neg (by omega)])
      clear hrow
      go_wp2
      go_loopw [9, 10, 11] (fun va vb vi wq => ∃ k : Nat, k ≤ n + 1 ∧ vi = .int .i64 k ∧ va = .int .i64 (abv LL k) ∧ vb = .bool (bab LL k) ∧ Hid (wq.rowIs w.heap.size 21 (n + 1) (fun j => .int .i32 (fB LL k j))) ∧ Hid (Below w.heap.size w wq)) (fun _ _ vi _ => n + 1 - (intOf vi).toNat)
      case atStart => exact ⟨0, by omega, rfl, rfl, rfl, HR1, hbel⟩
      case round =>
        clear HR1 hsz hbel
        obtain ⟨k, hk, rfl, rfl, rfl, hrow, hbel⟩ := hrel
        by_cases hlt : k ≤ n
        · have hkl : k ≤ LL.length := by rw [HL.out]; exact hlt
          have hbb := bel_bd LL HS.out k
          have hab := abv_bd LL HS.out k
          have hmb := max0_bd _ hbb
          have hf1 : wr.frozen? ⟨w.heap.size, k, none⟩ = false := hrow.out.frozen _
          have hc1 : wr.cell? ⟨w.heap.size, k, none⟩ = some (.int .i32 (fB LL k k)) := hrow.out.cell (by omega)
          rw [fB_at] at hc1
          have hmx : (if bel LL k < 0 then 0 else bel LL k) = max0 (bel LL k) := rfl
          have hA := abv_succ LL k
          have hB := bab_succ LL k
          cases hbk : blk LL k with
          | true =>
            rw [p1_t LL hbk] at hc1
            have h2 : bits .and .i32 (2 * bel LL k + 1) 1 = 1 := by rw [i32_and1]; omega
            have h3 : (2 * bel LL k + 1) / 2 = bel LL k := by omega
            cases hba : bab LL k with
            | true =>
              have HE : Hid (cst LL k = 4 * max0 (bel LL k)) := cst_bt LL hba
              have HA1 : Hid (abv LL (k + 1) = bel LL k) := hA
              have HB1 : Hid (bab LL (k + 1) = true) := by show (_ = _); rw [hB, hbk]
              clear hA hB hba hbk
              generalize max0 (bel LL k) = M at *
              generalize bel LL k = X at *
              generalize abv LL k = Y at *
              go_wp2
              go_roundw
              case rel => exact ⟨k + 1, by omega, by go_num, by rw [HA1.out], by rw [HB1.out], (hrow.out.set _ _).congr (fun j _ => by rw [fB_step LL k j, HE.out]; split <;> rfl), hbel.out.setCell (Nat.le_refl _) _⟩
              case measure => simp [intOf]; omega
            | false =>
              have HE : Hid (cst LL k = 4 * max0 (bel LL k) + (abv LL k + 10)) := cst_bft LL hkl hba hbk
              have HA1 : Hid (abv LL (k + 1) = bel LL k) := hA
              have HB1 : Hid (bab LL (k + 1) = true) := by show (_ = _); rw [hB, hbk]
              clear hA hB hba hbk
              generalize max0 (bel LL k) = M at *
              generalize bel LL k = X at *
              generalize abv LL k = Y at *
              go_wp2
              go_roundw
              case rel => exact ⟨k + 1, by omega, by go_num, by rw [HA1.out], by rw [HB1.out], (hrow.out.set _ _).congr (fun j _ => by rw [fB_step LL k j, HE.out]; split <;> rfl), hbel.out.setCell (Nat.le_refl _) _⟩
              case measure => simp [intOf]; omega
          | false =>
            rw [p1_f LL hbk] at hc1
            have h2 : bits .and .i32 (2 * bel LL k) 1 = 0 := by rw [i32_and1]; omega
            have h3 : (2 * bel LL k) / 2 = bel LL k := by omega
            cases hba : bab LL k with
            | true =>
              have HE : Hid (cst LL k = 4 * max0 (bel LL k)) := cst_bt LL hba
              have HA1 : Hid (abv LL (k + 1) = bel LL k) := hA
              have HB1 : Hid (bab LL (k + 1) = false) := by show (_ = _); rw [hB, hbk]
              clear hA hB hba hbk
              generalize max0 (bel LL k) = M at *
              generalize bel LL k = X at *
              generalize abv LL k = Y at *
              go_wp2
              go_roundw
              case rel => exact ⟨k + 1, by omega, by go_num, by rw [HA1.out], by rw [HB1.out], (hrow.out.set _ _).congr (fun j _ => by rw [fB_step LL k j, HE.out]; split <;> rfl), hbel.out.setCell (Nat.le_refl _) _⟩
              case measure => simp [intOf]; omega
            | false =>
              have HE : Hid (cst LL k = 4 * max0 (bel LL k) + (abv LL k + 10) + 2) := cst_bff LL hkl hba hbk
              have HA1 : Hid (abv LL (k + 1) = bel LL k) := hA
              have HB1 : Hid (bab LL (k + 1) = false) := by show (_ = _); rw [hB, hbk]
              clear hA hB hba hbk
              generalize max0 (bel LL k) = M at *
              generalize bel LL k = X at *
              generalize abv LL k = Y at *
              go_wp2
              go_roundw
              case rel => exact ⟨k + 1, by omega, by go_num, by rw [HA1.out], by rw [HB1.out], (hrow.out.set _ _).congr (fun j _ => by rw [fB_step LL k j, HE.out]; split <;> rfl), hbel.out.setCell (Nat.le_refl _) _⟩
              case measure => simp [intOf]; omega
        · have hkn : k = n + 1 := by omega
          subst hkn
          have hcb := cst_bd LL HS.out n (by rw [HL.out]; exact Nat.le_refl _)
          have hf1 : wr.frozen? ⟨w.heap.size, n, none⟩ = false := hrow.out.frozen _
          have hc1 : wr.cell? ⟨w.heap.size, n, none⟩ = some (.int .i32 (fB LL (n + 1) n)) := hrow.out.cell (by omega)
          rw [fB_step, if_pos rfl] at hc1
          go_wp2
          go_ret
          refine ⟨rfl, hbel.out.setCell (Nat.le_refl _) _, (hrow.out.set _ _).congr (fun j hj => ?_)⟩
          by_cases e : j = n
          · rw [if_pos e, mdl, if_pos (by rw [HL.out]; exact e), e]
          · rw [if_neg e, mdl, if_neg (by rw [HL.out]; exact e), Int.sub_zero, fB, if_pos hj]
end Go.Proofs.Ybulkcesa
