/-
  Seat b4036aF: encoding/hex.Decode at 32 digits, by its contract.
-/
import Derived.Test.YbulkceogFmtKit
namespace Go.Proofs.YbulkceogFmt
open Go.RowKit

/-- All of the 32 are digits. -/
def allHex (D : Nat → Int) : Prop := ∀ k, k < 32 → hexB (D k) = true
/-- Byte j out of the digits. -/
def pairN (D : Nat → Int) (j : Nat) : Int := hexN (D (2 * j)) * 16 + hexN (D (2 * j + 1))
/-- When k pairs have been decoded. -/
def pairTo (D : Nat → Int) (k j : Nat) : Int := if j < k then pairN D j else 0

def revT : ByteArray := { data := #[255, 255, 255, 255, 255, 255, 255, 255, 255, 255, 255, 255, 255, 255, 255, 255, 255, 255, 255, 255, 255, 255, 255, 255, 255, 255, 255, 255, 255, 255, 255, 255, 255, 255, 255, 255, 255, 255, 255, 255, 255, 255, 255, 255, 255, 255, 255, 255, 0, 1, 2, 3, 4, 5, 6, 7, 8, 9, 255, 255, 255, 255, 255, 255, 255, 10, 11, 12, 13, 14, 15, 255, 255, 255, 255, 255, 255, 255, 255, 255, 255, 255, 255, 255, 255, 255, 255, 255, 255, 255, 255, 255, 255, 255, 255, 255, 255, 10, 11, 12, 13, 14, 15, 255, 255, 255, 255, 255, 255, 255, 255, 255, 255, 255, 255, 255, 255, 255, 255, 255, 255, 255, 255, 255, 255, 255, 255, 255, 255, 255, 255, 255, 255, 255, 255, 255, 255, 255, 255, 255, 255, 255, 255, 255, 255, 255, 255, 255, 255, 255, 255, 255, 255, 255, 255, 255, 255, 255, 255, 255, 255, 255, 255, 255, 255, 255, 255, 255, 255, 255, 255, 255, 255, 255, 255, 255, 255, 255, 255, 255, 255, 255, 255, 255, 255, 255, 255, 255, 255, 255, 255, 255, 255, 255, 255, 255, 255, 255, 255, 255, 255, 255, 255, 255, 255, 255, 255, 255, 255, 255, 255, 255, 255, 255, 255, 255, 255, 255, 255, 255, 255, 255, 255, 255, 255, 255, 255, 255, 255, 255, 255, 255, 255, 255, 255, 255, 255, 255, 255, 255, 255, 255, 255, 255, 255, 255, 255, 255, 255, 255, 255, 255, 255, 255, 255, 255] }
set_option maxRecDepth 100000 in
theorem rev_size : revT.size = 256 := by decide
set_option maxRecDepth 100000 in
theorem rev_all : ∀ c : Fin 256, (((revT.data[c.val]?.getD 0).toNat : Nat) : Int) = if hexB (c.val : Int) then hexN (c.val : Int) else 255 := by decide +kernel
theorem rev_at (c : Int) (h0 : 0 ≤ c) (h1 : c ≤ 255) (h : c.toNat < revT.size) : (((revT[c.toNat]'h).toNat : Nat) : Int) = if hexB c then hexN c else 255 := by
  have hf := rev_all ⟨c.toNat, by omega⟩
  simp only [show ((c.toNat : Nat) : Int) = c by omega] at hf
  rw [← hf]
  have : revT.data[c.toNat]? = some (revT[c.toNat]'h) := by
    rw [Array.getElem?_eq_getElem (by exact h)]; rfl
  rw [this]; rfl
theorem rev_bad (c : Int) (h0 : 0 ≤ c) (h1 : c ≤ 255) (h : c.toNat < revT.size) (g : 15 < (((revT[c.toNat]'h).toNat : Nat) : Int)) : hexB c = false := by
  rw [rev_at c h0 h1 h] at g
  cases hb : hexB c with
  | false => rfl
  | true => rw [hb, if_pos rfl] at g; have := hexN_bd c; omega
theorem rev_ok (c : Int) (h0 : 0 ≤ c) (h1 : c ≤ 255) (h : c.toNat < revT.size) (g : (((revT[c.toNat]'h).toNat : Nat) : Int) ≤ 15) : hexB c = true ∧ (((revT[c.toNat]'h).toNat : Nat) : Int) = hexN c := by
  rw [rev_at c h0 h1 h] at g ⊢
  cases hb : hexB c with
  | true => exact ⟨rfl, rfl⟩
  | false => rw [hb] at g; simp at g
theorem pair_step (D : Nat → Int) (k j : Nat) : pairTo D (k + 1) j = if j = k then pairN D k else pairTo D k j := by
  unfold pairTo
  by_cases e : j = k
  · subst e; rw [if_pos (by omega), if_pos rfl]
  · rw [if_neg e]
    by_cases h : j < k
    · rw [if_pos (by omega), if_pos h]
    · rw [if_neg (by omega), if_neg h]
theorem good_two {D : Nat → Int} {k : Nat} (h : ∀ m, m < 2 * k → hexB (D m) = true) (h1 : hexB (D (2 * k)) = true) (h2 : hexB (D (2 * k + 1)) = true) : ∀ m, m < 2 * (k + 1) → hexB (D m) = true := by
  intro m hm
  by_cases e : m = 2 * k
  · rw [e]; exact h1
  · by_cases e2 : m = 2 * k + 1
    · rw [e2]; exact h2
    · exact h m (by omega)
theorem byte_pair (D : Nat → Int) (k : Nat) (x y : Int) (hx : x = hexN (D (2 * k))) (hy : y = hexN (D (2 * k + 1))) : Value.int .u8 (bits BinOp.or .u8 (x * 16) y) = Value.int .u8 (pairN D k) := by
  rw [hx, hy, or_hex _ _ (hexN_bd _) (hexN_bd _)]; rfl
theorem grown_set {w wr : World} {b : Nat} (h : w.grownBy wr (some b)) (o : Nat) (v : Value) : w.grownBy (wr.setCell ⟨b, o, none⟩ v) (some b) :=
  ⟨h.os, h.tape, h.output, by simpa [World.setCell] using h.size, fun k hk hne => (Below.heap_setCell _ _ _ _ (fun e => hne (by rw [e]))).trans (h.block k hk hne)⟩
theorem not_all {D : Nat → Int} {m : Nat} (hm : m < 32) (h : hexB (D m) = false) : ¬ allHex D := fun ha => by rw [ha m hm] at h; cases h

set_option maxHeartbeats 1000000 in
set_option maxRecDepth 100000 in
theorem decode25 (D : Nat → Int) (bd bs : Nat) (w : World) (hD : ∀ i, 0 ≤ D i ∧ D i ≤ 255) (hc : ∀ i, i < 32 → w.cell? ⟨bs, i, none⟩ = some (.int .u8 (D i)))
    (hrow : w.rowIs bd 26 16 (fun _ => .int .u8 0)) (hne : bd ≠ bs) :
    Calls Ybaf.prog 25 #[.slice (some ⟨bd, 0, none⟩) 16 16, .slice (some ⟨bs, 0, none⟩) 32 32] w fun e w' =>
      w.grownBy w' (some bd) ∧ ((allHex D ∧ e = .returned (.tuple #[.int .i64 16, .nilIface]) ∧ w'.rowIs bd 26 16 (fun j => .int .u8 (pairN D j))) ∨ (¬ allHex D ∧ ∃ n x, e = .returned (.tuple #[.int .i64 n, .iface 82 x]))) := by
  have HC : Hid (∀ i, i < 32 → w.cell? ⟨bs, i, none⟩ = some (.int .u8 (D i))) := hc
  have HD : Hid (∀ i, 0 ≤ D i ∧ D i ≤ 255) := hD
  clear hc hD
  go_enter Ybaf.func25, Ybaf.ntmps25
  go_wp2
  go_loopw [6, 7] (fun vi vj wr => ∃ k : Nat, k ≤ 16 ∧ vi = .int .i64 k ∧ vj = .int .i64 ((2 * k : Nat) : Int) ∧ Hid (∀ m, m < 2 * k → hexB (D m) = true) ∧
      Hid (wr.rowIs bd 26 16 (fun j => .int .u8 (pairTo D k j))) ∧ Hid (w.grownBy wr (some bd))) (fun vi _ _ => 16 - (intOf vi).toNat)
  case atStart => exact ⟨0, by omega, rfl, rfl, fun m hm => absurd hm (by omega), hrow.congr (fun j _ => rfl), ⟨rfl, rfl, rfl, Nat.le_refl _, fun _ _ _ => rfl⟩⟩
  case round =>
    obtain ⟨k, hk, rfl, rfl, hgood, hout, hgr⟩ := hrel
    have hcx : k < 16 → wr.cell? ⟨bs, 2 * k, none⟩ = some (.int .u8 (D (2 * k))) := fun h => by
      exact hgr.out.cell (HC.out (2 * k) (by omega)) (by simp; omega)
    have hcy : k < 16 → wr.cell? ⟨bs, 2 * k + 1, none⟩ = some (.int .u8 (D (2 * k + 1))) := fun h => by
      exact hgr.out.cell (HC.out (2 * k + 1) (by omega)) (by simp; omega)
    have hf : wr.frozen? ⟨bd, k, none⟩ = false := hout.out.frozen _
    have hcd : k < 16 → wr.cell? ⟨bd, k, none⟩ = some (.int .u8 (pairTo D k k)) := fun h => hout.out.cell h
    have hx := HD.out (2 * k)
    have hy := HD.out (2 * k + 1)
    by_cases hlt : k < 16
    · go_wp2
      · go_ret2
        have hb := rev_bad (D (2 * k)) hx.1 hx.2 (by rw [rev_size]; omega) (by assumption)
        exact ⟨hgr.out, .inr ⟨not_all (by omega) hb, _, _, rfl⟩⟩
      · go_ret2
        have hb := rev_bad (D (2 * k + 1)) hy.1 hy.2 (by rw [rev_size]; omega) (by assumption)
        exact ⟨hgr.out, .inr ⟨not_all (by omega) hb, _, _, rfl⟩⟩
      · have ha := rev_ok (D (2 * k)) hx.1 hx.2 (by rw [rev_size]; omega) (by assumption)
        have hb := rev_ok (D (2 * k + 1)) hy.1 hy.2 (by rw [rev_size]; omega) (by assumption)
        go_roundw
        case rel =>
          refine ⟨k + 1, by omega, by go_num, by go_num, good_two hgood.out ha.1 hb.1, (hout.out.set _ _).congr (fun j _ => ?_), ?_⟩
          · rw [pair_step]
            split
            · exact byte_pair D k _ _ ha.2 hb.2
            · rfl
          · exact grown_set hgr.out _ _
        case measure => simp [intOf]; omega
    · have h16 : k = 16 := by omega
      subst h16
      go_wp2
      go_ret2
      exact ⟨hgr.out, .inl ⟨fun m hm => hgood.out m (by omega), rfl, hout.out.congr (fun j hj => by rw [pairTo, if_pos hj])⟩⟩

/-- The same, its two results under names. -/
theorem decode25_n (D : Nat → Int) (bd bs : Nat) (w : World) (hD : ∀ i, 0 ≤ D i ∧ D i ≤ 255) (hc : ∀ i, i < 32 → w.cell? ⟨bs, i, none⟩ = some (.int .u8 (D i)))
    (hrow : w.rowIs bd 26 16 (fun _ => .int .u8 0)) (hne : bd ≠ bs) :
    Calls Ybaf.prog 25 #[.slice (some ⟨bd, 0, none⟩) 16 16, .slice (some ⟨bs, 0, none⟩) 32 32] w fun e w' =>
      ∃ n v, e = .returned (.tuple #[.int .i64 n, v]) ∧ w.grownBy w' (some bd) ∧ ((allHex D ∧ v = .nilIface ∧ w'.rowIs bd 26 16 (fun j => .int .u8 (pairN D j))) ∨ (¬ allHex D ∧ ∃ x, v = .iface 82 x)) := by
  refine (decode25 D bd bs w hD hc hrow hne).mono ?_
  rintro e w' ⟨hg, ⟨h1, h2, h3⟩ | ⟨h1, n, x, h2⟩⟩
  · exact ⟨16, _, h2, hg, .inl ⟨h1, rfl, h3⟩⟩
  · exact ⟨n, _, h2, hg, .inr ⟨h1, x, rfl⟩⟩
end Go.Proofs.YbulkceogFmt
