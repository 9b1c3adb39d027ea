/-
  Seat b4036aF: encoding/hex.Encode at sixteen bytes, by its contract.
-/
import Derived.Test.YbulkceogFmtDecode
namespace Go.Proofs.YbulkceogFmt
open Go.RowKit

/-- The lower case digit of a number below 16. -/
def hexD (n : Int) : Int := if n ≤ 9 then 48 + n else 87 + n
/-- Digit j of the 32. -/
def digC (V : Nat → Int) (j : Nat) : Int := if j % 2 = 0 then hexD (V (j / 2) / 16) else hexD (V (j / 2) % 16)
def digTo (V : Nat → Int) (k j : Nat) : Int := if j < k then digC V j else 0

def tabT : ByteArray := { data := #[48, 49, 50, 51, 52, 53, 54, 55, 56, 57, 97, 98, 99, 100, 101, 102] }
theorem tab_size : tabT.size = 16 := by decide
theorem tab_all : ∀ c : Fin 16, (((tabT.data[c.val]?.getD 0).toNat : Nat) : Int) = hexD (c.val : Int) := by decide
theorem tab_at (c : Int) (h0 : 0 ≤ c) (h1 : c ≤ 15) (h : c.toNat < tabT.size) : (((tabT[c.toNat]'h).toNat : Nat) : Int) = hexD c := by
  have hf := tab_all ⟨c.toNat, by omega⟩
  simp only [show ((c.toNat : Nat) : Int) = c by omega] at hf
  rw [← hf]
  have : tabT.data[c.toNat]? = some (tabT[c.toNat]'h) := by
    rw [Array.getElem?_eq_getElem (by exact h)]; rfl
  rw [this]; rfl
theorem dig_old (V : Nat → Int) (k j : Nat) (h1 : ¬ j = 2 * k + 1) (h2 : ¬ j = 2 * k) : digTo V (2 * k) j = digTo V (2 * (k + 1)) j := by
  unfold digTo
  by_cases h : j < 2 * k
  · rw [if_pos h, if_pos (show j < 2 * (k + 1) by omega)]
  · rw [if_neg h, if_neg (show ¬ j < 2 * (k + 1) by omega)]
theorem dig_hi (V : Nat → Int) (k : Nat) : digTo V (2 * (k + 1)) (2 * k) = hexD (V k / 16) := by
  unfold digTo digC
  rw [if_pos (by omega), if_pos (by omega), show 2 * k / 2 = k by omega]
theorem dig_lo (V : Nat → Int) (k : Nat) : digTo V (2 * (k + 1)) (2 * k + 1) = hexD (V k % 16) := by
  unfold digTo digC
  rw [if_pos (by omega), if_neg (by omega), show (2 * k + 1) / 2 = k by omega]
theorem dig_step (V : Nat → Int) (k j : Nat) (x y : Int) (hx : x = hexD (V k / 16)) (hy : y = hexD (V k % 16)) : (if j = 2 * k + 1 then Value.int .u8 y else if j = 2 * k then Value.int .u8 x else Value.int .u8 (digTo V (2 * k) j)) = Value.int .u8 (digTo V (2 * (k + 1)) j) := by
  by_cases e1 : j = 2 * k + 1
  · subst e1
    rw [if_pos rfl, dig_lo, hy]
  · rw [if_neg e1]
    by_cases e2 : j = 2 * k
    · subst e2
      rw [if_pos rfl, dig_hi, hx]
    · rw [if_neg e2, dig_old V k j e1 e2]

set_option maxHeartbeats 1000000 in
theorem encode26 (V : Nat → Int) (bd bs : Nat) (w : World) (hV : ∀ j, j < 16 → 0 ≤ V j ∧ V j ≤ 255) (hc : ∀ i, i < 16 → w.cell? ⟨bs, i, none⟩ = some (.int .u8 (V i)))
    (hrow : w.rowIs bd 70 32 (fun _ => .int .u8 0)) (hne : bd ≠ bs) :
    Calls Ybaf.prog 26 #[.slice (some ⟨bd, 0, none⟩) 32 32, .slice (some ⟨bs, 0, none⟩) 16 16] w fun e w' =>
      e = .returned (.int .i64 32) ∧ w.grownBy w' (some bd) ∧ w'.heap.size = w.heap.size ∧ w'.rowIs bd 70 32 (fun j => .int .u8 (digC V j)) := by
  have HC : Hid (∀ i, i < 16 → w.cell? ⟨bs, i, none⟩ = some (.int .u8 (V i))) := hc
  have HV : Hid (∀ j, j < 16 → 0 ≤ V j ∧ V j ≤ 255) := hV
  clear hc hV
  go_enter Ybaf.func26, Ybaf.ntmps26
  go_wp2
  go_loopw [5, 10] (fun vj vi wr => ∃ k : Nat, k ≤ 16 ∧ vi = .int .i64 k ∧ vj = .int .i64 ((2 * k : Nat) : Int) ∧
      Hid (wr.rowIs bd 70 32 (fun j => .int .u8 (digTo V (2 * k) j))) ∧ Hid (w.grownBy wr (some bd)) ∧ Hid (wr.heap.size = w.heap.size)) (fun _ vi _ => 16 - (intOf vi).toNat)
  case atStart => exact ⟨0, by omega, rfl, rfl, hrow.congr (fun j _ => rfl), ⟨rfl, rfl, rfl, Nat.le_refl _, fun _ _ _ => rfl⟩, rfl⟩
  case round =>
    obtain ⟨k, hk, rfl, rfl, hout, hgr, hsz⟩ := hrel
    by_cases hlt : k < 16
    · have hcx : wr.cell? ⟨bs, k, none⟩ = some (.int .u8 (V k)) := hgr.out.cell (HC.out k hlt) (by simp; omega)
      have hx := HV.out k hlt
      generalize hx0 : V k = x at hcx hx
      have HX : Hid (V k = x) := hx0
      clear hx0
      have hf1 : wr.frozen? ⟨bd, 2 * k, none⟩ = false := hout.out.frozen _
      have hc1 : wr.cell? ⟨bd, 2 * k, none⟩ = some (.int .u8 (digTo V (2 * k) (2 * k))) := hout.out.cell (by omega)
      have hf2 : ∀ v, (wr.setCell ⟨bd, 2 * k, none⟩ v).frozen? ⟨bd, 2 * k + 1, none⟩ = false := fun v => (hout.out.set _ v).frozen _
      have hc2 : ∀ v, (wr.setCell ⟨bd, 2 * k, none⟩ v).cell? ⟨bd, 2 * k + 1, none⟩ = some (.int .u8 (digTo V (2 * k) (2 * k + 1))) := fun v => by
        have := (hout.out.set (2 * k) v).cell (i := 2 * k + 1) (by omega)
        rwa [if_neg (by omega)] at this
      go_wp2
      go_roundw
      case rel =>
        have e1 := tab_at (x / 16) (by omega) (by omega) (by rw [tab_size]; omega)
        have e2 := tab_at (x % 16) (by omega) (by omega) (by rw [tab_size]; omega)
        exact ⟨k + 1, by omega, by go_num, by go_num, ((hout.out.set _ _).set _ _).congr (fun j _ => dig_step V k j _ _ (e1.trans (by rw [HX.out])) (e2.trans (by rw [HX.out]))), grown_set (grown_set hgr.out _ _) _ _, by show (_ = _); simpa [World.setCell] using hsz.out⟩
      case measure => simp [intOf]; omega
    · have h16 : k = 16 := by omega
      subst h16
      go_wp2
      go_ret
      exact ⟨rfl, hgr.out, hsz.out, hout.out.congr (fun j hj => by rw [digTo, if_pos (by omega)])⟩
end Go.Proofs.YbulkceogFmt
