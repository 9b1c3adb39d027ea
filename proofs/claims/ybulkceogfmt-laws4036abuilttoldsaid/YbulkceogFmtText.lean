/-
  Seat b4036aF: a slice of bytes that came in, as a text: what 'string(text)' and the model make of it, in every later world.
-/
import Derived.Test.YbulkceogFmtRaw
import Derived.Laws.IdiomStrings
namespace Go.Proofs.YbulkceogFmt
open Go.RowKit

/-- WHAT THE LAWS ARE TOLD OF A TEXT: it converts to the string s, and the model reads it as s says, in every world in which the old memory stands. -/
structure IsText (w : World) (sv : Value) (s : ByteArray) : Prop where
  conv : ∀ w1, Below w.heap.size w w1 → (convert 24 9 sv).run Ybaf.prog w1 = .ok (.string s) w1
  model : ∀ w1, Below w.heap.size w w1 → Calls Ybaf.prog 9 #[sv] w1 fun e w' => e = .returned (.tuple #[.agg (av (said s)), .bool (okB s)]) ∧ Below w1.heap.size w1 w'

def bytesOf (zs : List Int) : List UInt8 := zs.map fun n => UInt8.ofNat n.toNat

theorem text_nil (w : World) : IsText w (.slice none 0 0) ByteArray.empty := by
  refine ⟨fun w1 _ => run_convert_bytes_nil (P := Ybaf.prog) w1 24 5 Ybaf.underlying24 Ybaf.underlying5 0 0 9 Ybaf.underlying9, fun w1 _ => ?_⟩
  exact model9_len none 0 0 w1 (by omega)

theorem byteOf_of (zs : List Int) (i : Nat) (hi : i < zs.length) (h0 : 0 ≤ zs.getD i 0) (h1 : zs.getD i 0 ≤ 255) : byteOf ⟨(bytesOf zs).toArray⟩ i = zs.getD i 0 := by
  unfold byteOf bytesOf
  rw [List.getD_eq_getElem?_getD, List.getElem?_eq_getElem hi] at h0 h1 ⊢
  simp [List.getElem?_eq_getElem hi] at h0 h1 ⊢
  omega

theorem text_row (w : World) (a : Addr) (len cap : Nat) (zs : List Int) (hl : zs.length = len) (hz : ∀ i, i < len → 0 ≤ zs.getD i 0 ∧ zs.getD i 0 ≤ 255)
    (hc : ∀ i, i < len → w.cell? (a.add i) = some (.int .u8 (zs.getD i 0))) (hb : len = 36 → ∃ b off, a = ⟨b, off, none⟩) : IsText w (.slice (some a) len cap) ⟨(bytesOf zs).toArray⟩ := by
  have hbl : (bytesOf zs).length = len := by simp [bytesOf, hl]
  have hsz : (⟨(bytesOf zs).toArray⟩ : ByteArray).size = len := by simp [ByteArray.size, hbl]
  have hc' : ∀ w1, Below w.heap.size w w1 → ∀ i, i < len → w1.cell? (a.add i) = some (.int .u8 (zs.getD i 0)) := fun w1 h i hi => by
    rw [h.cell (World.block_lt_of_cell? w _ (hc i hi))]; exact hc i hi
  refine ⟨fun w1 h => ?_, fun w1 h => ?_⟩
  · have := run_convert_bytes_back (P := Ybaf.prog) w1 24 9 5 a cap (bytesOf zs) Ybaf.underlying24 Ybaf.underlying5 Ybaf.underlying9 (fun j hj => by
      have hj' : j < len := by omega
      rw [hc' w1 h j hj']
      have hjz : j < zs.length := by omega
      have := hz j hj'
      rw [List.getD_eq_getElem?_getD, List.getElem?_eq_getElem hjz] at this ⊢
      simp [bytesOf] at this ⊢
      omega)
    rw [hbl] at this
    exact this
  · by_cases h36 : len = 36
    · obtain ⟨b, off, rfl⟩ := hb h36
      subst h36
      have hadd : ∀ i, (⟨b, off, none⟩ : Addr).add i = ⟨b, off + i, none⟩ := fun i => by unfold Addr.add; split <;> simp_all
      refine (model9 (byteOf ⟨(bytesOf zs).toArray⟩) b off cap w1 (byteOf_bd _) (fun i hi => ?_)).mono ?_
      · rw [← hadd, hc' w1 h i hi, byteOf_of zs i (by omega) (hz i hi).1 (hz i hi).2]
      · rintro e w' ⟨rfl, hB⟩
        have ho : okB ⟨(bytesOf zs).toArray⟩ = accB (byteOf ⟨(bytesOf zs).toArray⟩) := by unfold okB; rw [hsz]; simp
        exact ⟨by unfold said; rw [ho], hB⟩
    · refine (model9_len (some a) len cap w1 h36).mono ?_
      rintro e w' ⟨rfl, hB⟩
      have ho : okB ⟨(bytesOf zs).toArray⟩ = false := by unfold okB; rw [hsz]; simp [h36]
      exact ⟨by unfold said; rw [ho]; rfl, hB⟩
end Go.Proofs.YbulkceogFmt
