/-
  Seat b4036aF: the arguments, opened: an array of sixteen bytes by value; a slice of bytes.
-/
import Derived.Test.YbulkceogFmtRows
import Derived.Test.YbulkceogFmtKit
import Derived.ProofKit
import Derived.OpenShut
namespace Go.Proofs.YbulkceogFmt
open Go.ChangeShapes Go.WideShapes Go.ChangeAt Go.RowKit

theorem cells22 : Ybaf.prog.cellsOf 22 = 16 := by kernel_rfl
theorem cells5' : Ybaf.prog.cellsOf 5 = 1 := by kernel_rfl

theorem u8_bd {z : Int} (h : (Lit.int .u8 z).wf = true) : 0 ≤ z ∧ z ≤ 255 := by
  simp [Lit.wf, IntKind.min, IntKind.max, IntKind.signed, IntKind.bits] at h
  omega

set_option maxRecDepth 100000 in
theorem open_arr {H : Type} {enc : TypeId × Value → H} {W : World} {r : Reach} {b0 base : Nat} {sp : Nat → Bool} {held : Bool} {v : Value} {d : DataW H} {p : List MemPlace}
    (hv : Value.okWide Ybaf.prog W r b0 22 v) (h : DataW.Trod enc Ybaf.prog W base sp held 22 v d p) :
    ∃ bf : List Int, v = .agg (av bf) ∧ bf.length = 16 ∧ ∀ j, j < 16 → 0 ≤ bf.getD j 0 ∧ bf.getD j 0 ≤ 255 := by
  obtain ⟨cs, rfl, hsz, _⟩ : ∃ cs, v = .agg cs ∧ cs.size = Ybaf.prog.cellsOf 22 ∧ Row.okWide Ybaf.prog W r b0 22 cs := by
    simpa [Value.okWide, Ybaf.underlying22] using hv
  rw [cells22] at hsz
  obtain ⟨fuel, hf⟩ := h
  obtain ⟨xs, m, _, _, _, hxl, hx⟩ := DataW.trod_array Ybaf.underlying22 hf
  have key : ∀ i, i < 16 → ∃ z : Int, cs[i]? = some (.int .u8 z) ∧ (Lit.int .u8 z).wf = true := by
    intro i hi
    have h1 := hx i hi
    rw [List.getElem?_eq_getElem (by omega), cells5', Nat.mul_one] at h1
    obtain ⟨z, e0, _, wz⟩ := DataW.trod_int Ybaf.underlying5 h1
    refine ⟨z, ?_, wz⟩
    have e1 : (cs.toList.drop i).take 1 = [.int .u8 z] := e0
    have hi' : i < cs.toList.length := by simpa [hsz] using hi
    rw [List.drop_eq_getElem_cons hi', List.take_succ_cons] at e1
    simp at e1
    rw [Array.getElem?_eq_getElem (by omega), e1]
  refine ⟨cs.toList.map intOf, ?_, by simp [hsz], ?_⟩
  · refine congrArg Value.agg ?_
    apply Array.ext_getElem?
    intro i
    by_cases hi : i < 16
    · obtain ⟨z, hz, _⟩ := key i hi
      rw [hz, av_at _ _ (by simp [hsz, hi])]
      have hz' : cs.toList[i]? = some (.int .u8 z) := by simpa using hz
      rw [List.getD_eq_getElem?_getD, List.getElem?_map, hz']
      rfl
    · rw [Array.getElem?_eq_none (by omega), Array.getElem?_eq_none (by rw [av_size]; simp [hsz]; omega)]
  · intro j hj
    obtain ⟨z, hz, wz⟩ := key j hj
    have hz' : cs.toList[j]? = some (.int .u8 z) := by simpa using hz
    rw [List.getD_eq_getElem?_getD, List.getElem?_map, hz']
    exact u8_bd wz
end Go.Proofs.YbulkceogFmt
