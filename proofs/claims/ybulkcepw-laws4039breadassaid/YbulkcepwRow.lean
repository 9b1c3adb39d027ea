/-
  Seat b4039a: the argument opened; the row of LawS4039BModel.
-/
import Derived.Test.YbulkcepwRows
import Derived.Test.YbulkcepwModel
import Derived.WalkKit
import Derived.ProofKit
import Derived.OpenShut
import Derived.ChangeOld
import Derived.Below
namespace Go.Proofs.Ybulkcepw
open Go.ChangeShapes Go.WideShapes Go.ChangeAt Go.RowKit

theorem own : ownKnob Yba.prog.godebug = none := by kernel_rfl
theorem laidOut : laidOutB Yba.prog = true := by kernel_rfl
theorem cells23 : Yba.prog.cellsOf 23 = 7 := by kernel_rfl
theorem cells5 : Yba.prog.cellsOf 5 = 1 := by kernel_rfl
theorem cells4 : Yba.prog.cellsOf 4 = 1 := by kernel_rfl
theorem cells9 : Yba.prog.cellsOf 9 = 1 := by kernel_rfl
theorem array7 {α : Type} {cs : Array α} (h : cs.size = 7) : ∃ c0 c1 c2 c3 c4 c5 c6, cs = #[c0, c1, c2, c3, c4, c5, c6] := by
  obtain ⟨l⟩ := cs
  match l, h with
  | [c0, c1, c2, c3, c4, c5, c6], _ => exact ⟨c0, c1, c2, c3, c4, c5, c6, rfl⟩
theorem u8_bd {z : Int} (h : (Lit.int .u8 z).wf = true) : 0 ≤ z ∧ z ≤ 255 := by
  simp [Lit.wf, IntKind.min, IntKind.max, IntKind.signed, IntKind.bits] at h
  omega

set_option maxRecDepth 100000 in
theorem open_in {H : Type} {enc : TypeId × Value → H} {W : World} {r : Reach} {b0 base : Nat} {sp : Nat → Bool} {held : Bool} {v : Value} {d : DataW H} {p : List MemPlace}
    (hv : Value.okWide Yba.prog W r b0 23 v) (h : DataW.Trod enc Yba.prog W base sp held 23 v d p) :
    ∃ (kw n8 fk sel : Int) (bv be : Bool) (t : ByteArray), v = .agg #[.int .u8 kw, .bool bv, .bool be, .int .u8 n8, .int .u8 fk, .int .u8 sel, .string t] ∧
      (0 ≤ kw ∧ kw ≤ 255) ∧ (0 ≤ n8 ∧ n8 ≤ 255) ∧ (0 ≤ fk ∧ fk ≤ 255) ∧ (0 ≤ sel ∧ sel ≤ 255) := by
  obtain ⟨cs, rfl, hsz⟩ := okWide_struct Yba.underlying23 hv
  obtain ⟨c0, c1, c2, c3, c4, c5, c6, rfl⟩ := array7 (hsz.trans cells23)
  obtain ⟨fuel, hf⟩ := h
  obtain ⟨xs, m, _, _, _, hxl, hx⟩ := DataW.trod_struct Yba.underlying23 hf
  match xs, hxl with
  | [y0, y1, y2, y3, y4, y5, y6], _ =>
    have g0 := hx 0 _ rfl
    have g1 := hx 1 _ rfl
    have g2 := hx 2 _ rfl
    have g3 := hx 3 _ rfl
    have g4 := hx 4 _ rfl
    have g5 := hx 5 _ rfl
    have g6 := hx 6 _ rfl
    obtain ⟨a0, e0, _, w0⟩ := DataW.trod_int Yba.underlying5 g0
    obtain ⟨a1, e1, _⟩ := DataW.trod_bool Yba.underlying4 g1
    obtain ⟨a2, e2, _⟩ := DataW.trod_bool Yba.underlying4 g2
    obtain ⟨a3, e3, _, w3⟩ := DataW.trod_int Yba.underlying5 g3
    obtain ⟨a4, e4, _, w4⟩ := DataW.trod_int Yba.underlying5 g4
    obtain ⟨a5, e5, _, w5⟩ := DataW.trod_int Yba.underlying5 g5
    obtain ⟨a6, e6, _⟩ := DataW.trod_string Yba.underlying9 g6
    simp [cells5, Value.cells] at e0 e3 e4 e5
    simp [cells4, Value.cells] at e1 e2
    simp [cells9, Value.cells] at e6
    subst e0 e1 e2 e3 e4 e5 e6
    exact ⟨a0, a3, a4, a5, a1, a2, a6, rfl, u8_bd w0, u8_bd w3, u8_bd w4, u8_bd w5⟩

set_option maxRecDepth 100000 in
theorem model_lifted (os : Os) (started : os.Started) (H : Type) (enc : TypeId × Value → H) :
    ReturnsInHanded {} Yba.checked os 3 .any (Rows.lawS4039BModelSpec.pre6 enc Yba.prog Yba.f3 Rows.lawS4039BModelRow.domain false) (Rows.lawS4039BModelSpec.post enc Yba.prog Yba.f3 false true false false) := by
  refine returnsInHanded_of_change (C := Yba.checked) own started (by kernel_rfl) Yba.func3
    (ChangeSpec.witness6 (enc := enc) (C := Yba.checked) false ⟨#[], #[.agg #[.int .u8 0, .bool false, .bool false, .int .u8 0, .int .u8 0, .int .u8 0, .string ⟨#[]⟩]], []⟩ 8 (by kernel_rfl) (by kernel_rfl) (by kernel_rfl) (by kernel_rfl)) ?_
  intro W base args ds gs before hval0 hW hcnd _
  have hval : ∀ (j : Nat) t v, Yba.f3.params[j]? = some t → args[j]? = some v → Value.okWide Yba.prog W .any base t v := hval0
  have hW' := hW
  obtain ⟨p, q, hA0, hV, rfl, hfz, hnd⟩ := hW
  have hA : DataW.TrodAll enc Yba.prog W 0 (fun _ => true) true Yba.f3.params.toList args.toList ds p := hA0
  rw [Yba.params3] at hA hval
  obtain ⟨v0, vs0, d0, ds0, p0, q0, hargs, rfl, rfl, h0, r0⟩ := trodAll_cons hA
  obtain ⟨rfl, rfl, rfl⟩ := trodAll_nil r0
  obtain rfl : args = #[v0] := by cases args; simp_all
  obtain ⟨rfl, rfl⟩ := trodVars_none hV
  have k0 := h0
  have lt0 : ∀ x ∈ p0, x.block < W.heap.size := by obtain ⟨m, hm⟩ := k0; exact DataW.trod_lt m _ _ _ hm
  obtain ⟨kw, n8, fk, sel, bv, be, t, rfl, hkw, hn8, hfk, hsel⟩ := open_in (hval 0 23 v0 rfl rfl) h0
  clear hA0 hval0
  refine (model3 kw n8 fk sel bv be t W hkw hn8 hfk hsel).mono fun e W' ⟨he, bel⟩ => ?_
  subst he
  exact ⟨_, rfl, _, _, _, [], _, [], hW', trodAll_mk1 (shut_bool Yba.underlying4 _), (trodAll_cons_mk (Below.trod laidOut (by kernel_rfl) (of_decide_eq_true (by kernel_rfl)) k0 bel lt0) trodAll_mk0), rfl, bel.frame _, fun h => by cases h⟩

theorem model_proved : Rows.LawS4039BModelSaid :=
  OpenClaim.holds_of_wide 3 Yba.f3 rfl rfl rfl rfl rfl rfl rfl ⟨rfl, rfl, rfl, rfl, rfl⟩ rfl rfl rfl rfl rfl (by kernel_rfl) Yba.func3 (by kernel_rfl)
    (of_decide_eq_true (by kernel_rfl)) (by unfold Func.isWrapper; first | (rw [if_pos (by decide +kernel)]; kernel_rfl) | (rw [if_neg (by decide +kernel)]; exact ⟨rfl, rfl⟩))
    (fun os started H enc _ => model_lifted os started H enc)
end Go.Proofs.Ybulkcepw
