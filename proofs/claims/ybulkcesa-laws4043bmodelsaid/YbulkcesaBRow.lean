/-
  Seat b4043a: the argument opened; the row of LawS4043BModel.
-/
import Derived.Test.YbulkcesaRows
import Derived.Test.YbulkcesaBWalk
import Derived.Deep.Matrix
import Derived.WalkKit
import Derived.ProofKit
import Derived.OpenShut
import Derived.ChangeOld
import Derived.Below
namespace Go.Proofs.Ybulkcesa.lawS4043BModel
open Go.ChangeShapes Go.WideShapes Go.ChangeAt Go.RowKit

theorem own : ownKnob Yba.prog.godebug = none := by kernel_rfl
theorem laidOut : laidOutB Yba.prog = true := by kernel_rfl
theorem u8_bd {z : Int} (h : (Lit.int .u8 z).wf = true) : 0 ≤ z ∧ z ≤ 255 := by
  simp [Lit.wf, IntKind.min, IntKind.max, IntKind.signed, IntKind.bits] at h
  omega
theorem plain_of {w : World} {a : Addr} {i : Nat} {v : Value} (h0 : ∃ u, w.cell? (a.add 0) = some u) (h : w.cell? (a.add i) = some v) : ∃ b off, a = ⟨b, off, none⟩ ∧ w.cell? ⟨b, off + i, none⟩ = some v := by
  obtain ⟨b, off, spot⟩ := a
  obtain ⟨u, hu⟩ := h0
  have hspot : spot = none := by simpa [Addr.add] using World.cell?_spot hu
  subst hspot
  exact ⟨b, off, rfl, by rw [← Go.WideShapes.add_plain]; exact h⟩
theorem take_getD (Z : List Int) (L j : Nat) (h : j < L) : (Z.take L).getD j 0 = Z.getD j 0 := by
  simp [List.getD_eq_getElem?_getD, h]
theorem getD_mem (Z : List Int) (j : Nat) : Z.getD j 0 = 0 ∨ Z.getD j 0 ∈ Z := by
  rw [List.getD_eq_getElem?_getD]
  by_cases h : j < Z.length
  · rw [List.getElem?_eq_getElem h]; exact .inr (List.getElem_mem _)
  · rw [List.getElem?_eq_none (by omega)]; exact .inl rfl

theorem line_of {w : World} {A : Option Addr} {L C : Nat} {Z : List Int} (hL : L ≤ C) (hZ : Z.length = C) (hw : ∀ n ∈ Z, (Lit.int .u8 n).wf = true) (hn : A = none → C = 0)
    (hc : ∀ a', A = some a' → ∀ c, c < C → w.cell? (a'.add c) = some (.int .u8 (Z.getD c 0))) : LineAt w A L (Z.take L) := by
  refine ⟨by rw [List.length_take, hZ]; omega, fun j hj => ?_, fun j => ?_⟩
  · cases A with
    | none => have := hn rfl; omega
    | some a' =>
      obtain ⟨b, off, e, h⟩ := plain_of ⟨_, hc a' rfl 0 (by omega)⟩ (hc a' rfl j (by omega))
      exact ⟨b, off, by rw [e], by rw [take_getD Z L j hj]; exact h⟩
  · rcases getD_mem (Z.take L) j with h | h
    · rw [h]; omega
    · exact u8_bd (hw _ (List.mem_of_mem_take h))

theorem lines_of {H : Type} {enc : TypeId × Value → H} {W : World} {base fuel : Nat} {held : Bool} {a : Option Addr} {len cap : Nat} {x : DataW H × List MemPlace}
    (h : DataW.trod enc Yba.prog W base (fun _ => true) held fuel 35 [.slice a len cap] = some x) : ∃ LL, LinesAt W a len LL := by
  rcases Go.Deep.open_int_rows Yba.underlying35 Yba.underlying36 Yba.underlying5 (by kernel_rfl) (by kernel_rfl) h with ⟨hcs, _⟩ | ⟨a', len', cap', A, L, C, Z, hcs, _, hl, hm, _, hr⟩
  · simp at hcs
    obtain ⟨rfl, rfl, rfl⟩ := hcs
    exact ⟨[], ⟨rfl, fun i hi => absurd hi (by omega)⟩⟩
  · simp at hcs
    obtain ⟨rfl, rfl, rfl⟩ := hcs
    refine ⟨(List.range len).map fun r => (Z r).take (L r), ⟨by simp, fun i hi => ?_⟩⟩
    obtain ⟨b, off, e, hc⟩ := plain_of ⟨_, (hr 0 (by omega)).1⟩ (hr i (by omega)).1
    obtain ⟨_, h2, _, h4, h5, h6, h7⟩ := hr i (by omega)
    refine ⟨b, off, A i, L i, C i, by rw [e], hc, h2, ?_⟩
    have hg : (List.map (fun r => (Z r).take (L r)) (List.range len)).getD i [] = (Z i).take (L i) := by
      simp [List.getD_eq_getElem?_getD, hi]
    rw [hg]
    exact line_of h2 h4 h5 h6 (fun a' ha c hc => (h7 a' ha).2 c hc)

set_option maxRecDepth 100000 in
theorem lifted (os : Os) (started : os.Started) (H : Type) (enc : TypeId × Value → H) :
    ReturnsInHanded {} Yba.checked os 4 .any (Rows.lawS4043BModelSpec.pre6 enc Yba.prog Yba.f4 Rows.lawS4043BModelRow.domain false) (Rows.lawS4043BModelSpec.post enc Yba.prog Yba.f4 false true false false) := by
  refine returnsInHanded_of_change (C := Yba.checked) own started (by kernel_rfl) Yba.func4
    (ChangeSpec.witness6 (enc := enc) (C := Yba.checked) false ⟨#[], #[.slice none 0 0, .int .u64 0], []⟩ 8 (by kernel_rfl) (by kernel_rfl) (by kernel_rfl) (by kernel_rfl)) ?_
  intro W base args ds gs before hval0 hW hcnd _
  have hval : ∀ (j : Nat) t v, Yba.f4.params[j]? = some t → args[j]? = some v → Value.okWide Yba.prog W .any base t v := hval0
  have hW' := hW
  obtain ⟨p, q, hA0, hV, rfl, hfz, hnd⟩ := hW
  have hA : DataW.TrodAll enc Yba.prog W 0 (fun _ => true) true Yba.f4.params.toList args.toList ds p := hA0
  rw [Yba.params4] at hA hval
  obtain ⟨v0, vs0, d0, ds0, p0, q0, hargs, rfl, rfl, h0, r0⟩ := trodAll_cons hA
  obtain ⟨v1, vs1, d1, ds1, p1, q1, rfl, rfl, rfl, h1, r1⟩ := trodAll_cons r0
  obtain ⟨rfl, rfl, rfl⟩ := trodAll_nil r1
  obtain rfl : args = #[v0, v1] := by cases args; simp_all
  obtain ⟨rfl, rfl⟩ := trodVars_none hV
  obtain ⟨a0, len0, cap0, rfl⟩ := okWide_slice Yba.underlying35 (hval 0 35 v0 rfl rfl)
  have k0 := h0
  have lt0 : ∀ x ∈ p0, x.block < W.heap.size := by obtain ⟨m, hm⟩ := k0; exact DataW.trod_lt m _ _ _ hm
  obtain ⟨LL, hLL⟩ : ∃ LL, LinesAt W a0 len0 LL := by
    obtain ⟨fuel, hf⟩ := h0
    exact lines_of hf
  obtain ⟨a1, rfl, rfl, rfl, w1⟩ := open_int Yba.underlying23 (hval 1 23 v1 rfl rfl) h1
  have hp : 0 ≤ a1 ∧ a1 ≤ 18446744073709551615 := by
    have := w1
    simp [Lit.wf, IntKind.min, IntKind.max, IntKind.signed, IntKind.bits] at this
    omega
  clear hA0 hval0
  refine (bModel4 a0 len0 cap0 LL a1 W hLL hp.1 hp.2).mono fun e W' ⟨he, bel⟩ => ?_
  subst he
  exact ⟨_, rfl, _, _, _, [], _, [], hW', trodAll_mk1 (shut_bool Yba.underlying4 _), (trodAll_cons_mk (Below.trod laidOut (by kernel_rfl) (of_decide_eq_true (by kernel_rfl)) k0 bel lt0) (trodAll_cons_mk (shut_int Yba.underlying23 w1) trodAll_mk0)), rfl, bel.frame _, fun h => by cases h⟩

theorem proved : Rows.LawS4043BModelSaid :=
  OpenClaim.holds_of_wide 4 Yba.f4 rfl rfl rfl rfl rfl rfl rfl ⟨rfl, rfl, rfl, rfl, rfl⟩ rfl rfl rfl rfl rfl (by kernel_rfl) Yba.func4 (by kernel_rfl)
    (of_decide_eq_true (by kernel_rfl)) (by unfold Func.isWrapper; first | (rw [if_pos (by decide +kernel)]; kernel_rfl) | (rw [if_neg (by decide +kernel)]; exact ⟨rfl, rfl⟩))
    (fun os started H enc _ => lifted os started H enc)
end Go.Proofs.Ybulkcesa.lawS4043BModel
