/-
  Seat b4036aF: LawS4036ARoundTrip: the row's step and the card.
-/
import Derived.Test.YbulkceogFmtCardKit
import Derived.Test.YbulkceogFmtMarshal
namespace Go.Proofs.YbulkceogFmt
open Go.ChangeShapes Go.WideShapes Go.ChangeAt Go.RowKit Go.Kit
open Go.Extern.Stop Go.Stop Go.Extern

set_option maxRecDepth 100000 in
theorem round_lifted (os : Os) (started : os.Started) (H : Type) (enc : TypeId × Value → H) :
    ReturnsInTold none {} Ybaf.checked os 5 .any Input.okWide ((OpenSpec.ofChange Rows.lawS4036ARoundTripSpec).preRow enc Ybaf.prog Ybaf.f5 [] false Rows.lawS4036ARoundTripRow.laid)
      (fun F => ((OpenSpec.ofChange Rows.lawS4036ARoundTripSpec).at F).post enc Ybaf.prog Ybaf.f5 false true false false) (aloneAtReturn Ybaf.prog) nothingAlways := by
  refine returnsInTold_of_row (C := Ybaf.checked) (s := OpenSpec.ofChange Rows.lawS4036ARoundTripSpec) (by kernel_rfl) own started (by kernel_rfl) Ybaf.func5
    (OpenSpec.witness_stopped_at (enc := enc) (C := Ybaf.checked) false ({ World.holding Ybaf.prog os ⟨#[.cells #[.string errLenS] 77], #[], []⟩ with heap := (World.holding Ybaf.prog os ⟨#[.cells #[.string errLenS] 77], #[], []⟩).heap.modify 0 fun
      | .cells _ t frozen => .cells #[.iface 75 (.pointer (some ⟨(World.holding Ybaf.prog default ⟨#[], #[], []⟩).heap.size, 0, none⟩))] t frozen
      | o => o } : World) #[.agg (av zeros), .agg (av zeros)] rfl (by kernel_rfl) (by kernel_rfl) (by kernel_rfl)
      (OpenSpec.preRow_of_B rfl 8 (by kernel_rfl) (by kernel_rfl) (laid_met os _))) ?_
  intro F W base args ds gs before _ hF hval0 hW _ _ _ _ _
  have hval : ∀ (j : Nat) t v, Ybaf.f5.params[j]? = some t → args[j]? = some v → Value.okWide Ybaf.prog W .any base t v := hval0
  have hW' := hW
  obtain ⟨p, q, hA0, hV, rfl, hfz, hnd⟩ := hW
  have hA : DataW.TrodAll enc Ybaf.prog W 0 (fun _ => true) true Ybaf.f5.params.toList args.toList ds p := hA0
  rw [Ybaf.params5] at hA hval
  obtain ⟨v0, vs0, d0, ds0, p0, q0, hargs, rfl, rfl, h0, r0⟩ := trodAll_cons hA
  obtain ⟨v1, vs1, d1, ds1, p1, q1, rfl, rfl, rfl, h1, r1⟩ := trodAll_cons r0
  obtain ⟨rfl, rfl, rfl⟩ := trodAll_nil r1
  obtain rfl : args = #[v0, v1] := by cases args; simp_all
  obtain ⟨rfl, rfl⟩ := trodVars_none hV
  have k0 := h0
  have k1 := h1
  have lt0 : ∀ x ∈ p0, x.block < W.heap.size := by obtain ⟨m, hm⟩ := k0; exact DataW.trod_lt m _ _ _ hm
  have lt1 : ∀ x ∈ p1, x.block < W.heap.size := by obtain ⟨m, hm⟩ := k1; exact DataW.trod_lt m _ _ _ hm
  obtain ⟨l, rfl, hl, hlb⟩ := open_arr (hval 0 22 v0 rfl rfl) h0
  obtain ⟨bf, rfl, hbf, _⟩ := open_arr (hval 1 22 v1 rfl rfl) h1
  clear hA0 hval0
  refine (round5 F.told l bf W hF hl hlb hbf).mono fun e W' ⟨he, bel⟩ => ?_
  subst he
  exact ⟨_, rfl, _, _, _, [], _, [], hW', trodAll_mk1 (shut_bool Ybaf.underlying4 _), (trodAll_cons_mk (Below.trod laidOut (by kernel_rfl) (of_decide_eq_true (by kernel_rfl)) k0 bel lt0) (trodAll_cons_mk (Below.trod laidOut (by kernel_rfl) (of_decide_eq_true (by kernel_rfl)) k1 bel lt1) trodAll_mk0)), rfl, bel.frame _, fun h => by cases h⟩

theorem round_proved : Rows.LawS4036ARoundTripToldSaid :=
  Claim7.holds_of_told_tied_any_at .later 5 Ybaf.f5 _ _ [] _ _ _ _ _ (by kernel_rfl) rfl rfl rfl pinnedLaidOut (by kernel_rfl) rfl ⟨rfl, rfl, rfl, rfl, rfl, rfl, rfl⟩ rfl rfl (by kernel_rfl) (by kernel_rfl) Ybaf.func5 (by kernel_rfl)
    (of_decide_eq_true (by kernel_rfl)) (of_decide_eq_true (by kernel_rfl)) pinnedStops.symm rfl pinnedKnobs.symm (by kernel_rfl)
    (by kernel_rfl) (by kernel_rfl) (by kernel_rfl) (by kernel_rfl) (by kernel_rfl) (by kernel_rfl) (by kernel_rfl) (by kernel_rfl) (by kernel_rfl) rfl (by kernel_rfl) rfl rfl
    rfl rfl
    rfl (by kernel_rfl) (by kernel_rfl) (by kernel_rfl) (by decide) (by kernel_rfl) lawS4036ARoundTrip_row_tie
    (OpenClaim.moreEntering_of (by kernel_rfl) (by kernel_rfl) (by kernel_rfl) (by kernel_rfl) (by kernel_rfl) (by kernel_rfl) (by kernel_rfl) (by kernel_rfl) (by kernel_rfl) (by kernel_rfl))
    ⟨_, WideRow.started_initial, pinnedQuiet _⟩
    (fun os started _ H enc _ => round_lifted os started H enc)
end Go.Proofs.YbulkceogFmt
