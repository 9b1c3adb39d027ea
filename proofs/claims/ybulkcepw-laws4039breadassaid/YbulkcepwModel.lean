/-
  Seat b4039a: keyElement at every statement that the law builds; the walk of LawS4039BModel.
-/
import Derived.Test.YbulkcepwBuild
namespace Go.Proofs.Ybulkcepw
open Go.RowKit

theorem ke6 (s : ByteArray) (k : Int) (v : Option Addr) (w : World) (ib n : Nat) (hv he : Bool) (fk : Int) (t : ByteArray) (hm : StMem w ib n hv he fk t v) :
    Calls Yba.prog 6 #[stVal s k v] w fun e w' => e = .returned (.bool (wantB k hv he n fk t)) ∧ Below w.heap.size w w' := by
  by_cases hk : k = 1
  · subst hk
    refine (ke6_lone s v w).mono ?_
    rintro e w' ⟨rfl, hb⟩
    exact ⟨by simp [wantB], hb⟩
  cases hv with
  | false =>
    obtain rfl := hm.none rfl
    refine (ke6_nil s k w hk).mono ?_
    rintro e w' ⟨rfl, hb⟩
    exact ⟨by simp [wantB], hb⟩
  | true =>
    cases he with
    | false =>
      obtain ⟨vb, _, rfl, h1⟩ := hm.bare rfl rfl
      refine (ke6_bare s k vb w hk h1).mono ?_
      rintro e w' ⟨rfl, hb⟩
      exact ⟨by simp [wantB], hb⟩
    | true =>
      obtain ⟨vb, eb, _, _, rfl, h1, h2⟩ := hm.full rfl rfl
      by_cases hn : n = 2
      · subst hn
        refine (ke6_two s t k fk vb eb ib w hk h1 h2 (hm.first (by omega))).mono ?_
        rintro e w' ⟨rfl, hb⟩
        have : (k != 1) = true := by simpa using hk
        exact ⟨by simp [wantB, this], hb⟩
      · refine (ke6_other s k vb eb n _ w hk hn h1 h2).mono ?_
        rintro e w' ⟨rfl, hb⟩
        have : ((n : Int) == 2) = false := by simp; omega
        exact ⟨by simp [wantB, this], hb⟩

theorem StMem.alloc {w : World} {ib n : Nat} {hv he : Bool} {fk : Int} {t : ByteArray} {v : Option Addr} (h : StMem w ib n hv he fk t v) (o : Obj) : StMem (w.alloc o) ib n hv he fk t v :=
  h.kept fun b _ hb => Below.heap_alloc w o b hb

set_option maxHeartbeats 400000 in
theorem model3 (kw n8 fk sel : Int) (hv he : Bool) (t : ByteArray) (w : World) (hkw : 0 ≤ kw ∧ kw ≤ 255) (hn8 : 0 ≤ n8 ∧ n8 ≤ 255) (hfk : 0 ≤ fk ∧ fk ≤ 255) (hsel : 0 ≤ sel ∧ sel ≤ 255) :
    Calls Yba.prog 3 #[.agg #[.int .u8 kw, .bool hv, .bool he, .int .u8 n8, .int .u8 fk, .int .u8 sel, .string t]] w fun e w' => e = .returned (.bool true) ∧ Below w.heap.size w w' := by
  obtain ⟨n, hn⟩ : ∃ n : Nat, n8 % 5 = (n : Int) := ⟨(n8 % 5).toNat, by omega⟩
  have HN : Hid (n8 % 5 = (n : Int)) := hn
  clear hn
  go_enter Yba.func3, Yba.ntmps3
  go_wp2_with fail
  refine (build5 kw n8 fk sel n hv he t _ hkw hn8 hfk hsel HN.out).mono ?_
  rintro e w1 ⟨v, rfl, hb, hm⟩
  have hB1 : Below w.heap.size w w1 := ((Below.refl _ w).alloc (Nat.le_refl _) _).trans (hb.mono (by simp))
  simp only [stVal]
  go_wp2_with (go_at_call 6; go_must (refine (ke6 { data := #[107] } (kw % 8) v _ _ n hv he (fk % 8) (txtOf sel t) (hm.alloc _)).mono ?_); rintro e w2 ⟨rfl, hb2⟩)
  go_ret
  exact ⟨by simp, (hB1.alloc hB1.size _).trans (hb2.mono (by have := hB1.size; simp; omega))⟩
end Go.Proofs.Ybulkcepw
