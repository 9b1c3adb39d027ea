/-
  Seat b4039a: the walk of LawS4039BReadAs.
-/
import Derived.Test.YbulkcepwReadAs
import Derived.Test.YbulkcepwEq
import Derived.Deep.QuietTactic
import Derived.BigQuiet
import Derived.WalkSmall
namespace Go.Proofs.Ybulkcepw
open Go.RowKit

def bodyObj (k : Int) (v : Option Addr) : Obj := .cells #[.string { data := #[107] }, .pointer none, .int .i32 0, .int .u8 k, .pointer v, .pointer none] 31
def blkObj (sb : Nat) : Obj := .cells #[.slice none 0 0, .slice (some ⟨sb, 0, none⟩) 1 1, .bool false, .int .u8 0, .nilIface] 41

/-- The world at the call of readAs. -/
theorem body_three (w1 : World) (k : Int) (v : Option Addr) : BodyIs (((w1.alloc (bodyObj k v)).alloc (bodyObj k v)).alloc (blkObj (w1.heap.size + 1))) (w1.heap.size + 1 + 1) (w1.heap.size + 1) { data := #[107] } k v := by
  refine ⟨?_, ?_⟩
  · have := heap_alloc2_new (w1.alloc (bodyObj k v)) (bodyObj k v) (blkObj (w1.heap.size + 1))
    simp only [World.size_alloc] at this
    exact this
  · have := heap_alloc2_old (w1.alloc (bodyObj k v)) (bodyObj k v) (blkObj (w1.heap.size + 1))
    simp only [World.size_alloc] at this
    exact this
theorem old_three (w1 : World) (A B C : Obj) (b : Nat) (h : b < w1.heap.size) : (((w1.alloc A).alloc B).alloc C).heap[b]? = w1.heap[b]? := by
  rw [Below.heap_alloc _ _ _ (by simp; omega), Below.heap_alloc _ _ _ (by simp; omega), Below.heap_alloc _ _ _ h]

theorem want_iff {k : Int} {hv he : Bool} {n : Nat} {fk : Int} {t : ByteArray} (h : wantB k hv he n fk t = true) : k ≠ 1 ∧ hv = true ∧ he = true ∧ n = 2 ∧ fk = 1 ∧ (t.toList == [107, 101, 121]) = true := by
  unfold wantB at h
  simp only [Bool.and_eq_true, bne_iff_ne, ne_eq, beq_iff_eq] at h
  obtain ⟨⟨⟨⟨⟨h1, h2⟩, h3⟩, h4⟩, h5⟩, h6⟩ := h
  exact ⟨h1, h2, h3, by omega, h5, by simpa using h6⟩

set_option maxHeartbeats 800000 in
theorem readLaw4_no (kw n8 fk sel : Int) (n : Nat) (hv he : Bool) (t : ByteArray) (w : World) (hkw : 0 ≤ kw ∧ kw ≤ 255) (hn8 : 0 ≤ n8 ∧ n8 ≤ 255) (hfk : 0 ≤ fk ∧ fk ≤ 255) (hsel : 0 ≤ sel ∧ sel ≤ 255) (hn : n8 % 5 = (n : Int)) (hw : wantB (kw % 8) hv he n (fk % 8) (txtOf sel t) = false) :
    Calls Yba.prog 4 #[.agg #[.int .u8 kw, .bool hv, .bool he, .int .u8 n8, .int .u8 fk, .int .u8 sel, .string t]] w fun e w' => e = .returned (.bool true) ∧ Below w.heap.size w w' := by
  have HN : Hid (n8 % 5 = (n : Int)) := hn
  have hg27 := noGuard27
  have hg31 := noGuard31
  clear hn
  go_enter Yba.func4, Yba.ntmps4
  go_wp2_with fail
  refine (build5 kw n8 fk sel n hv he t _ hkw hn8 hfk hsel HN.out).mono ?_
  rintro e w1 ⟨v, rfl, hb, hm⟩
  have hB1 : Below w.heap.size w w1 := ((Below.refl _ w).alloc (Nat.le_refl _) _).trans (hb.mono (by simp))
  have hsz1 : w.heap.size < w1.heap.size := by have := hb.size; simp at this; omega
  simp only [stVal, hw, World.size_alloc] at hm ⊢
  clear hb
  go_wp2_with fail
  have hbody := body_three w1 (kw % 8) v
  have hmem : ∀ w', Below (w1.heap.size + 1) (((w1.alloc (bodyObj (kw % 8) v)).alloc (bodyObj (kw % 8) v)).alloc (blkObj (w1.heap.size + 1))) w' → StMem w' (w.heap.size + 1 + 1 + 1 + 1) n hv he (fk % 8) (txtOf sel t) v := fun w' h =>
    hm.kept fun b _ hb => (h.block b (by omega)).trans (old_three w1 _ _ _ b hb)
  have hB3 : Below w.heap.size w (((w1.alloc (bodyObj (kw % 8) v)).alloc (bodyObj (kw % 8) v)).alloc (blkObj (w1.heap.size + 1))) := ((hB1.alloc (by omega) _).alloc (by simp; omega) _).alloc (by simp; omega) _
  have hst0 : (((w1.alloc (bodyObj (kw % 8) v)).alloc (bodyObj (kw % 8) v)).alloc (blkObj (w1.heap.size + 1))).heap[w1.heap.size]? = some (bodyObj (kw % 8) v) := (Below.heap_alloc _ _ _ (by simp; omega)).trans (heap_alloc2_old _ _ _)
  refine (readAs7_no { data := #[107] } (txtOf sel t) (kw % 8) (fk % 8) v (w1.heap.size + 1 + 1) (w1.heap.size + 1) (w.heap.size + 1 + 1 + 1 + 1) n hv he _ hbody (by omega) hmem hw).mono ?_
  rintro e w4 ⟨rfl, hb4, hbd4⟩
  have hB4 : Below w.heap.size w w4 := hB3.trans (hb4.mono (by omega))
  have HST : Hid (∀ o, (w4.alloc o).heap[w1.heap.size]? = some (.cells #[.string { data := #[107] }, .pointer none, .int .i32 0, .int .u8 (kw % 8), .pointer v, .pointer none] 31 (0, 0))) := fun o => (Below.heap_alloc _ _ _ (by have := hb4.size; simp at this; omega)).trans ((hb4.block _ (by omega)).trans hst0)
  have b1 := hbd4.at1
  have b2 := hbd4.at2
  obtain ⟨q0, q1, q2, q3, q4, q5⟩ := hbd4.st
  have heq := eql31 { data := #[107] } (kw % 8) v
  have hsz4 := hB4.size
  clear hmem hB3 hst0 hbody hm hbd4 hb4 hw HN
  go_wp2_with (first | (with_reducible show wpList _ _ _ (Oper.mk _ (Op.load 31 (Operand.tmp 3)) _ _ _ _ :: _) _ _; go_must (refine wpList_load_row rfl 31 (.tmp 3) rfl w1.heap.size rfl 31 #[.string { data := #[107] }, .pointer none, .int .i32 0, .int .u8 (kw % 8), .pointer v, .pointer none] (0, 0) _ (HST.out _) Yba.underlying31 rfl (info31c _ _ _ _ _ _) ?_)))
  go_ret
  exact ⟨rfl, hB4.alloc hsz4 _⟩

set_option maxHeartbeats 800000 in
theorem readLaw4_yes (kw n8 fk sel : Int) (n : Nat) (hv he : Bool) (t : ByteArray) (w : World) (hkw : 0 ≤ kw ∧ kw ≤ 255) (hn8 : 0 ≤ n8 ∧ n8 ≤ 255) (hfk : 0 ≤ fk ∧ fk ≤ 255) (hsel : 0 ≤ sel ∧ sel ≤ 255) (hn : n8 % 5 = (n : Int)) (hw : wantB (kw % 8) hv he n (fk % 8) (txtOf sel t) = true) :
    Calls Yba.prog 4 #[.agg #[.int .u8 kw, .bool hv, .bool he, .int .u8 n8, .int .u8 fk, .int .u8 sel, .string t]] w fun e w' => e = .returned (.bool true) ∧ Below w.heap.size w w' := by
  have HN : Hid (n8 % 5 = (n : Int)) := hn
  have hg27 := noGuard27
  have hg31 := noGuard31
  clear hn
  go_enter Yba.func4, Yba.ntmps4
  go_wp2_with fail
  refine (build5 kw n8 fk sel n hv he t _ hkw hn8 hfk hsel HN.out).mono ?_
  rintro e w1 ⟨v, rfl, hb, hm⟩
  have hB1 : Below w.heap.size w w1 := ((Below.refl _ w).alloc (Nat.le_refl _) _).trans (hb.mono (by simp))
  have hsz1 : w.heap.size < w1.heap.size := by have := hb.size; simp at this; omega
  simp only [stVal, hw, World.size_alloc] at hm ⊢
  clear hb
  go_wp2_with fail
  have hbody := body_three w1 (kw % 8) v
  have hmem : ∀ w', Below (w1.heap.size + 1) (((w1.alloc (bodyObj (kw % 8) v)).alloc (bodyObj (kw % 8) v)).alloc (blkObj (w1.heap.size + 1))) w' → StMem w' (w.heap.size + 1 + 1 + 1 + 1) n hv he (fk % 8) (txtOf sel t) v := fun w' h =>
    hm.kept fun b _ hb => (h.block b (by omega)).trans (old_three w1 _ _ _ b hb)
  have hB3 : Below w.heap.size w (((w1.alloc (bodyObj (kw % 8) v)).alloc (bodyObj (kw % 8) v)).alloc (blkObj (w1.heap.size + 1))) := ((hB1.alloc (by omega) _).alloc (by simp; omega) _).alloc (by simp; omega) _
  have hst0 : (((w1.alloc (bodyObj (kw % 8) v)).alloc (bodyObj (kw % 8) v)).alloc (blkObj (w1.heap.size + 1))).heap[w1.heap.size]? = some (bodyObj (kw % 8) v) := (Below.heap_alloc _ _ _ (by simp; omega)).trans (heap_alloc2_old _ _ _)
  obtain ⟨hk, hv1, he1, hn2, hf1, ht1⟩ := want_iff hw
  subst hv1 he1 hn2
  obtain ⟨vb, eb, _, _, rfl, hv2, he2⟩ := hm.full rfl rfl
  have hmem2 : ∀ w', Below (w1.heap.size + 1) (((w1.alloc (bodyObj (kw % 8) (some ⟨vb, 0, none⟩))).alloc (bodyObj (kw % 8) (some ⟨vb, 0, none⟩))).alloc (blkObj (w1.heap.size + 1))) w' →
      w'.rangeAt (w.heap.size + 1 + 1 + 1 + 1) 0 (tokL (txtOf sel t) (fk % 8)) ∧ w'.heap[vb]? = some (.cells (valCells (some ⟨eb, 0, none⟩)) 47 (0, 0)) ∧ w'.cell? ⟨eb, 1, none⟩ = some (.slice (some ⟨w.heap.size + 1 + 1 + 1 + 1, 0, none⟩) 2 2) := fun w' h => by
    have ho : ∀ b, b < w1.heap.size → w'.heap[b]? = w1.heap[b]? := fun b hb => (h.block b (by omega)).trans (old_three w1 _ _ _ b hb)
    refine ⟨(hmem w' h).first (by omega), (ho vb (Array.getElem?_eq_some_iff.1 hv2).1).trans hv2, (World.cell?_of_block (w := w1) (a := ⟨eb, 1, none⟩) (ho eb (World.block_lt_of_cell? w1 _ he2))).trans he2⟩
  refine (readAs7_yes { data := #[107] } (txtOf sel t) (kw % 8) (fk % 8) (w1.heap.size + 1 + 1) (w1.heap.size + 1) (w.heap.size + 1 + 1 + 1 + 1) vb eb _ hbody (by omega) hk hf1 ht1 hmem2).mono ?_
  rintro e w4 ⟨rfl, hb4, hbd4⟩
  have hB4 : Below w.heap.size w w4 := hB3.trans (hb4.mono (by omega))
  have b1 := hbd4.at1
  have b2 := hbd4.at2
  obtain ⟨q0, q1, q2, q3, q4, q5⟩ := hbd4.st
  have hr := (hmem2 _ hb4).1
  have hlt : w.heap.size + 1 + 1 + 1 + 1 < w4.heap.size := World.block_lt_of_cell? w4 ⟨_, 0 + 0, none⟩ (hr 0 _ rfl)
  have hra : ∀ o j x, (tokL (txtOf sel t) (fk % 8))[j]? = some x → (w4.alloc o).cell? ⟨w.heap.size + 1 + 1 + 1 + 1, 0 + j, none⟩ = some x := fun o j x hj => (((Below.refl _ w4).alloc (Nat.le_refl _) o).cell (p := ⟨w.heap.size + 1 + 1 + 1 + 1, 0 + j, none⟩) hlt).trans (hr j x hj)
  have c0 : ∀ o, (w4.alloc o).cell? ⟨w.heap.size + 1 + 1 + 1 + 1, 0, none⟩ = some (.string (txtOf sel t)) := fun o => hra o 0 _ rfl
  have c1 : ∀ o, (w4.alloc o).cell? ⟨w.heap.size + 1 + 1 + 1 + 1, 1, none⟩ = some (.pointer none) := fun o => hra o 1 _ rfl
  have c2 : ∀ o, (w4.alloc o).cell? ⟨w.heap.size + 1 + 1 + 1 + 1, 2, none⟩ = some (.int .i32 0) := fun o => hra o 2 _ rfl
  have c3 : ∀ o, (w4.alloc o).cell? ⟨w.heap.size + 1 + 1 + 1 + 1, 3, none⟩ = some (.int .u8 (fk % 8)) := fun o => hra o 3 _ rfl
  have heq := eql27 (txtOf sel t) (fk % 8)
  have heq2 := eql28 ⟨w.heap.size + 1 + 1 + 1 + 1, 7, none⟩
  have hsz4 := hB4.size
  clear hmem hmem2 hB3 hst0 hbody hm hbd4 hb4 hw HN hr hra hv2 he2 hf1 ht1 hk
  go_wp2
  go_quiet (fail)
  go_wp2
  go_ret
  exact ⟨rfl, below_drewN (hB4.alloc hsz4 _) _⟩

theorem readLaw4 (kw n8 fk sel : Int) (hv he : Bool) (t : ByteArray) (w : World) (hkw : 0 ≤ kw ∧ kw ≤ 255) (hn8 : 0 ≤ n8 ∧ n8 ≤ 255) (hfk : 0 ≤ fk ∧ fk ≤ 255) (hsel : 0 ≤ sel ∧ sel ≤ 255) :
    Calls Yba.prog 4 #[.agg #[.int .u8 kw, .bool hv, .bool he, .int .u8 n8, .int .u8 fk, .int .u8 sel, .string t]] w fun e w' => e = .returned (.bool true) ∧ Below w.heap.size w w' := by
  obtain ⟨n, hn⟩ : ∃ n : Nat, n8 % 5 = (n : Int) := ⟨(n8 % 5).toNat, by omega⟩
  cases hw : wantB (kw % 8) hv he n (fk % 8) (txtOf sel t) with
  | false => exact readLaw4_no kw n8 fk sel n hv he t w hkw hn8 hfk hsel hn hw
  | true => exact readLaw4_yes kw n8 fk sel n hv he t w hkw hn8 hfk hsel hn hw
end Go.Proofs.Ybulkcepw
