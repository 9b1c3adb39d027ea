/-
  Seat b4039a: (*block).readAs(false) by its contract.
-/
import Derived.Test.YbulkcepwModel
import Derived.RegionTactic
namespace Go.Proofs.Ybulkcepw
open Go.RowKit

def stCells (s : ByteArray) (k : Int) (v : Option Addr) : Array Value := #[.string s, .pointer none, .int .i32 0, .int .u8 k, .pointer v, .pointer none]
/-- The block, and its body of one statement. -/
structure BodyIs (w : World) (bb sb : Nat) (s : ByteArray) (k : Int) (v : Option Addr) : Prop where
  blk : w.heap[bb]? = some (.cells #[.slice none 0 0, .slice (some ⟨sb, 0, none⟩) 1 1, .bool false, .int .u8 0, .nilIface] 41 (0, 0))
  body : w.heap[sb]? = some (.cells (stCells s k v) 31 (0, 0))

theorem BodyIs.at1 {w : World} {bb sb : Nat} {s : ByteArray} {k : Int} {v : Option Addr} (h : BodyIs w bb sb s k v) : w.cell? ⟨bb, 1, none⟩ = some (.slice (some ⟨sb, 0, none⟩) 1 1) := cell_of_row w bb 1 _ 41 (0, 0) h.blk
theorem BodyIs.at2 {w : World} {bb sb : Nat} {s : ByteArray} {k : Int} {v : Option Addr} (h : BodyIs w bb sb s k v) : w.cell? ⟨bb, 2, none⟩ = some (.bool false) := cell_of_row w bb 2 _ 41 (0, 0) h.blk
theorem BodyIs.st {w : World} {bb sb : Nat} {s : ByteArray} {k : Int} {v : Option Addr} (h : BodyIs w bb sb s k v) : w.cell? ⟨sb, 0, none⟩ = some (.string s) ∧ w.cell? ⟨sb, 1, none⟩ = some (.pointer none) ∧ w.cell? ⟨sb, 2, none⟩ = some (.int .i32 0) ∧ w.cell? ⟨sb, 3, none⟩ = some (.int .u8 k) ∧ w.cell? ⟨sb, 4, none⟩ = some (.pointer v) ∧ w.cell? ⟨sb, 5, none⟩ = some (.pointer none) := by
  have hc := fun j => cell_of_row w sb j _ 31 (0, 0) h.body
  exact ⟨hc 0, hc 1, hc 2, hc 3, hc 4, hc 5⟩
theorem BodyIs.set2 {w : World} {bb sb : Nat} {s : ByteArray} {k : Int} {v : Option Addr} (h : BodyIs w bb sb s k v) (hne : bb ≠ sb) : BodyIs (w.setCell ⟨bb, 2, none⟩ (.bool false)) bb sb s k v :=
  ⟨heap_setCell_same w bb 2 _ 41 _ h.blk, (heap_setCell_other w ⟨bb, 2, none⟩ sb _ (fun e => hne e.symm)).trans h.body⟩
theorem BodyIs.free2 {w : World} {bb sb : Nat} {s : ByteArray} {k : Int} {v : Option Addr} (h : BodyIs w bb sb s k v) : ∀ j, w.frozen? ⟨bb, j, none⟩ = false ∧ w.frozen? ⟨sb, j, none⟩ = false := fun j =>
  ⟨frozen_of_row w bb j _ 41 h.blk, frozen_of_row w sb j _ 31 h.body⟩
theorem BodyIs.below {w w' : World} {bb sb B : Nat} {s : ByteArray} {k : Int} {v : Option Addr} (h : BodyIs w bb sb s k v) (hb : Below B w w') (h1 : bb < B) (h2 : sb < B) : BodyIs w' bb sb s k v :=
  ⟨(hb.block bb h1).trans h.blk, (hb.block sb h2).trans h.body⟩

/-- The world with six cells stored at the head of a block. -/
def six (w : World) (g : Nat) (a b c d e f : Value) : World := (((((w.setCell ⟨g, 0, none⟩ a).setCell ⟨g, 1, none⟩ b).setCell ⟨g, 2, none⟩ c).setCell ⟨g, 3, none⟩ d).setCell ⟨g, 4, none⟩ e).setCell ⟨g, 5, none⟩ f
theorem six_same {w : World} {g : Nat} {s : ByteArray} {k : Int} {v : Option Addr} (h : w.heap[g]? = some (.cells (stCells s k v) 31 (0, 0))) (a b c d e f : Value) : (six w g a b c d e f).heap[g]? = some (.cells #[a, b, c, d, e, f] 31 (0, 0)) :=
  heap_setCell_same _ g 5 _ 31 f (heap_setCell_same _ g 4 _ 31 e (heap_setCell_same _ g 3 _ 31 d (heap_setCell_same _ g 2 _ 31 c (heap_setCell_same _ g 1 _ 31 b (heap_setCell_same _ g 0 _ 31 a h)))))
theorem six_other {w : World} {g k : Nat} (hne : k ≠ g) (a b c d e f : Value) : (six w g a b c d e f).heap[k]? = w.heap[k]? := by
  unfold six
  rw [heap_setCell_other _ _ k _ hne, heap_setCell_other _ _ k _ hne, heap_setCell_other _ _ k _ hne, heap_setCell_other _ _ k _ hne, heap_setCell_other _ _ k _ hne, heap_setCell_other _ _ k _ hne]
theorem below_six {B g : Nat} {w0 w : World} (h : Below B w0 w) (hg : B ≤ g) (a b c d e f : Value) : Below B w0 (six w g a b c d e f).drew :=
  ((((((h.setCell (p := ⟨g, 0, none⟩) hg a).setCell (p := ⟨g, 1, none⟩) hg b).setCell (p := ⟨g, 2, none⟩) hg c).setCell (p := ⟨g, 3, none⟩) hg d).setCell (p := ⟨g, 4, none⟩) hg e).setCell (p := ⟨g, 5, none⟩) hg f).drew
theorem BodyIs.put {w : World} {bb sb : Nat} {s : ByteArray} {k : Int} {v : Option Addr} (h : BodyIs w bb sb s k v) (hne : bb ≠ sb) (t : ByteArray) (fk : Int) (v' : Option Addr) :
    BodyIs (six w sb (.string t) (.pointer none) (.int .i32 0) (.int .u8 fk) (.pointer v') (.pointer none)).drew bb sb t fk v' := by
  have e1 := (six_other (w := w) hne (.string t) (.pointer none) (.int .i32 0) (.int .u8 fk) (.pointer v') (.pointer none)).trans h.blk
  have e2 := six_same h.body (.string t) (.pointer none) (.int .i32 0) (.int .u8 fk) (.pointer v') (.pointer none)
  generalize six w sb (.string t) (.pointer none) (.int .i32 0) (.int .u8 fk) (.pointer v') (.pointer none) = w' at e1 e2
  exact ⟨e1, e2⟩

set_option maxHeartbeats 800000 in
theorem readAs7_no (s t : ByteArray) (k fk : Int) (v : Option Addr) (bb sb ib n : Nat) (hv he : Bool) (w : World) (h : BodyIs w bb sb s k v) (hsb : sb < bb) (hm : ∀ w', Below sb w w' → StMem w' ib n hv he fk t v) (hw : wantB k hv he n fk t = false) :
    Calls Yba.prog 7 #[.pointer (some ⟨bb, 0, none⟩), .bool false] w fun e w' => e = .returned (.tuple #[]) ∧ Below sb w w' ∧ BodyIs w' bb sb s k v := by
  have H : Hid (BodyIs w bb sb s k v) := h
  have HM := (show Hid (∀ w', Below sb w w' → StMem w' ib n hv he fk t v) from hm)
  have a1 := h.at1
  have a2 := h.at2
  have f2 := (h.free2 2).1
  have hlb : bb < w.heap.size := (Array.getElem?_eq_some_iff.1 h.blk).1
  clear h hm
  go_enter Yba.func7, Yba.ntmps7
  go_wp2
  go_loopw [17] (fun vi wr => ∃ i : Nat, i ≤ 1 ∧ vi = .int .i64 i ∧ Hid (BodyIs wr bb sb s k v) ∧ Hid (Below sb w wr) ∧ Hid (w.heap.size ≤ wr.heap.size)) (fun vi _ => 1 - (intOf vi).toNat)
  case atStart => exact ⟨0, by omega, rfl, H.out.set2 (by omega), (Below.refl _ w).setCell (by simp; omega) _, by show (_ ≤ _); simp [World.setCell]⟩
  case round =>
    obtain ⟨i, hi, rfl, hb, hbel, hsz⟩ := hrel
    have b1 := hb.out.at1
    obtain ⟨q0, q1, q2, q3, q4, q5⟩ := hb.out.st
    by_cases hlt : i < 1
    · have h0 : i = 0 := by omega
      subst h0
      go_wp2_with (first | (go_at_call 6; go_must (refine (ke6 s k v _ ib n hv he fk t (HM.out _ hbel.out)).mono ?_); rintro e w2 ⟨rfl, hb2⟩))
      have hlb2 : bb < w2.heap.size := by have := hsz.out; have := hb2.size; omega
      go_roundw
      case rel => exact ⟨1, by omega, rfl, hb.out.below hb2 (by have := hsz.out; omega) (by have := hsz.out; omega), hbel.out.trans (hb2.mono (by have := hsz.out; omega)), by have h1 := hsz.out; have h2 := hb2.size; show (_ ≤ _); omega⟩
      case measure => simp [intOf]
    · go_wp2
      go_end0
      exact ⟨rfl, hbel.out, hb.out⟩

set_option maxHeartbeats 1600000 in
theorem readAs7_yes (s t : ByteArray) (k fk : Int) (bb sb ib vb eb : Nat) (w : World) (h : BodyIs w bb sb s k (some ⟨vb, 0, none⟩)) (hsb : sb < bb) (hk : k ≠ 1) (hfk : fk = 1) (ht : (t.toList == [107, 101, 121]) = true)
    (hm : ∀ w', Below sb w w' → w'.rangeAt ib 0 (tokL t fk) ∧ w'.heap[vb]? = some (.cells (valCells (some ⟨eb, 0, none⟩)) 47 (0, 0)) ∧ w'.cell? ⟨eb, 1, none⟩ = some (.slice (some ⟨ib, 0, none⟩) 2 2)) :
    Calls Yba.prog 7 #[.pointer (some ⟨bb, 0, none⟩), .bool false] w fun e w' => e = .returned (.tuple #[]) ∧ Below sb w w' ∧ BodyIs w' bb sb t fk (some ⟨ib, 7, none⟩) := by
  have H : Hid (BodyIs w bb sb s k (some ⟨vb, 0, none⟩)) := h
  have HM := (show Hid (∀ w', Below sb w w' → w'.rangeAt ib 0 (tokL t fk) ∧ w'.heap[vb]? = some (.cells (valCells (some ⟨eb, 0, none⟩)) 47 (0, 0)) ∧ w'.cell? ⟨eb, 1, none⟩ = some (.slice (some ⟨ib, 0, none⟩) 2 2)) from hm)
  have a1 := h.at1
  have a2 := h.at2
  have f2 := (h.free2 2).1
  have hlb : bb < w.heap.size := (Array.getElem?_eq_some_iff.1 h.blk).1
  have HT : Hid ((t.toList == [107, 101, 121]) = true) := ht
  have HF : Hid (fk = 1) := hfk
  have HK : Hid (k ≠ 1) := hk
  clear h hm ht hfk hk
  go_enter Yba.func7, Yba.ntmps7
  go_wp2
  go_loopw [17] (fun vi wr => ∃ i : Nat, i ≤ 1 ∧ vi = .int .i64 i ∧ Hid (i = 0 → BodyIs wr bb sb s k (some ⟨vb, 0, none⟩)) ∧ Hid (i = 1 → BodyIs wr bb sb t fk (some ⟨ib, 7, none⟩)) ∧ Hid (Below sb w wr) ∧ Hid (w.heap.size ≤ wr.heap.size)) (fun vi _ => 1 - (intOf vi).toNat)
  case atStart => exact ⟨0, by omega, rfl, fun _ => H.out.set2 (by omega), fun h => absurd h (by omega), (Below.refl _ w).setCell (by simp; omega) _, by show (_ ≤ _); simp [World.setCell]⟩
  case round =>
    obtain ⟨i, hi, rfl, hb0, hb1, hbel, hsz⟩ := hrel
    by_cases hlt : i < 1
    · have h0 : i = 0 := by omega
      subst h0
      have hb := hb0.out rfl
      have b1 := hb.at1
      obtain ⟨q0, q1, q2, q3, q4, q5⟩ := hb.st
      obtain ⟨m1, m2, m3⟩ := HM.out _ hbel.out
      have HBODY := (show Hid (BodyIs wr bb sb s k (some ⟨vb, 0, none⟩)) from hb)
      clear hb m1 m2 m3
      go_wp2_with fail
      obtain ⟨m1, m2, m3⟩ := HM.out _ hbel.out
      have hke := ke6_two s t k fk vb eb ib wr HK.out m2 m3 m1
      rw [HT.out, HF.out] at hke
      refine hke.mono ?_
      clear hke m1 m2 m3 b1 q0 q1 q2 q3 q4 q5
      rintro e w2 ⟨rfl, hb2⟩
      have hB2 : Below sb w w2 := hbel.out.trans (hb2.mono (by have := hsz.out; omega))
      have hbd2 := HBODY.out.below hb2 (by have := hsz.out; omega) (by have := hsz.out; omega)
      obtain ⟨q0, q1, q2, q3, q4, q5⟩ := hbd2.st
      have HB2 := (show Hid (BodyIs w2 bb sb s k (some ⟨vb, 0, none⟩)) from hbd2)
      have hsz2 : w.heap.size ≤ w2.heap.size := by have := hsz.out; have := hb2.size; omega
      clear hbd2 hb2 HBODY
      go_wp2_with (first
        | (with_reducible show wpList _ _ _ (Oper.mk _ (Op.load 47 (Operand.tmp 39)) _ _ _ _ :: _) _ _; go_must (refine wpList_load_row rfl 47 (.tmp 39) rfl vb rfl 47 (valCells (some ⟨eb, 0, none⟩)) (0, 0) _ (HM.out _ hB2).2.1 Yba.underlying47 rfl (info47v _) ?_))
        | fail)
      refine (items9_some _ _ _ _ _ _ eb _ (some ⟨ib, 0, none⟩) 2 2 _ rfl (HM.out _ hB2).2.2).mono ?_
      rintro e w3 ⟨rfl, hb3⟩
      have hB3 : Below sb w w3 := hB2.trans (hb3.mono (by omega))
      have hbd3 := HB2.out.below hb3 (by omega) (by omega)
      clear q0 q1 q2 q3 q4 q5
      obtain ⟨q0, q1, q2, q3, q4, q5⟩ := hbd3.st
      have hfz := fun j => (hbd3.free2 j).2
      have hr := (HM.out _ hB3).1
      have c0 : w3.cell? ⟨ib, 0, none⟩ = some (.string t) := hr 0 _ rfl
      have c1 : w3.cell? ⟨ib, 1, none⟩ = some (.pointer none) := hr 1 _ rfl
      have c2 : w3.cell? ⟨ib, 2, none⟩ = some (.int .i32 0) := hr 2 _ rfl
      have c3 : w3.cell? ⟨ib, 3, none⟩ = some (.int .u8 fk) := hr 3 _ rfl
      have HB3 := (show Hid (BodyIs w3 bb sb s k (some ⟨vb, 0, none⟩)) from hbd3)
      have hsz3 : w.heap.size ≤ w3.heap.size := by have := hb3.size; omega
      clear hr hbd3 hb3 hB2 HB2
      go_wp2
      go_region
      all_goals (try go_wp2)
      go_roundw
      case rel => exact ⟨1, by omega, rfl, fun h => absurd h (by omega), fun _ => HB3.out.put (by omega) t fk (some ⟨ib, 7, none⟩), below_six hB3 (Nat.le_refl _) _ _ _ _ _ _, by show (_ ≤ _); simpa [World.setCell] using hsz3⟩
      case measure => simp [intOf]
    · have h1 : i = 1 := by omega
      subst h1
      have hb := hb1.out rfl
      have b1 := hb.at1
      have HBODY := (show Hid (BodyIs wr bb sb t fk (some ⟨ib, 7, none⟩)) from hb)
      clear hb
      go_wp2
      go_end0
      exact ⟨rfl, hbel.out, HBODY.out⟩
end Go.Proofs.Ybulkcepw
