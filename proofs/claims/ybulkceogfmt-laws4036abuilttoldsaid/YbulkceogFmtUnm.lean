/-
  Seat b4036aF: UnmarshalText by its contract.
-/
import Derived.Test.YbulkceogFmtParse
import Derived.Deep.WholeRow
import Derived.Laws.BytesArg
namespace Go.Proofs.YbulkceogFmt
open Go.RowKit Go.Extern.Stop Go.Stop Go.Extern

/-- The text is an ID's. -/
def okB (s : ByteArray) : Bool := decide (s.size = 36) && accB (byteOf s)

/-- ParseID at every text, its two results under names. -/
theorem parse18_any (F : Interp) (s : ByteArray) (w : World) (hF : F.answers w.tape) :
    Calls Ybaf.prog 18 #[.string s] w fun e w' => ∃ l v, e = .returned (.tuple #[.agg (av l), v]) ∧ l.length = 16 ∧ Below w.heap.size w w' ∧
      ((okB s = true ∧ l = idOf (byteOf s) ∧ v = .nilIface) ∨ (okB s = false ∧ l = zeros ∧ ∃ u x, v = .iface u x)) := by
  by_cases hs : s.size = 36
  · refine (parse18 F s w hF hs).mono ?_
    rintro e w' ⟨hb, ⟨h1, h2⟩ | ⟨h1, u, x, h2⟩⟩
    · exact ⟨_, _, h2, idOf_length _, hb, .inl ⟨by simp [okB, hs, h1], rfl, rfl⟩⟩
    · exact ⟨_, _, h2, zeros_len, hb, .inr ⟨by simp [okB, h1], rfl, _, _, rfl⟩⟩
  · refine (parse18_len F s w hF hs).mono ?_
    rintro e w' ⟨hb, u, x, h2⟩
    exact ⟨_, _, h2, zeros_len, hb, .inr ⟨by simp [okB, hs], rfl, _, _, rfl⟩⟩

theorem setRow_old {w : World} {g k : Nat} (cs : Array Value) (h : g ≠ k) : (w.setRow g cs).heap[k]? = w.heap[k]? := by
  simp [World.setRow, Array.getElem?_modify, h]

theorem grown_new {w w1 : World} (hb : Below w.heap.size w w1) (o : Obj) (r : Option Nat) : w.grownBy (w1.alloc o) r :=
  have h := hb.alloc hb.size o
  ⟨h.os, h.tape, h.output, h.size, fun k hk _ => h.block k hk⟩
theorem grown_row {w w1 : World} (hb : Below w.heap.size w w1) (o : Obj) (p : Nat) (cs : Array Value) : w.grownBy ((w1.alloc o).setRow p cs) (some p) :=
  have h := grown_new hb o (some p)
  ⟨h.os, h.tape, h.output, by simpa using h.size, fun k hk hne => (setRow_old cs (fun e => hne (by rw [e]))).trans (h.block k hk hne)⟩

set_option maxHeartbeats 800000 in
theorem unm10 (F : Interp) (s : ByteArray) (p : Nat) (sv : Value) (bf : List Int) (w : World) (hF : F.answers w.tape)
    (hcv : (convert 24 9 sv).run Ybaf.prog w = .ok (.string s) w) (hp : w.heap[p]? = some (.cells (av bf) 26 (0, 0))) (hbf : bf.length = 16) :
    Calls Ybaf.prog 10 #[.pointer (some ⟨p, 0, none⟩), sv] w fun e w' => w.grownBy w' (some p) ∧
      ((okB s = true ∧ e = .returned .nilIface ∧ w'.heap[p]? = some (.cells (av (idOf (byteOf s))) 26 (0, 0))) ∨
       (okB s = false ∧ (∃ u x, e = .returned (.iface u x)) ∧ w'.heap[p]? = some (.cells (av bf) 26 (0, 0)))) := by
  have hpl : p < w.heap.size := (Array.getElem?_eq_some_iff.1 hp).1
  have HP : Hid (w.heap[p]? = some (.cells (av bf) 26 (0, 0))) := hp
  have HBF : Hid (bf.length = 16) := hbf
  clear hp hbf
  go_enter Ybaf.func10, Ybaf.ntmps10
  go_wp2_with fail
  refine (parse18_any F s _ (by exact hF)).mono ?_
  rintro e w1 ⟨l, v, rfl, hl, hb, hor⟩
  have HL : Hid (l.length = 16) := hl
  clear hl hcv
  have hp1 : ∀ o, (w1.alloc o).heap[p]? = some (.cells (av bf) 26 (0, 0)) := fun o => (Below.heap_alloc w1 o p (by have := hb.size; omega)).trans ((hb.block p hpl).trans HP.out)
  have HP1 := (show Hid _ from hp1)
  clear hp1
  rcases hor with ⟨hok, rfl, rfl⟩ | ⟨hok, rfl, u, x, rfl⟩
  · go_wp2_with (first
      | (with_reducible show wpList _ _ _ (Oper.mk _ (Op.store 26 (Operand.tmp 5) (Operand.tmp 11)) _ _ _ _ :: _) _ _; go_must (refine wpList_store_row rfl 26 (.tmp 5) (.tmp 11) rfl w1.heap.size (av (idOf (byteOf s))) rfl rfl 26 _ (heap_alloc_new _ _) (info26_av HL.out) (size_av (m := 16) rfl HL.out) (av_all _) ?_); rw [World.setRow_alloc_new])
      | (with_reducible show wpList _ _ _ (Oper.mk _ (Op.load 26 (Operand.tmp 5)) _ _ _ _ :: _) _ _; go_must (refine wpList_load_row rfl 26 (.tmp 5) rfl w1.heap.size rfl 26 (av (idOf (byteOf s))) (0, 0) _ (heap_alloc_new _ _) Ybaf.underlying26 rfl (info26_av HL.out) ?_))
      | (with_reducible show wpList _ _ _ (Oper.mk _ (Op.store 26 (Operand.tmp 18) (Operand.tmp 17)) _ _ _ _ :: _) _ _; go_must (refine wpList_store_row rfl 26 (.tmp 18) (.tmp 17) rfl p (av (idOf (byteOf s))) rfl rfl 26 _ (HP1.out _) (info26_av HL.out) (size_av (m := 16) ((av_size _).trans HBF.out) HL.out) (av_all _) ?_)))
    go_ret
    exact ⟨grown_row hb _ p _, .inl ⟨hok, rfl, setRow_heap _ _ _ _ _ _ (HP1.out _)⟩⟩
  · go_wp2_with (first
      | (with_reducible show wpList _ _ _ (Oper.mk _ (Op.store 26 (Operand.tmp 5) (Operand.tmp 11)) _ _ _ _ :: _) _ _; go_must (refine wpList_store_row rfl 26 (.tmp 5) (.tmp 11) rfl w1.heap.size (av zeros) rfl rfl 26 _ (heap_alloc_new _ _) (info26_av HL.out) (size_av (m := 16) rfl HL.out) (av_all _) ?_); rw [World.setRow_alloc_new]))
    go_ret
    exact ⟨grown_new hb _ _, .inr ⟨hok, ⟨_, _, rfl⟩, HP1.out _⟩⟩
end Go.Proofs.YbulkceogFmt
