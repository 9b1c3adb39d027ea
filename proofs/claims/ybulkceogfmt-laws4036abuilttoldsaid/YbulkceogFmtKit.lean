/-
  Seat b4036aF: small laws on rows of bytes, of no function of the program.
-/
import Derived.Test.YbulkceogFmtSmall
import Derived.Deep.OwnRows
import Derived.Laws.Tables
import Derived.Laws.Rows
namespace Go.Proofs.YbulkceogFmt
open Go.RowKit

section
variable {P : Program}
theorem results_cell_tmp {fn : Func} {p q : Tmp} {ty : TypeId} (h : fn.results = #[.cell p ty, .tmp q]) (tmps : Array Value) (w : World) (g : Nat) (t : TypeId) (cs : Array Value) (fr : Nat × Nat) (d : TypeDesc)
    (hp : tmps.getD p undef = .pointer (some ⟨g, 0, none⟩)) (hg : w.heap[g]? = some (.cells cs t fr))
    (hu : P.underlying ty = some d) (hd : (match d with | .struct _ | .array _ _ => true | _ => false) = true) (hi : (P.info? ty).map (·.size) = some cs.size) :
    (results fn tmps).run P w = .ok (.tuple #[.agg cs, tmps.getD q undef]) w := by
  have hp' : tmps[p]?.getD undef = .pointer (some ⟨g, 0, none⟩) := by simpa using hp
  simp [results, h, hp', asAddr, run_loadVar_row w g t ty cs fr d hg hu hd hi]

/-- An operation that runs, guarded or not. -/
theorem wpList_wanted {ops : Array Oper} {Q : Exit → Act → World → Prop} {a : Act} {w : World} {rest : List Oper} {o : Oper}
    (hw : Region.wanted o (yielded ops a.tmps) = true) (h : ∀ K : Act → World → Prop, (∀ a w, wpList P ops Q rest a w → K a w) → o.wp P a w K Q) : wpList P ops Q (o :: rest) a w := by
  rw [wpList, if_pos hw]
  exact .inl (h _ fun _ _ hk => hk)

theorem wpList_load_row_g {ops : Array Oper} {rest : List Oper} {o : Oper} {a : Act} {w : World} {Q : Exit → Act → World → Prop} (hw : Region.wanted o (yielded ops a.tmps) = true) (ty : TypeId) (x : Operand) (ho : o.op = .load ty x)
    (g : Nat) (hx : a.eval x = .pointer (some ⟨g, 0, none⟩)) (t : TypeId) (cs : Array Value) (fr : Nat × Nat) (d : TypeDesc) (hg : w.heap[g]? = some (.cells cs t fr))
    (hu : P.underlying ty = some d) (hd : (match d with | .struct _ | .array _ _ => true | _ => false) = true) (hi : (P.info? ty).map (·.size) = some cs.size)
    (h : wpList P ops Q rest (a.put o.dst (.agg cs)) w) : wpList P ops Q (o :: rest) a w :=
  wpList_wanted hw fun _ hK => wp_load_row ty x ho g hx t cs fr d hg hu hd hi (hK _ _ h)
end

/-- A row of bytes as one block. -/
theorem block_of_row {w : World} {b : Nat} {t : TypeId} {n : Nat} {g : Nat → Int} (h : w.rowIs b t n (fun j => .int .u8 (g j))) : w.heap[b]? = some (.cells (av ((List.range n).map g)) t (0, 0)) := by
  obtain ⟨c, hb, hn, hc⟩ := h
  rw [hb]
  congr 2
  apply Array.ext_getElem?
  intro i
  by_cases hi : i < n
  · rw [hc i hi, av_at _ _ (by simpa using hi)]
    simp [hi]
  · rw [Array.getElem?_eq_none (by omega), Array.getElem?_eq_none (by rw [av_size]; simp; omega)]
/-- A block of bytes as a row. -/
theorem row_of_block {w : World} {b : Nat} {t : TypeId} {l : List Int} (h : w.heap[b]? = some (.cells (av l) t (0, 0))) : w.rowIs b t l.length (fun j => .int .u8 (l.getD j 0)) :=
  ⟨av l, h, av_size l, fun i hi => av_at l i hi⟩
theorem av_all (l : List Int) : (av l).all (·.oneCell') = true := by
  rw [Array.all_eq_true_iff_forall_mem]
  intro v hv
  simp [av] at hv
  obtain ⟨a, _, rfl⟩ := hv
  rfl
theorem below_setRow' {B g : Nat} {w0 w : World} (hb : Below B w0 w) (hBg : B ≤ g) (cs : Array Value) : Below B w0 (w.setRow g cs) :=
  hb.trans ⟨rfl, rfl, rfl, by simp [World.setRow], fun k hk => by simp [World.setRow, Array.getElem?_modify, show g ≠ k by omega]⟩
theorem av_zeros : av zeros = #[Value.int .u8 0, .int .u8 0, .int .u8 0, .int .u8 0, .int .u8 0, .int .u8 0, .int .u8 0, .int .u8 0, .int .u8 0, .int .u8 0, .int .u8 0, .int .u8 0, .int .u8 0, .int .u8 0, .int .u8 0, .int .u8 0] := rfl
theorem zeros_at (j : Nat) : zeros.getD j 0 = 0 := by
  unfold zeros
  rw [List.getD_eq_getElem?_getD, List.getElem?_replicate]
  split <;> rfl
theorem row_zeros (w : World) (t : TypeId) : (w.alloc (.cells #[Value.int .u8 0, .int .u8 0, .int .u8 0, .int .u8 0, .int .u8 0, .int .u8 0, .int .u8 0, .int .u8 0, .int .u8 0, .int .u8 0, .int .u8 0, .int .u8 0, .int .u8 0, .int .u8 0, .int .u8 0, .int .u8 0] t)).rowIs w.heap.size t 16 (fun _ => .int .u8 0) := by
  refine ⟨_, heap_alloc_new _ _, rfl, fun i hi => ?_⟩
  rw [← av_zeros, av_at _ _ (by simpa [zeros] using hi), zeros_at]

set_option maxRecDepth 100000 in
theorem or_16 : ∀ a b : Fin 16, bits BinOp.or IntKind.u8 (((a.val : Nat) : Int) * 16) ((b.val : Nat) : Int) = ((a.val * 16 + b.val : Nat) : Int) := by decide
theorem or_hex (a b : Int) (ha : 0 ≤ a ∧ a ≤ 15) (hb : 0 ≤ b ∧ b ≤ 15) : bits BinOp.or IntKind.u8 (a * 16) b = a * 16 + b := by
  have h := or_16 ⟨a.toNat, by omega⟩ ⟨b.toNat, by omega⟩
  simp only at h
  rw [show ((a.toNat : Nat) : Int) = a by omega, show ((b.toNat : Nat) : Int) = b by omega] at h
  rw [h]; omega
theorem outN_half (T : Nat → Int) (k : Nat) (h : k % 2 = 1) : outN T k (k / 2) = hexN (T (pos (2 * (k / 2)))) * 16 := by
  unfold outN; rw [if_neg (by omega), if_pos (by omega)]
theorem out_or (T : Nat → Int) (i k : Nat) (h : k % 2 = 1) : bits BinOp.or IntKind.u8 (outN T k (k / 2)) (hexN (T i)) = outN T k (k / 2) + hexN (T i) := by
  rw [outN_half T k h]; exact or_hex _ _ (hexN_bd _) (hexN_bd _)

theorem Ybaf.info26 : (Ybaf.prog.info? 26).map (·.size) = some 16 := by kernel_rfl
theorem Ybaf.info22 : (Ybaf.prog.info? 22).map (·.size) = some 16 := by kernel_rfl
theorem info26_av {l : List Int} (h : l.length = 16) : (Ybaf.prog.info? 26).map (·.size) = some (av l).size := by rw [av_size, h]; exact Ybaf.info26
theorem info22_av {l : List Int} (h : l.length = 16) : (Ybaf.prog.info? 22).map (·.size) = some (av l).size := by rw [av_size, h]; exact Ybaf.info22
theorem size_av {l : List Int} {n m : Nat} (h : n = m) (g : l.length = m) : n = (av l).size := by rw [av_size, h, g]
theorem zeros_len : zeros.length = 16 := rfl
end Go.Proofs.YbulkceogFmt
