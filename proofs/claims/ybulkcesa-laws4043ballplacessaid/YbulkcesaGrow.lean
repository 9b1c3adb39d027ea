/-
  Seat b4043a: lines and the line in hand, built by append in new memory. No walk here.
-/
import Derived.Test.YbulkcesaLines
import Derived.Deep.AppendLies
namespace Go.Proofs.Ybulkcesa
open Go.RowKit

def bytesV (L : List Int) : List Value := L.map (Value.int .u8)
/-- A slice of n elements at block g. -/
def sl (g n c : Nat) : Value := .slice (some ⟨g, 0, none⟩) n c

/-- The lines so far: each owns its bytes. -/
structure HasL (B : Nat) (w : World) (gl lcap : Nat) (vs : List Value) (LP : List (List Int)) : Prop where
  lines : w.ownsRow B 36 1 (sl gl vs.length lcap) vs.length vs
  len : LP.length = vs.length
  each : ∀ i, i < vs.length → ∃ g c, vs[i]? = some (sl g (LP.getD i []).length c) ∧ w.ownsRow B 5 1 (sl g (LP.getD i []).length c) (LP.getD i []).length (bytesV (LP.getD i []))
  bd : ∀ L ∈ LP, ∀ x ∈ L, 0 ≤ x ∧ x ≤ 255
/-- The line in hand: no line so far lies in its block. -/
structure Cur (B : Nat) (w : World) (gc ccap : Nat) (vs : List Value) (cb : List Int) : Prop where
  own : w.ownsRow B 5 1 (sl gc cb.length ccap) cb.length (bytesV cb)
  ne : ∀ v ∈ vs, v.ownBlock ≠ some gc
  bd : ∀ x ∈ cb, 0 ≤ x ∧ x ≤ 255

theorem own_block {w : World} {B g n c e m : Nat} {xs : List Value} (h : w.ownsRow B e 1 (sl g n c) m xs) : ∃ cur, w.heap[g]? = some (.cells cur e (0, 0)) ∧ n ≤ c := by
  rcases h.2 with ⟨h', _⟩ | ⟨g', cap', cur, h', _, hg, hn, _⟩
  · cases h'
  · simp only [sl, Value.slice.injEq, Option.some.injEq, Addr.mk.injEq, and_true] at h'
    obtain ⟨rfl, rfl, rfl⟩ := h'
    exact ⟨cur, hg, hn⟩
theorem own_apart {w : World} {B B' g g' n n' c c' e e' m m' : Nat} {xs xs' : List Value} (h : w.ownsRow B e 1 (sl g n c) m xs) (h' : w.ownsRow B' e' 1 (sl g' n' c') m' xs') (he : e ≠ e') : g ≠ g' := by
  rintro rfl
  obtain ⟨c1, h1, _⟩ := own_block h
  obtain ⟨c2, h2, _⟩ := own_block h'
  rw [h1] at h2
  simp only [Option.some.injEq, Obj.cells.injEq] at h2
  exact he h2.2.1
theorem own_lt {w : World} {B g n c e m : Nat} {xs : List Value} (h : w.ownsRow B e 1 (sl g n c) m xs) : g < w.heap.size := (h.lt g rfl).2

theorem HasL.alloc {B : Nat} {w : World} {gl lcap : Nat} {vs : List Value} {LP : List (List Int)} (h : HasL B w gl lcap vs LP) (o : Obj) : HasL B (w.alloc o) gl lcap vs LP :=
  ⟨h.lines.alloc o, h.len, fun i hi => by obtain ⟨g, c, e, ho⟩ := h.each i hi; exact ⟨g, c, e, ho.alloc o⟩, h.bd⟩
theorem Cur.alloc {B : Nat} {w : World} {gc ccap : Nat} {vs : List Value} {cb : List Int} (h : Cur B w gc ccap vs cb) (o : Obj) : Cur B (w.alloc o) gc ccap vs cb := ⟨h.own.alloc o, h.ne, h.bd⟩

/-- A byte is appended to the line in hand. -/
theorem byte_on {B : Nat} {w w1 : World} {gl lcap gc ccap g' cap' : Nat} {vs : List Value} {LP : List (List Int)} {cb : List Int} {x : Int} {o : Obj} (h : HasL B w gl lcap vs LP) (hc : Cur B w gc ccap vs cb)
    (hg : (w.alloc o).grownBy w1 (some gc)) (ho : w1.ownsRow B 5 1 (sl g' (cb.length + 1) cap') (cb.length + 1) (bytesV cb ++ [.int .u8 x])) (hat : some gc = some g' ∨ g' = w.heap.size + 1) (hx : 0 ≤ x ∧ x ≤ 255) :
    HasL B w1 gl lcap vs LP ∧ Cur B w1 g' cap' vs (cb ++ [x]) := by
  have hgl : gl ≠ gc := own_apart h.lines hc.own (by decide)
  refine ⟨⟨(h.lines.alloc o).kept hg (.inr (by simp [sl, Value.ownBlock]; exact hgl)), h.len, fun i hi => ?_, h.bd⟩, ?_, fun v hv => ?_, fun y hy => ?_⟩
  · obtain ⟨g, c, e, hoi⟩ := h.each i hi
    have hne := hc.ne _ (List.mem_of_getElem? e)
    exact ⟨g, c, e, (hoi.alloc o).kept hg (.inr hne)⟩
  · have e1 : bytesV (cb ++ [x]) = bytesV cb ++ [.int .u8 x] := by simp [bytesV]
    have e2 : (cb ++ [x]).length = cb.length + 1 := by simp
    rw [e1, e2]; exact ho
  · obtain ⟨i, hi⟩ := List.mem_iff_getElem?.1 hv
    have hil : i < vs.length := (List.getElem?_eq_some_iff.1 hi).1
    obtain ⟨g, c, e, hoi⟩ := h.each i hil
    rcases hat with hat | hat
    · rw [← hat]; exact hc.ne v hv
    · rw [e] at hi
      cases hi
      have := own_lt hoi
      simp only [sl, Value.ownBlock, ne_eq, Option.some.injEq]
      omega
  · rcases List.mem_append.1 hy with hy | hy
    · exact hc.bd y hy
    · simp at hy; subst hy; exact hx

/-- The line in hand is appended to the lines. -/
theorem line_on {B : Nat} {w w1 : World} {gl lcap gc ccap g' cap' : Nat} {vs : List Value} {LP : List (List Int)} {cb : List Int} {o : Obj} (h : HasL B w gl lcap vs LP) (hc : Cur B w gc ccap vs cb)
    (hg : (w.alloc o).grownBy w1 (some gl)) (ho : w1.ownsRow B 36 1 (sl g' (vs.length + 1) cap') (vs.length + 1) (vs ++ [sl gc cb.length ccap])) :
    HasL B w1 g' cap' (vs ++ [sl gc cb.length ccap]) (LP ++ [cb]) := by
  have hgl : gl ≠ gc := own_apart h.lines hc.own (by decide)
  have e1 : (vs ++ [sl gc cb.length ccap]).length = vs.length + 1 := by simp
  refine ⟨by rw [e1]; exact ho, by simp [h.len], fun i hi => ?_, fun L hL => ?_⟩
  · by_cases hi' : i < vs.length
    · obtain ⟨g, c, e, hoi⟩ := h.each i hi'
      have hgg : g ≠ gl := own_apart hoi h.lines (by decide)
      have e2 : (LP ++ [cb]).getD i [] = LP.getD i [] := by
        rw [List.getD_eq_getElem?_getD, List.getD_eq_getElem?_getD, List.getElem?_append_left (by rw [h.len]; exact hi')]
      rw [e2]
      exact ⟨g, c, by rw [List.getElem?_append_left hi']; exact e, (hoi.alloc o).kept hg (.inr (by simp [sl, Value.ownBlock]; exact hgg))⟩
    · have hie : i = vs.length := by omega
      have e2 : (LP ++ [cb]).getD i [] = cb := by
        rw [List.getD_eq_getElem?_getD, hie, ← h.len]; simp
      rw [e2]
      exact ⟨gc, ccap, by rw [hie]; simp, (hc.own.alloc o).kept hg (.inr (by simp [sl, Value.ownBlock]; exact fun e => hgl e.symm))⟩
  · rcases List.mem_append.1 hL with hL | hL
    · exact h.bd L hL
    · simp at hL; subst hL; exact hc.bd

/-- A new line in hand. -/
theorem cur_new {B : Nat} {w : World} {gl lcap : Nat} {vs : List Value} {LP : List (List Int)} (h : HasL B w gl lcap vs LP) (hB : B ≤ w.heap.size) : Cur B (w.alloc (.cells #[] 5)) w.heap.size 0 vs [] := by
  refine ⟨World.ownsRow_lit w #[] 0 hB (by decide) rfl, fun v hv => ?_, fun x hx => by cases hx⟩
  obtain ⟨i, hi⟩ := List.mem_iff_getElem?.1 hv
  have hil : i < vs.length := (List.getElem?_eq_some_iff.1 hi).1
  obtain ⟨g, c, e, hoi⟩ := h.each i hil
  rw [e] at hi
  cases hi
  have := own_lt hoi
  simp only [sl, Value.ownBlock, ne_eq, Option.some.injEq]
  omega

theorem getD_bd (L : List Int) (h : ∀ x ∈ L, 0 ≤ x ∧ x ≤ 255) (j : Nat) : 0 ≤ L.getD j 0 ∧ L.getD j 0 ≤ 255 := by
  rw [List.getD_eq_getElem?_getD]
  by_cases hj : j < L.length
  · rw [List.getElem?_eq_getElem hj]; exact h _ (List.getElem_mem _)
  · rw [List.getElem?_eq_none (by omega)]; simp

/-- The lines, as the contracts read them. -/
theorem HasL.at {B : Nat} {w : World} {gl lcap : Nat} {vs : List Value} {LP : List (List Int)} (h : HasL B w gl lcap vs LP) : LinesAt w (some ⟨gl, 0, none⟩) vs.length LP := by
  refine ⟨h.len, fun i hi => ?_⟩
  obtain ⟨g, c, e, ho⟩ := h.each i hi
  refine ⟨gl, 0, some ⟨g, 0, none⟩, (LP.getD i []).length, c, rfl, ?_, (own_block ho).choose_spec.2, rfl, fun j hj => ⟨g, 0, rfl, ?_⟩, fun j => ?_⟩
  · rw [Nat.zero_add, h.lines.cellAt i (by omega), e]; rfl
  · rw [Nat.zero_add, ho.cellAt j (by omega)]
    generalize LP.getD i [] = M at hj ⊢
    rw [bytesV, List.getElem?_map, List.getD_eq_getElem?_getD, List.getElem?_eq_getElem hj]
    rfl
  · refine getD_bd _ (h.bd _ ?_) j
    rw [List.getD_eq_getElem?_getD, List.getElem?_eq_getElem (by rw [h.len]; exact hi)]
    exact List.getElem_mem _

/-- The law's alphabet. -/
def alphaO : Obj := .cells #[.int .u8 32, .int .u8 9, .int .u8 13, .int .u8 11, .int .u8 97, .int .u8 12] 43
theorem alpha_at (w : World) (m : Nat) (h : m < 6) : ∃ y, (0 ≤ y ∧ y ≤ 255) ∧ (w.alloc alphaO).cell? ⟨w.heap.size, m, none⟩ = some (.int .u8 y) := by
  have hS : (w.alloc alphaO).heap[w.heap.size]? = some alphaO := heap_alloc_new _ _
  match m, h with
  | 0, _ => exact ⟨32, by omega, cell_of_row _ _ 0 _ 43 (0, 0) hS⟩
  | 1, _ => exact ⟨9, by omega, cell_of_row _ _ 1 _ 43 (0, 0) hS⟩
  | 2, _ => exact ⟨13, by omega, cell_of_row _ _ 2 _ 43 (0, 0) hS⟩
  | 3, _ => exact ⟨11, by omega, cell_of_row _ _ 3 _ 43 (0, 0) hS⟩
  | 4, _ => exact ⟨97, by omega, cell_of_row _ _ 4 _ 43 (0, 0) hS⟩
  | 5, _ => exact ⟨12, by omega, cell_of_row _ _ 5 _ 43 (0, 0) hS⟩
theorem new_one (w : World) (v : Value) (t : TypeId) : ∀ j u, [v][j]? = some u → (w.alloc (.cells #[v] t)).cell? ((⟨w.heap.size, 0, none⟩ : Addr).add j) = some u := by
  intro j u hj
  match j, hj with
  | 0, hj => simp at hj; subst hj; simp [Addr.add]
theorem start_has (w : World) : HasL (w.heap.size + 1) (((w.alloc alphaO).alloc (.cells #[] 36)).alloc (.cells #[] 5)) (w.heap.size + 1) 0 [] [] ∧ Cur (w.heap.size + 1) (((w.alloc alphaO).alloc (.cells #[] 36)).alloc (.cells #[] 5)) (w.heap.size + 1 + 1) 0 [] [] := by
  have e1 : (w.alloc alphaO).heap.size = w.heap.size + 1 := by simp
  have e2 : ((w.alloc alphaO).alloc (.cells #[] 36)).heap.size = w.heap.size + 1 + 1 := by simp
  have h1 := World.ownsRow_lit (base := w.heap.size + 1) (e := 36) (size := 1) (w.alloc alphaO) #[] 0 (by omega) (by decide) rfl
  rw [e1] at h1
  have hL : HasL (w.heap.size + 1) ((w.alloc alphaO).alloc (.cells #[] 36)) (w.heap.size + 1) 0 [] [] := ⟨h1, rfl, fun i hi => absurd hi (by simp), fun L hL => by cases hL⟩
  have hC := cur_new hL (by omega)
  rw [e2] at hC
  exact ⟨hL.alloc _, hC⟩
theorem below_on {B g : Nat} {wA w w1 : World} {o : Obj} (h : Below B wA w) (hB : B ≤ w.heap.size) (hg : (w.alloc o).grownBy w1 (some g)) (hr : B ≤ g) : Below B wA w1 :=
  (h.alloc hB o).grown hg (by simp; omega) (fun k hk => by simp at hk; omega)
end Go.Proofs.Ybulkcesa
