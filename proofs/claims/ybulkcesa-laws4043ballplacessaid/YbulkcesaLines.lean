/-
  Seat b4043a: lines in memory; the two indentation functions by their contracts.
-/
import Derived.Test.YbulkcesaInd
import Derived.Test.YbulkcesaVals
namespace Go.Proofs.Ybulkcesa
open Go.RowKit

/-- The slice's bytes are L. -/
structure LineAt (w : World) (a : Option Addr) (len : Nat) (L : List Int) : Prop where
  len_eq : L.length = len
  rd : ∀ j, j < len → ∃ b off, a = some ⟨b, off, none⟩ ∧ w.cell? ⟨b, off + j, none⟩ = some (.int .u8 (L.getD j 0))
  bd : ∀ j, 0 ≤ L.getD j 0 ∧ L.getD j 0 ≤ 255

theorem LineAt.kept {w w' : World} {a : Option Addr} {len : Nat} {L : List Int} (h : LineAt w a len L) (hk : ∀ b, b < w.heap.size → w'.heap[b]? = w.heap[b]?) : LineAt w' a len L :=
  ⟨h.len_eq, fun j hj => by
    obtain ⟨b, off, e, hc⟩ := h.rd j hj
    exact ⟨b, off, e, (World.cell?_of_block (w := w) (a := ⟨b, off + j, none⟩) (hk b (World.block_lt_of_cell? w ⟨b, off + j, none⟩ hc))).trans hc⟩, h.bd⟩

/-- The slice's lines are LL. -/
structure LinesAt (w : World) (a : Option Addr) (n : Nat) (LL : List (List Int)) : Prop where
  len_eq : LL.length = n
  rd : ∀ i, i < n → ∃ b off la llen lcap, a = some ⟨b, off, none⟩ ∧ w.cell? ⟨b, off + i, none⟩ = some (.slice la llen lcap) ∧ llen ≤ lcap ∧ LineAt w la llen (LL.getD i [])

theorem LinesAt.kept {w w' : World} {a : Option Addr} {n : Nat} {LL : List (List Int)} (h : LinesAt w a n LL) (hk : ∀ b, b < w.heap.size → w'.heap[b]? = w.heap[b]?) : LinesAt w' a n LL :=
  ⟨h.len_eq, fun j hj => by
    obtain ⟨b, off, la, llen, lcap, e, hc, hcp, hl⟩ := h.rd j hj
    exact ⟨b, off, la, llen, lcap, e, (World.cell?_of_block (w := w) (a := ⟨b, off + j, none⟩) (hk b (World.block_lt_of_cell? w ⟨b, off + j, none⟩ hc))).trans hc, hcp, hl.kept hk⟩⟩
theorem LinesAt.below {w w' : World} {a : Option Addr} {n : Nat} {LL : List (List Int)} (h : LinesAt w a n LL) (hb : Below w.heap.size w w') : LinesAt w' a n LL := h.kept fun b hb' => hb.block b hb'

theorem ret_ib {x y : Int} {p q : Bool} (h : (x, p) = (y, q)) : Ending.returned (.tuple #[.int .i64 x, .bool p]) = .returned (.tuple #[.int .i64 y, .bool q]) := by
  cases h; rfl
theorem drop_at (L : List Int) (k : Nat) (h : k < L.length) : L.drop k = L.getD k 0 :: L.drop (k + 1) := by
  rw [List.drop_eq_getElem_cons h, List.getD_eq_getElem?_getD, List.getElem?_eq_getElem h]; rfl

set_option maxHeartbeats 800000 in
theorem bindent17 (a : Option Addr) (len cap : Nat) (L : List Int) (w : World) (h : LineAt w a len L) (hlen : len ≤ 1024) :
    Calls Yba.prog 17 #[.slice a len cap] w fun e w' => e = .returned (.tuple #[.int .i64 (ind L).1, .bool (ind L).2]) ∧ w' = w := by
  have HA : Hid (LineAt w a len L) := h
  have HL : Hid (L.length = len) := h.len_eq
  clear h
  go_enter Yba.func17, Yba.ntmps17
  go_wp2
  go_loop [4, 5] (fun vc vk => ∃ (k : Nat) (cols : Int), k ≤ len ∧ 0 ≤ cols ∧ cols ≤ 8 * k ∧ vk = .int .i64 k ∧ vc = .int .i64 cols ∧ Hid (indGo cols (L.drop k) = ind L)) (fun _ vk => len - (intOf vk).toNat)
  case atStart => exact ⟨0, 0, by omega, by omega, by omega, rfl, rfl, by show (_ = _); rw [List.drop_zero]; rfl⟩
  case round =>
    obtain ⟨k, cols, hk, hc0, hc1, rfl, rfl, hg⟩ := hrel
    by_cases hlt : k < len
    · obtain ⟨b, off, ha, hc⟩ := HA.out.rd k hlt
      subst ha
      have hd := drop_at L k (by rw [HL.out]; exact hlt)
      have hbd := HA.out.bd k
      generalize hx0 : L.getD k 0 = x at hc hd hbd
      have HG : Hid (indGo cols (x :: L.drop (k + 1)) = ind L) := by show (_ = _); rw [← hd]; exact hg.out
      clear hd hx0 hg
      by_cases h1 : x = 32
      · subst h1
        go_wp2
        go_round
        case rel => exact ⟨k + 1, cols + 1, by omega, by omega, by omega, by go_num, by go_num, by show (_ = _); rw [← indGo_space]; exact HG.out⟩
        case measure => simp [intOf]; omega
      by_cases h2 : x = 9
      · subst h2
        go_wp2
        go_round
        case rel => exact ⟨k + 1, (cols / 8 + 1) * 8, by omega, by omega, by omega, by go_num, by go_num, by show (_ = _); rw [← indGo_tab]; exact HG.out⟩
        case measure => simp [intOf]; omega
      by_cases h3 : x = 13 ∨ x = 10 ∨ x = 11 ∨ x = 12
      · have HG2 : Hid (indGo cols (L.drop (k + 1)) = ind L) := by show (_ = _); rw [← indGo_white cols x _ h3]; exact HG.out
        clear HG h1 h2
        rcases h3 with rfl | rfl | rfl | rfl
        all_goals
          go_wp2
          go_round
          case rel => exact ⟨k + 1, cols, by omega, by omega, by omega, by go_num, by go_num, HG2⟩
          case measure => simp [intOf]; omega
      · have HG2 : Hid ((cols, false) = ind L) := by show (_ = _); rw [← indGo_stop cols x (L.drop (k + 1)) h1 h2 h3]; exact HG.out
        clear HG
        have n1 : (x == 32) = false := by simpa using h1
        have n2 : (x == 9) = false := by simpa using h2
        have n3 : (x == 13) = false := by simp; omega
        have n4 : (x == 10) = false := by simp; omega
        have n5 : (x == 11) = false := by simp; omega
        have n6 : (x == 12) = false := by simp; omega
        clear h1 h2 h3
        go_wp2
        go_ret2
        exact ⟨ret_ib HG2.out, rfl⟩
    · have he : L.drop k = [] := List.drop_eq_nil_of_le (by rw [HL.out]; omega)
      have HG2 : Hid ((0, true) = ind L) := by
        have := hg.out
        rw [he, indGo_nil] at this
        exact this
      clear hg he
      go_wp2
      go_ret2
      exact ⟨ret_ib HG2.out, rfl⟩

/-- The first k bytes are blanks. -/
theorem indGo_spaces (L : List Int) : ∀ k : Nat, k ≤ L.length → (∀ j, j < k → L.getD j 0 = 32) → indGo (k : Int) (L.drop k) = ind L
  | 0, _, _ => by rw [List.drop_zero]; rfl
  | k + 1, hk, h => by
    have ih := indGo_spaces L k (by omega) (fun j hj => h j (by omega))
    rw [drop_at L k (by omega), h k (by omega), indGo_space] at ih
    rw [← ih]
    rfl

set_option maxHeartbeats 800000 in
theorem indent20 (a : Option Addr) (len cap : Nat) (L : List Int) (w : World) (h : LineAt w a len L) (hlen : len ≤ 1024) (hcap : len ≤ cap) :
    Calls Yba.prog 20 #[.slice a len cap] w fun e w' => e = .returned (.tuple #[.int .i64 (ind L).1, .bool (ind L).2]) ∧ w' = w := by
  have HA : Hid (LineAt w a len L) := h
  have HL : Hid (L.length = len) := h.len_eq
  clear h
  go_enter Yba.func20, Yba.ntmps20
  go_wp2
  go_loop [2] (fun vc => ∃ k : Nat, k ≤ len ∧ vc = .int .i64 k ∧ Hid (∀ j, j < k → L.getD j 0 = 32)) (fun vk => len - (intOf vk).toNat)
  case atStart => exact ⟨0, by omega, rfl, fun j hj => absurd hj (by omega)⟩
  case round =>
    obtain ⟨k, hk, rfl, hsp⟩ := hrel
    by_cases hlt : k < len
    · obtain ⟨b, off, ha, hc⟩ := HA.out.rd k hlt
      subst ha
      by_cases h1 : L.getD k 0 = 32
      · have HSP : Hid (∀ j, j < k + 1 → L.getD j 0 = 32) := fun j hj => by
          by_cases e : j = k
          · rw [e]; exact h1
          · exact hsp.out j (by omega)
        rw [h1] at hc
        clear h1
        go_wp2
        go_round
        case rel => exact ⟨k + 1, by omega, by go_num, HSP⟩
        case measure => simp [intOf]; omega
      · have HG : Hid (indGo (k : Int) (L.drop k) = ind L) := indGo_spaces L k (by rw [HL.out]; omega) hsp.out
        have n1 : (L.getD k 0 == 32) = false := by simpa using h1
        generalize hx0 : L.getD k 0 = x at hc n1
        clear hsp h1 hx0
        go_wp2
        clear hc n1
        go_loop [2, 23] (fun vc vi => ∃ (i : Nat) (cols : Int), k + i ≤ len ∧ 0 ≤ cols ∧ cols ≤ 8 * (k + i) ∧ vi = .int .i64 i ∧ vc = .int .i64 cols ∧ Hid (indGo cols (L.drop (k + i)) = ind L)) (fun _ vi => len - (intOf vi).toNat)
        case atStart => exact ⟨0, k, by omega, by omega, by omega, rfl, rfl, HG⟩
        case round =>
          obtain ⟨i, cols, hi, hc0, hc1, rfl, rfl, hg⟩ := hrel
          clear HG
          by_cases hli : k + i < len
          · obtain ⟨b', off', ha, hc⟩ := HA.out.rd (k + i) hli
            simp only [Option.some.injEq, Addr.mk.injEq, and_true] at ha
            obtain ⟨rfl, rfl⟩ := ha
            rw [← Nat.add_assoc] at hc
            have hd := drop_at L (k + i) (by rw [HL.out]; exact hli)
            have hbd := HA.out.bd (k + i)
            generalize hx0 : L.getD (k + i) 0 = x at hc hd hbd
            have HG : Hid (indGo cols (x :: L.drop (k + (i + 1))) = ind L) := by show (_ = _); rw [← Nat.add_assoc, ← hd]; exact hg.out
            clear hd hx0 hg
            by_cases h1 : x = 32
            · subst h1
              go_wp2
              go_round
              case rel => exact ⟨i + 1, cols + 1, by omega, by omega, by omega, by go_num, by go_num, by show (_ = _); rw [← indGo_space]; exact HG.out⟩
              case measure => simp [intOf]; omega
            by_cases h2 : x = 9
            · subst h2
              go_wp2
              go_round
              case rel => exact ⟨i + 1, (cols / 8 + 1) * 8, by omega, by omega, by omega, by go_num, by go_num, by show (_ = _); rw [← indGo_tab]; exact HG.out⟩
              case measure => simp [intOf]; omega
            by_cases h3 : x = 13 ∨ x = 10 ∨ x = 11 ∨ x = 12
            · have HG2 : Hid (indGo cols (L.drop (k + (i + 1))) = ind L) := by show (_ = _); rw [← indGo_white cols x _ h3]; exact HG.out
              clear HG h1 h2
              rcases h3 with rfl | rfl | rfl | rfl
              all_goals
                go_wp2
                go_round
                case rel => exact ⟨i + 1, cols, by omega, by omega, by omega, by go_num, by go_num, HG2⟩
                case measure => simp [intOf]; omega
            · have HG2 : Hid ((cols, false) = ind L) := by show (_ = _); rw [← indGo_stop cols x (L.drop (k + (i + 1))) h1 h2 h3]; exact HG.out
              clear HG
              have n1 : (x == 32) = false := by simpa using h1
              have n2 : (x == 9) = false := by simpa using h2
              have n3 : (x == 13) = false := by simp; omega
              have n4 : (x == 10) = false := by simp; omega
              have n5 : (x == 11) = false := by simp; omega
              have n6 : (x == 12) = false := by simp; omega
              clear h1 h2 h3
              go_wp2
              go_ret2
              exact ⟨ret_ib HG2.out, rfl⟩
          · have he : L.drop (k + i) = [] := List.drop_eq_nil_of_le (by rw [HL.out]; omega)
            have HG2 : Hid ((0, true) = ind L) := by
              have := hg.out
              rw [he, indGo_nil] at this
              exact this
            clear hg he
            go_wp2
            go_ret2
            exact ⟨ret_ib HG2.out, rfl⟩
    · have HG : Hid (indGo (k : Int) (L.drop k) = ind L) := indGo_spaces L k (by rw [HL.out]; omega) hsp.out
      have hkl : k = len := by omega
      clear hsp
      subst hkl
      have he : L.drop k = [] := List.drop_eq_nil_of_le (by rw [HL.out]; omega)
      have HG2 : Hid ((0, true) = ind L) := by
        have := HG.out
        rw [he, indGo_nil] at this
        exact this
      clear HG he
      go_wp2
      all_goals
        refine wp_loop_rounds 1 ?_
        rw [rounds_succ]
        go_wp2
        go_ret2
        exact ⟨ret_ib HG2.out, rfl⟩
end Go.Proofs.Ybulkcesa
