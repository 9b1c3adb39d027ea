/-
  Seat b4036aF: the plain functions behind the text form of an ID. No Go in sight.
-/
import Derived.Tactics
namespace Go.Proofs.YbulkceogFmt

/-- Is place i of the text form a hyphen's. -/
def hyB (i : Nat) : Bool := i == 8 || i == 13 || i == 18 || i == 23
/-- Is c a hexadecimal digit. -/
def hexB (c : Int) : Bool := decide ((48 ≤ c ∧ c ≤ 57) ∨ (97 ≤ c ∧ c ≤ 102) ∨ (65 ≤ c ∧ c ≤ 70))
/-- Its value (0 if it is none). -/
def hexN (c : Int) : Int := if 48 ≤ c ∧ c ≤ 57 then c - 48 else if 97 ≤ c ∧ c ≤ 102 then c - 87 else if 65 ≤ c ∧ c ≤ 70 then c - 55 else 0
/-- Is the byte at place i as the text form wants it. -/
def goodB (T : Nat → Int) (i : Nat) : Bool := if hyB i then T i == 45 else hexB (T i)
/-- The first n places are as the text form wants them. -/
def goodTo (T : Nat → Int) (n : Nat) : Prop := ∀ i, i < n → goodB T i = true
/-- The text is accepted. -/
def accB (T : Nat → Int) : Bool := (List.range 36).all (goodB T)
/-- The place of the k-th digit. -/
def pos (k : Nat) : Nat := if k < 8 then k else if k < 12 then k + 1 else if k < 16 then k + 2 else if k < 20 then k + 3 else k + 4
/-- How many digits stand ahead of place i. -/
def cnt (i : Nat) : Nat := if i ≤ 8 then i else if i ≤ 13 then i - 1 else if i ≤ 18 then i - 2 else if i ≤ 23 then i - 3 else i - 4
/-- Byte j of the ID when k digits have been read. -/
def outN (T : Nat → Int) (k j : Nat) : Int :=
  if 2 * j + 1 < k then hexN (T (pos (2 * j))) * 16 + hexN (T (pos (2 * j + 1))) else if 2 * j < k then hexN (T (pos (2 * j))) * 16 else 0
/-- The ID that the text says. -/
def idOf (T : Nat → Int) : List Int := (List.range 16).map (outN T 32)
def zeros : List Int := List.replicate 16 0
/-- Sixteen bytes as cells. -/
def av (l : List Int) : Array Value := (l.map (Value.int .u8)).toArray

theorem hexN_bd (c : Int) : 0 ≤ hexN c ∧ hexN c ≤ 15 := by
  unfold hexN; split
  · omega
  · split
    · omega
    · split <;> omega

theorem acc_iff (T : Nat → Int) : accB T = true ↔ goodTo T 36 := by
  unfold accB goodTo; simp [List.all_eq_true]

theorem acc_not {T : Nat → Int} {i : Nat} (hi : i < 36) (h : goodB T i = false) : accB T = false := by
  cases ha : accB T with
  | false => rfl
  | true => rw [(acc_iff T).1 ha i hi] at h; cases h

theorem good_step {T : Nat → Int} {n : Nat} (h : goodTo T n) (g : goodB T n = true) : goodTo T (n + 1) := by
  intro i hi
  by_cases e : i = n
  · subst e; exact g
  · exact h i (by omega)

theorem cnt_hy {i : Nat} (h : hyB i = true) : cnt (i + 1) = cnt i := by
  unfold hyB at h; simp at h; unfold cnt
  rcases h with ((h | h) | h) | h <;> subst h <;> rfl
theorem cnt_dig {i : Nat} (h : hyB i = false) : cnt (i + 1) = cnt i + 1 := by
  unfold hyB at h; simp at h; unfold cnt
  repeat' split
  all_goals omega
theorem pos_cnt {i : Nat} (h : hyB i = false) : pos (cnt i) = i := by
  unfold hyB at h; simp at h; unfold cnt pos
  repeat' split
  all_goals omega
theorem cnt_le {i : Nat} (h : i ≤ 36) : cnt i ≤ 32 := by
  unfold cnt; repeat' split
  all_goals omega
theorem cnt_lt {i : Nat} (h : i < 36) : cnt i < 32 := by
  unfold cnt
  repeat' split
  all_goals omega
theorem cnt_end : cnt 36 = 32 := rfl
theorem cnt_zero : cnt 0 = 0 := rfl
theorem pos_lt {k : Nat} (h : k < 32) : pos k < 36 := by
  unfold pos; repeat' split
  all_goals omega
theorem pos_dig {k : Nat} (h : k < 32) : hyB (pos k) = false := by
  unfold pos hyB; simp; repeat' split
  all_goals omega

theorem outN_bd (T : Nat → Int) (k j : Nat) : 0 ≤ outN T k j ∧ outN T k j ≤ 255 := by
  have h1 := hexN_bd (T (pos (2 * j)))
  have h2 := hexN_bd (T (pos (2 * j + 1)))
  unfold outN; repeat' split
  all_goals omega
theorem outN_zero (T : Nat → Int) (j : Nat) : outN T 0 j = 0 := by
  unfold outN; rw [if_neg (by omega), if_neg (by omega)]
/-- A digit at an even place of the row of digits. -/
theorem outN_even (T : Nat → Int) (i k j : Nat) (hk : k % 2 = 0) (hp : pos k = i) : outN T (k + 1) j = if j = k / 2 then hexN (T i) * 16 else outN T k j := by
  unfold outN
  by_cases e : j = k / 2
  · subst e; rw [if_neg (by omega), if_pos (by omega), if_pos rfl, show 2 * (k / 2) = k by omega, hp]
  · rw [if_neg e]
    by_cases h1 : 2 * j + 1 < k
    · rw [if_pos (by omega), if_pos h1]
    · rw [if_neg (by omega), if_neg (by omega), if_neg (by omega), if_neg (by omega)]
/-- A digit at an odd place. -/
theorem outN_odd (T : Nat → Int) (i k j : Nat) (hk : k % 2 = 1) (hp : pos k = i) : outN T (k + 1) j = if j = k / 2 then outN T k (k / 2) + hexN (T i) else outN T k j := by
  unfold outN
  by_cases e : j = k / 2
  · subst e; rw [if_pos (by omega), if_pos rfl, if_neg (by omega), if_pos (by omega), show 2 * (k / 2) + 1 = k by omega, hp]
  · rw [if_neg e]
    by_cases h1 : 2 * j + 1 < k
    · rw [if_pos (by omega), if_pos h1]
    · rw [if_neg (by omega), if_neg (by omega), if_neg (by omega), if_neg (by omega)]

theorem av_size (l : List Int) : (av l).size = l.length := by simp [av]
theorem idOf_length (T : Nat → Int) : (idOf T).length = 16 := by simp [idOf]
theorem av_at (l : List Int) (j : Nat) (h : j < l.length) : (av l)[j]? = some (.int .u8 (l.getD j 0)) := by
  simp [av, h]
theorem idOf_at (T : Nat → Int) (j : Nat) (h : j < 16) : (idOf T).getD j 0 = outN T 32 j := by
  unfold idOf
  simp [h]
end Go.Proofs.YbulkceogFmt
