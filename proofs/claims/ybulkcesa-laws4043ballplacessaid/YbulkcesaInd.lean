/-
  Seat b4043a: indentation and places' costs, as plain functions. No Go in sight.
-/
import Derived.Tactics
namespace Go.Proofs.Ybulkcesa

/-- From column 'cols' on: the line's columns, and whether it is blank. -/
def indGo (cols : Int) : List Int → Int × Bool
  | [] => (0, true)
  | c :: r => if c = 32 then indGo (cols + 1) r else if c = 9 then indGo ((cols / 8 + 1) * 8) r else if c = 13 ∨ c = 10 ∨ c = 11 ∨ c = 12 then indGo cols r else (cols, false)
def ind (L : List Int) : Int × Bool := indGo 0 L

theorem indGo_space (cols : Int) (r : List Int) : indGo cols (32 :: r) = indGo (cols + 1) r := by rw [indGo, if_pos rfl]
theorem indGo_tab (cols : Int) (r : List Int) : indGo cols (9 :: r) = indGo ((cols / 8 + 1) * 8) r := by rw [indGo, if_neg (by decide), if_pos rfl]
theorem indGo_white (cols c : Int) (r : List Int) (h : c = 13 ∨ c = 10 ∨ c = 11 ∨ c = 12) : indGo cols (c :: r) = indGo cols r := by
  rw [indGo, if_neg (by omega), if_neg (by omega), if_pos h]
theorem indGo_stop (cols c : Int) (r : List Int) (h1 : c ≠ 32) (h2 : c ≠ 9) (h3 : ¬ (c = 13 ∨ c = 10 ∨ c = 11 ∨ c = 12)) : indGo cols (c :: r) = (cols, false) := by
  rw [indGo, if_neg h1, if_neg h2, if_neg h3]
theorem indGo_nil (cols : Int) : indGo cols [] = (0, true) := by rw [indGo]
theorem indGo_bd : ∀ (L : List Int) (cols : Int), 0 ≤ cols → 0 ≤ (indGo cols L).1 ∧ (indGo cols L).1 ≤ cols + 8 * L.length
  | [], cols, h => by rw [indGo_nil]; simp; omega
  | c :: r, cols, h => by
    by_cases h1 : c = 32
    · subst h1; rw [indGo_space]; have := indGo_bd r (cols + 1) (by omega); simp only [List.length_cons]; omega
    by_cases h2 : c = 9
    · subst h2; rw [indGo_tab]; have := indGo_bd r ((cols / 8 + 1) * 8) (by omega); simp only [List.length_cons]; omega
    by_cases h3 : c = 13 ∨ c = 10 ∨ c = 11 ∨ c = 12
    · rw [indGo_white _ _ _ h3]; have := indGo_bd r cols h; simp only [List.length_cons]; omega
    · rw [indGo_stop _ _ _ h1 h2 h3]; simp only [List.length_cons]; omega
theorem ind_bd (L : List Int) (h : L.length ≤ 1024) : 0 ≤ (ind L).1 ∧ (ind L).1 ≤ 8192 := by
  have := indGo_bd L 0 (by omega); unfold ind; omega

/-- Is line i blank (behind the last: yes). -/
def blk (LL : List (List Int)) (i : Nat) : Bool := if i < LL.length then (ind (LL.getD i [])).2 else true
def col (LL : List (List Int)) (i : Nat) : Int := (ind (LL.getD i [])).1
/-- What lies below, k lines ahead of the end: the columns of the first line that is not blank; -1 if there is none. -/
def belK (LL : List (List Int)) : Nat → Int
  | 0 => -1
  | k + 1 => if blk LL (LL.length - 1 - k) then belK LL k else col LL (LL.length - 1 - k)
def bel (LL : List (List Int)) (i : Nat) : Int := belK LL (LL.length - i)
theorem bel_end (LL : List (List Int)) : bel LL LL.length = -1 := by unfold bel; rw [Nat.sub_self]; rfl
theorem bel_step (LL : List (List Int)) (i : Nat) (h : i < LL.length) : bel LL i = if blk LL i then bel LL (i + 1) else col LL i := by
  unfold bel
  rw [show LL.length - i = (LL.length - (i + 1)) + 1 by omega, belK, show LL.length - 1 - (LL.length - (i + 1)) = i by omega]
/-- All lines are short. -/
def short (LL : List (List Int)) : Prop := ∀ i, i < LL.length → (LL.getD i []).length ≤ 1024
theorem col_bd (LL : List (List Int)) (h : short LL) (i : Nat) (hi : i < LL.length) : 0 ≤ col LL i ∧ col LL i ≤ 8192 := ind_bd _ (h i hi)
theorem belK_bd (LL : List (List Int)) (h : short LL) : ∀ k, k ≤ LL.length → -1 ≤ belK LL k ∧ belK LL k ≤ 8192
  | 0, _ => by rw [belK]; omega
  | k + 1, hk => by
    rw [belK]
    split
    · exact belK_bd LL h k (by omega)
    · have := col_bd LL h (LL.length - 1 - k) (by omega); omega
theorem bel_bd (LL : List (List Int)) (h : short LL) (i : Nat) : -1 ≤ bel LL i ∧ bel LL i ≤ 8192 := belK_bd LL h _ (by omega)

/-- The cost of place i, but for the end's credit. -/
def cst (LL : List (List Int)) (i : Nat) : Int := 4 * (if bel LL i < 0 then 0 else bel LL i) + (if 0 < i ∧ blk LL (i - 1) = false then col LL (i - 1) + 10 + (if blk LL i = false then 2 else 0) else 0)
/-- The cost of place i. -/
def mdl (LL : List (List Int)) (i : Nat) : Int := cst LL i - (if i = LL.length then 32 else 0)
theorem cst_bd (LL : List (List Int)) (h : short LL) (i : Nat) (hi : i ≤ LL.length) : 0 ≤ cst LL i ∧ cst LL i ≤ 40972 := by
  have h1 := bel_bd LL h i
  unfold cst
  by_cases hc : 0 < i ∧ blk LL (i - 1) = false
  · have h2 := col_bd LL h (i - 1) (by omega)
    rw [if_pos hc]
    repeat' split
    all_goals omega
  · rw [if_neg hc]
    repeat' split
    all_goals omega
theorem mdl_bd (LL : List (List Int)) (h : short LL) (i : Nat) (hi : i ≤ LL.length) : -32 ≤ mdl LL i ∧ mdl LL i ≤ 40972 := by
  have := cst_bd LL h i hi
  unfold mdl; split <;> omega
end Go.Proofs.Ybulkcesa
