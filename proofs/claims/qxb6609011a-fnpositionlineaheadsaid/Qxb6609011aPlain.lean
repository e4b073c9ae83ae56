/-
  THE PLAIN MATHEMATICS OF position: lines and columns over lists of bytes (as integers). No Go in sight.
-/
import Derived.Below
namespace Go.Proofs.Qxb6609011a.Pos

/-- How many newlines. -/
def cnt : List Int → Nat
  | [] => 0
  | x :: r => (if x = 10 then 1 else 0) + cnt r
/-- How many bytes stand behind the last newline. -/
def colFrom (c : Nat) : List Int → Nat
  | [] => c
  | x :: r => colFrom (if x = 10 then 0 else c + 1) r
def col (l : List Int) : Nat := colFrom 0 l

theorem cnt_append (a b : List Int) : cnt (a ++ b) = cnt a + cnt b := by
  induction a with
  | nil => simp [cnt]
  | cons x r ih => simp only [List.cons_append, cnt, ih]; omega
theorem cnt_le (l : List Int) : cnt l ≤ l.length := by
  induction l with
  | nil => simp [cnt]
  | cons x r ih => simp only [cnt, List.length_cons]; split <;> omega
theorem colFrom_append (a b : List Int) (c : Nat) : colFrom c (a ++ b) = colFrom (colFrom c a) b := by
  induction a generalizing c with
  | nil => rfl
  | cons x r ih => simp only [List.cons_append, colFrom, ih]
theorem colFrom_le (l : List Int) (c : Nat) : colFrom c l ≤ c + l.length := by
  induction l generalizing c with
  | nil => simp [colFrom]
  | cons x r ih =>
    simp only [colFrom, List.length_cons]
    split
    · have := ih 0; omega
    · have := ih (c + 1); omega
theorem col_le (l : List Int) : col l ≤ l.length := by have := colFrom_le l 0; unfold col; omega
theorem cnt_snoc (l : List Int) (x : Int) : cnt (l ++ [x]) = cnt l + if x = 10 then 1 else 0 := by rw [cnt_append]; simp [cnt]
theorem col_snoc (l : List Int) (x : Int) : col (l ++ [x]) = if x = 10 then 0 else col l + 1 := by unfold col; rw [colFrom_append]; simp [colFrom]
/-- No newline: the column runs on. -/
theorem colFrom_none (l : List Int) (c : Nat) (h : ∀ x ∈ l, x ≠ 10) : colFrom c l = c + l.length := by
  induction l generalizing c with
  | nil => simp [colFrom]
  | cons x r ih =>
    simp only [colFrom, List.length_cons]
    rw [if_neg (h x (by simp)), ih _ (fun y hy => h y (by simp [hy]))]
    omega
/-- A newline: what stood ahead is forgotten. -/
theorem colFrom_some (l : List Int) (c d : Nat) (h : ∃ x ∈ l, x = 10) : colFrom c l = colFrom d l := by
  induction l generalizing c d with
  | nil => simp at h
  | cons x r ih =>
    simp only [colFrom]
    by_cases hx : x = 10
    · simp [hx]
    · simp only [if_neg hx]
      apply ih
      obtain ⟨y, hy, rfl⟩ := h
      rcases List.mem_cons.1 hy with h1 | h1
      · exact absurd h1.symm hx
      · exact ⟨10, h1, rfl⟩
theorem take_snoc (l : List Int) (k : Nat) (h : k < l.length) : l.take (k + 1) = l.take k ++ [l.getD k 0] := by
  rw [List.take_add_one]; simp [List.getD, List.getElem?_eq_getElem h]
theorem cnt_take_snoc (l : List Int) (k : Nat) (h : k < l.length) : cnt (l.take (k + 1)) = cnt (l.take k) + if l.getD k 0 = 10 then 1 else 0 := by
  rw [take_snoc l k h, cnt_snoc]
theorem col_take_snoc (l : List Int) (k : Nat) (h : k < l.length) : col (l.take (k + 1)) = if l.getD k 0 = 10 then 0 else col (l.take k) + 1 := by
  rw [take_snoc l k h, col_snoc]

/-- The index of the last newline among the first n, -1 where there is none: what LastIndexByte answers. -/
def lastFrom (l : List Int) : Nat → Int
  | 0 => -1
  | n + 1 => if l.getD n 0 = 10 then (n : Int) else lastFrom l n
theorem lastFrom_col (l : List Int) (n : Nat) (h : n ≤ l.length) : lastFrom l n = (n : Int) - 1 - col (l.take n) := by
  induction n with
  | zero => simp [lastFrom, col, colFrom]
  | succ n ih =>
    rw [lastFrom, col_take_snoc l n (by omega)]
    split
    · simp
    · rw [ih (by omega)]; push_cast; omega

theorem take_split (l : List Int) (k m : Nat) : l.take (k + m) = l.take k ++ (l.drop k).take m := List.take_add
end Go.Proofs.Qxb6609011a.Pos
