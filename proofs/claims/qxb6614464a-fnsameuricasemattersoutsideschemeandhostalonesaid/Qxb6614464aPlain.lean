/-
  THE PLAIN MATHEMATICS OF sameURI: a URI's scheme and host as places among its bytes, and the fold over them. No Go in sight.
-/
import Derived.Below
namespace Go.Proofs.Qxb6614464a.Uri

/-- A byte that ends the authority: slash, question mark, hash. -/
def isEnd (b : UInt8) : Bool := b == 47 || (b == 63 || b == 35)
/-- An ASCII capital made small. -/
def low (b : UInt8) : UInt8 := if 65 ≤ b ∧ b ≤ 90 then b + 32 else b
/-- How many of the first n bytes lead up to and through the last at-sign. -/
def atFrom (l : List UInt8) : Nat → Nat
  | 0 => 0
  | n + 1 => if l.getD n 0 = 64 then n + 1 else atFrom l n
def lastAt (l : List UInt8) : Nat := atFrom l l.length
def colon (l : List UInt8) : Nat := l.findIdx (· == 58)
/-- Do two slashes follow the colon? -/
def slashes (l : List UInt8) : Bool := decide (colon l + 2 < l.length) && (l.getD (colon l + 1) 0 == 47 && l.getD (colon l + 2) 0 == 47)
def auth (l : List UInt8) : List UInt8 := l.drop (colon l + 3)
def endAt (l : List UInt8) : Nat := (auth l).findIdx isEnd
def hostAt (l : List UInt8) : Nat := lastAt ((auth l).take (endAt l))
/-- The scheme's end, the host's start and end. -/
def region (l : List UInt8) : Nat × Nat × Nat :=
  if colon l < l.length then
    if slashes l then (colon l, colon l + 3 + hostAt l, colon l + 3 + endAt l) else (colon l, 0, 0)
  else (0, 0, 0)
def inReg (r : Nat × Nat × Nat) (i : Nat) : Bool := decide (i < r.1) || (decide (r.2.1 ≤ i) && decide (i < r.2.2))
/-- The bytes of l, from place i on, those within the region folded. -/
def rm (r : Nat × Nat × Nat) : Nat → List UInt8 → List UInt8
  | _, [] => []
  | i, x :: t => (if inReg r i then low x else x) :: rm r (i + 1) t
def fold (l : List UInt8) : List UInt8 := rm (region l) 0 l

theorem rm_append (r : Nat × Nat × Nat) (i : Nat) (a b : List UInt8) : rm r i (a ++ b) = rm r i a ++ rm r (i + a.length) b := by
  induction a generalizing i with
  | nil => simp [rm]
  | cons x t ih => simp only [List.cons_append, rm, ih, List.length_cons]; rw [show i + 1 + t.length = i + (t.length + 1) from by omega]
theorem rm_in (r : Nat × Nat × Nat) (i : Nat) (a : List UInt8) (h : ∀ j, j < a.length → inReg r (i + j) = true) : rm r i a = a.map low := by
  induction a generalizing i with
  | nil => rfl
  | cons x t ih =>
    have h0 := h 0 (by simp)
    rw [Nat.add_zero] at h0
    simp only [rm, h0, if_true, List.map_cons]
    rw [ih (i + 1) (fun j hj => by have := h (j + 1) (by simp; omega); rwa [show i + 1 + j = i + (j + 1) from by omega])]
theorem rm_out (r : Nat × Nat × Nat) (i : Nat) (a : List UInt8) (h : ∀ j, j < a.length → inReg r (i + j) = false) : rm r i a = a := by
  induction a generalizing i with
  | nil => rfl
  | cons x t ih =>
    have h0 := h 0 (by simp)
    rw [Nat.add_zero] at h0
    simp only [rm, h0]
    rw [ih (i + 1) (fun j hj => by have := h (j + 1) (by simp; omega); rwa [show i + 1 + j = i + (j + 1) from by omega])]
    simp
theorem rm_get (r : Nat × Nat × Nat) (i : Nat) (a : List UInt8) (j : Nat) : (rm r i a)[j]? = a[j]?.map (fun x => if inReg r (i + j) then low x else x) := by
  induction a generalizing i j with
  | nil => simp [rm]
  | cons x t ih =>
    cases j with
    | zero => simp [rm]
    | succ j =>
      simp only [rm, List.getElem?_cons_succ, ih]
      rw [show i + 1 + j = i + (j + 1) from by omega]

theorem atFrom_le (l : List UInt8) (n : Nat) : atFrom l n ≤ n := by
  induction n with
  | zero => simp [atFrom]
  | succ n ih => rw [atFrom]; split <;> omega
theorem lastAt_le (l : List UInt8) : lastAt l ≤ l.length := atFrom_le l _

/-- THE FOLD AS THE PROGRAM MAKES IT. -/
def foldGo (l : List UInt8) : List UInt8 :=
  if colon l < l.length then
    if slashes l then
      (l.take (colon l)).map low ++ [58, 47, 47] ++ ((auth l).take (endAt l)).take (hostAt l) ++ (((auth l).take (endAt l)).drop (hostAt l)).map low ++ (auth l).drop (endAt l)
    else (l.take (colon l)).map low ++ [58] ++ l.drop (colon l + 1)
  else l

theorem colon_get (l : List UInt8) (h : colon l < l.length) : l.drop (colon l) = 58 :: l.drop (colon l + 1) := by
  rw [List.drop_eq_getElem_cons h]
  have := List.findIdx_getElem (p := (· == 58)) (xs := l) (w := h)
  simp only [beq_iff_eq] at this
  unfold colon at *
  rw [this]
theorem slashes_get (l : List UInt8) (h : slashes l = true) : colon l + 2 < l.length ∧ l.drop (colon l + 1) = 47 :: 47 :: auth l := by
  unfold slashes at h
  simp only [Bool.and_eq_true, decide_eq_true_eq, beq_iff_eq] at h
  obtain ⟨h1, h2, h3⟩ := h
  refine ⟨h1, ?_⟩
  rw [List.drop_eq_getElem_cons (show colon l + 1 < l.length by omega), List.drop_eq_getElem_cons (show colon l + 1 + 1 < l.length by omega)]
  rw [List.getD_eq_getElem?_getD, List.getElem?_eq_getElem (by omega)] at h2 h3
  simp only [Option.getD_some] at h2 h3
  rw [h2]
  congr 2

theorem foldGo_eq (l : List UInt8) : foldGo l = fold l := by
  unfold foldGo fold region
  by_cases hc : colon l < l.length
  · rw [if_pos hc, if_pos hc]
    have e0 : l = l.take (colon l) ++ (58 :: l.drop (colon l + 1)) := by rw [← colon_get l hc, List.take_append_drop]
    have ln : (l.take (colon l)).length = colon l := by simp; omega
    by_cases hs : slashes l = true
    · rw [if_pos hs, if_pos hs]
      obtain ⟨h2, hd⟩ := slashes_get l hs
      have he : endAt l ≤ (auth l).length := List.findIdx_le_length
      have hl := lastAt_le ((auth l).take (endAt l))
      have hlen : ((auth l).take (endAt l)).length = endAt l := by simp; omega
      rw [hlen] at hl
      change hostAt l ≤ endAt l at hl
      have e1 : auth l = ((auth l).take (endAt l)).take (hostAt l) ++ (((auth l).take (endAt l)).drop (hostAt l) ++ (auth l).drop (endAt l)) := by
        rw [← List.append_assoc, List.take_append_drop, List.take_append_drop]
      have e2 : l = l.take (colon l) ++ ([58, 47, 47] ++ (((auth l).take (endAt l)).take (hostAt l) ++ (((auth l).take (endAt l)).drop (hostAt l) ++ (auth l).drop (endAt l)))) := by
        rw [← e1]
        calc l = l.take (colon l) ++ (58 :: l.drop (colon l + 1)) := e0
          _ = _ := by rw [hd]; rfl
      have l1 : (((auth l).take (endAt l)).take (hostAt l)).length = hostAt l := by simp; omega
      have l2 : (((auth l).take (endAt l)).drop (hostAt l)).length = endAt l - hostAt l := by simp; omega
      generalize ((auth l).take (endAt l)).take (hostAt l) = A1 at *
      generalize ((auth l).take (endAt l)).drop (hostAt l) = A2 at *
      generalize (auth l).drop (endAt l) = P at *
      generalize hostAt l = h at *
      generalize endAt l = e at *
      generalize l.take (colon l) = S at *
      generalize colon l = c at *
      rw [e2, rm_append, rm_append, rm_append, rm_append]
      rw [rm_in (c, c + 3 + h, c + 3 + e) 0 S (fun j hj => by simp [inReg]; omega)]
      rw [rm_out (c, c + 3 + h, c + 3 + e) (0 + S.length) [58, 47, 47] (fun j hj => by simp [inReg] at hj ⊢; omega)]
      rw [rm_out (c, c + 3 + h, c + 3 + e) _ A1 (fun j hj => by simp [inReg] at hj ⊢; omega)]
      rw [rm_in (c, c + 3 + h, c + 3 + e) _ A2 (fun j hj => by simp [inReg] at hj ⊢; omega)]
      rw [rm_out (c, c + 3 + h, c + 3 + e) _ P (fun j hj => by simp [inReg] at hj ⊢; omega)]
      simp [List.append_assoc]
    · rw [if_neg hs, if_neg hs]
      generalize l.take (colon l) = S at *
      generalize l.drop (colon l + 1) = R at *
      generalize colon l = c at *
      rw [e0, rm_append]
      rw [rm_in (c, 0, 0) 0 S (fun j hj => by simp [inReg]; omega)]
      rw [rm_out (c, 0, 0) (0 + S.length) (58 :: R) (fun j hj => by simp [inReg] at hj ⊢; omega)]
      simp
  · rw [if_neg hc, if_neg hc, rm_out]
    intro j hj
    simp [inReg]

/-! ### A letter's case turns no place -/
def letter (b : UInt8) : Bool := decide (97 ≤ b ∧ b ≤ 122) || decide (65 ≤ b ∧ b ≤ 90)
def cls (b : UInt8) : UInt8 := if letter b then 0 else b
theorem cls_eq (b c : UInt8) (h1 : letter c = false) (h0 : c ≠ 0) : (cls b == c) = (b == c) := by
  unfold cls
  by_cases h : letter b = true
  · rw [if_pos h]
    have hb : b ≠ c := fun e => by rw [e, h1] at h; cases h
    rw [beq_eq_false_iff_ne.2 hb, beq_eq_false_iff_ne.2 (Ne.symm h0)]
  · rw [if_neg h]
theorem colon_cls (l : List UInt8) : colon (l.map cls) = colon l := by
  unfold colon
  rw [List.findIdx_map]
  congr 1
  funext b
  exact cls_eq b 58 (by decide) (by decide)
theorem getD_cls (l : List UInt8) (k : Nat) : (l.map cls).getD k 0 = cls (l.getD k 0) := by
  simp only [List.getD_eq_getElem?_getD, List.getElem?_map]
  cases l[k]? with
  | none => decide
  | some b => rfl
theorem slashes_cls (l : List UInt8) : slashes (l.map cls) = slashes l := by
  unfold slashes
  rw [colon_cls, getD_cls, getD_cls, cls_eq _ 47 (by decide) (by decide), cls_eq _ 47 (by decide) (by decide), List.length_map]
theorem auth_cls (l : List UInt8) : auth (l.map cls) = (auth l).map cls := by
  unfold auth
  rw [colon_cls, List.map_drop]
theorem endAt_cls (l : List UInt8) : endAt (l.map cls) = endAt l := by
  unfold endAt
  rw [auth_cls, List.findIdx_map]
  congr 1
  funext b
  show isEnd (cls b) = isEnd b
  unfold isEnd
  rw [cls_eq b 47 (by decide) (by decide), cls_eq b 63 (by decide) (by decide), cls_eq b 35 (by decide) (by decide)]
theorem atFrom_cls (l : List UInt8) (n : Nat) : atFrom (l.map cls) n = atFrom l n := by
  induction n with
  | zero => rfl
  | succ n ih =>
    rw [atFrom, atFrom, ih, getD_cls]
    have := cls_eq (l.getD n 0) 64 (by decide) (by decide)
    by_cases h : l.getD n 0 = 64
    · rw [if_pos h, if_pos (by rw [h] at this ⊢; simpa using this)]
    · rw [if_neg h, if_neg (fun e => h (by rw [e] at this; simpa using this.symm))]
theorem hostAt_cls (l : List UInt8) : hostAt (l.map cls) = hostAt l := by
  unfold hostAt lastAt
  rw [auth_cls, endAt_cls, ← List.map_take, atFrom_cls, List.length_map]
theorem region_cls (l : List UInt8) : region (l.map cls) = region l := by
  unfold region
  rw [colon_cls, slashes_cls, endAt_cls, hostAt_cls, List.length_map]

/-- The letter's case changed. -/
def flip (c : UInt8) : UInt8 := if 97 ≤ c ∧ c ≤ 122 then c - 97 + 65 else if 65 ≤ c ∧ c ≤ 90 then c + 97 - 65 else c
theorem flip_all : ∀ c : UInt8, cls (flip c) = cls c ∧ low (flip c) = low c := by
  intro c
  have : ∀ n : Fin 256, cls (flip (UInt8.ofNat n.val)) = cls (UInt8.ofNat n.val) ∧ low (flip (UInt8.ofNat n.val)) = low (UInt8.ofNat n.val) := by decide +kernel
  have h := this ⟨c.toNat, c.toNat_lt⟩
  simpa using h
theorem region_flip (l : List UInt8) (k : Nat) (hk : k < l.length) : region (l.set k (flip l[k])) = region l := by
  rw [← region_cls, ← region_cls l]
  congr 1
  rw [List.map_set, (flip_all l[k]).1]
  apply List.ext_getElem?
  intro j
  simp only [List.getElem?_set, List.length_map, List.getElem?_map]
  split
  · next h => subst h; simp [hk]
  · rfl

/-- THE LAW: the flipped text folds to the same bytes just where the byte is no letter or lies within the region. -/
theorem fold_flip (l : List UInt8) (k : Nat) (hk : k < l.length) : (fold l == fold (l.set k (flip l[k]))) = ((flip l[k] == l[k]) || inReg (region l) k) := by
  by_cases he : flip l[k] = l[k]
  · rw [he, List.set_getElem_self]
    simp
  · rw [beq_eq_false_iff_ne.2 he, Bool.false_or]
    unfold fold
    rw [region_flip l k hk]
    cases hr : inReg (region l) k with
    | true =>
      rw [beq_iff_eq]
      apply List.ext_getElem?
      intro j
      rw [rm_get, rm_get, List.getElem?_set]
      by_cases h : k = j
      · subst h
        simp [hk, hr, (flip_all l[k]).2]
      · rw [if_neg h]
    | false =>
      rw [beq_eq_false_iff_ne]
      intro h
      have := congrArg (fun x => x[k]?) h
      simp only [rm_get, List.getElem?_set_self hk, List.getElem?_eq_getElem hk, Nat.zero_add, hr] at this
      simp at this
      exact he this.symm
theorem beq_comm' (a b : List UInt8) : (a == b) = (b == a) := by
  rw [Bool.eq_iff_iff, beq_iff_eq, beq_iff_eq]; exact eq_comm
end Go.Proofs.Qxb6614464a.Uri
