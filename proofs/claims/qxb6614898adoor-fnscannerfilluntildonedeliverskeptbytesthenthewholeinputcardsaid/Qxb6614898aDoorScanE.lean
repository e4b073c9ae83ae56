/-
  WHAT fill LEAVES IN THE BUFFER, place by place.
-/
import Derived.Test.Qxb6614898aDoorScanD
namespace Go.Proofs.Qxb6614898aDoor
open Go.RowKit Go.Joins
set_option linter.unusedVariables false
set_option maxHeartbeats 8000000
set_option maxRecDepth 1000000

theorem getD_splice (L cs : List Int) (off j : Nat) (h : off + cs.length ≤ L.length) : (splice L off cs).getD j 0 = if j < off then L.getD j 0 else if j < off + cs.length then cs.getD (j - off) 0 else L.getD j 0 := by
  unfold splice
  simp only [List.getD_eq_getElem?_getD]
  have hl : (L.take off).length = off := by simp; omega
  by_cases h1 : j < off
  · rw [if_pos h1, List.getElem?_append_left (by omega), List.getElem?_take_of_lt h1]
  · rw [if_neg h1, List.getElem?_append_right (by omega), hl]
    by_cases h2 : j < off + cs.length
    · rw [if_pos h2, List.getElem?_append_left (by omega)]
    · rw [if_neg h2, List.getElem?_append_right (by omega), List.getElem?_drop]
      congr 2
      omega
theorem moved_length (B : List Int) (pos k : Nat) (h : pos + k ≤ B.length) : (moved B pos k).length = B.length := by
  unfold moved
  exact length_splice _ _ _ (by simp; omega)
theorem grown_length (B : List Int) (bn k : Nat) (hB : B.length = bn) (hk : k ≤ bn) : (grown B bn k).length = size2 bn k := by
  unfold grown size2
  split
  · rw [length_splice _ _ _ (by simp; omega)]; simp
  · exact hB
theorem moved_get (B : List Int) (pos k j : Nat) (h : pos + k ≤ B.length) : (moved B pos k).getD j 0 = if j < k then B.getD (pos + j) 0 else B.getD j 0 := by
  unfold moved
  have hl : ((B.drop pos).take k).length = k := by simp; omega
  rw [getD_splice _ _ _ _ (by rw [hl]; omega), if_neg (by omega), hl, Nat.zero_add]
  by_cases h1 : j < k
  · rw [if_pos h1, if_pos h1, Nat.sub_zero, getD_seg B pos k j h1]
  · rw [if_neg h1, if_neg h1]
theorem grown_get (B : List Int) (bn k j : Nat) (hB : B.length = bn) (hk : k ≤ bn) : (grown B bn k).getD j 0 = if bn / 2 < k then (if j < k then B.getD j 0 else 0) else B.getD j 0 := by
  unfold grown
  by_cases hd : bn / 2 < k
  · rw [if_pos hd, if_pos hd]
    have hl : (B.take k).length = k := by simp; omega
    rw [getD_splice _ _ _ _ (by rw [hl]; simp; omega), if_neg (by omega), hl, Nat.zero_add]
    by_cases h1 : j < k
    · rw [if_pos h1, if_pos h1, Nat.sub_zero, getD_take B k j h1]
    · rw [if_neg h1, if_neg h1]
      simp [List.getD, List.getElem?_replicate]
      split <;> rfl
  · rw [if_neg hd, if_neg hd]
/-- THE BUFFER BEHIND fill, place by place. -/
theorem fill_get (B D : List Int) (pos en k bn ri m j : Nat) (hB : B.length = bn) (hk : k = en - pos) (h1 : pos ≤ en) (h2 : en ≤ bn) (hm : m = min (D.length - ri) (size2 bn k - k)) :
    (splice (grown (moved B pos k) bn k) k ((D.drop ri).take m)).getD j 0 = if j < k then B.getD (pos + j) 0 else if j < k + m then D.getD (ri + (j - k)) 0 else if bn / 2 < k then 0 else B.getD j 0 := by
  have hs : k ≤ size2 bn k := by unfold size2; split <;> omega
  have hml : (moved B pos k).length = bn := by rw [moved_length _ _ _ (by omega)]; exact hB
  have hgl := grown_length (moved B pos k) bn k hml (by omega)
  have hX : ((D.drop ri).take m).length = m := by simp; omega
  rw [getD_splice _ _ _ _ (by rw [hX, hgl]; omega), hX]
  by_cases c1 : j < k
  · rw [if_pos c1, if_pos c1, grown_get _ _ _ _ hml (by omega)]
    have e : (moved B pos k).getD j 0 = B.getD (pos + j) 0 := by rw [moved_get _ _ _ _ (by omega), if_pos c1]
    rw [e]
    simp only [c1, if_true, ite_self]
  · rw [if_neg c1, if_neg c1]
    by_cases c2 : j < k + m
    · rw [if_pos c2, if_pos c2, getD_seg D ri m _ (by omega)]
    · rw [if_neg c2, if_neg c2, grown_get _ _ _ _ hml (by omega)]
      by_cases hd : bn / 2 < k
      · rw [if_pos hd, if_pos hd, if_neg c1]
      · rw [if_neg hd, if_neg hd, moved_get _ _ _ _ (by omega), if_neg c1]
theorem fill_length (B D : List Int) (pos en k bn ri m : Nat) (hB : B.length = bn) (hk : k = en - pos) (h1 : pos ≤ en) (h2 : en ≤ bn) (hm : m = min (D.length - ri) (size2 bn k - k)) :
    (splice (grown (moved B pos k) bn k) k ((D.drop ri).take m)).length = size2 bn k := by
  have hs : k ≤ size2 bn k := by unfold size2; split <;> omega
  have hml : (moved B pos k).length = bn := by rw [moved_length _ _ _ (by omega)]; exact hB
  have hgl := grown_length (moved B pos k) bn k hml (by omega)
  rw [length_splice _ _ _ (by simp [hgl]; omega)]
  exact hgl

end Go.Proofs.Qxb6614898aDoor
