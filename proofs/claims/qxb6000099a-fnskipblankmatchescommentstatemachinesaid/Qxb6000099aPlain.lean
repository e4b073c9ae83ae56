/-
  THE COMMENT STATE MACHINE ON A LIST OF BYTES (no Go in sight).
-/
import Derived.Test.Qxb6000099aRows
import Derived.Lib.Bytealg
namespace Go.Proofs.Qxb6000099a
set_option linter.unusedVariables false

/-- A string's bytes, as numbers. -/
def il (s : ByteArray) : List Int := s.data.toList.map (fun b => (b.toNat : Int))
theorem il_len (s : ByteArray) : (il s).length = s.size := by unfold il; rw [List.length_map]; rfl
def blank (x : Int) : Bool := x == 32 || x == 9 || x == 13 || x == 10
/-- How many bytes are skipped; c: inside a comment. -/
def md : List Int → Bool → Nat
  | [], _ => 0
  | x :: r, true => 1 + md r (x != 10)
  | x :: r, false => if blank x then 1 + md r false else if x == 35 then 1 + md r true else 0
theorem md_le (l : List Int) (c : Bool) : md l c ≤ l.length := by
  induction l generalizing c with
  | nil => simp [md]
  | cons x r ih =>
    cases c with
    | true => rw [md]; have := ih (x != 10); simp; omega
    | false =>
      rw [md]
      have h1 := ih false
      have h2 := ih true
      split
      · simp; omega
      · split
        · simp; omega
        · omega
theorem md_at_true (l : List Int) (i : Nat) (h : i < l.length) : md (l.drop i) true = 1 + md (l.drop (i + 1)) (l.getD i 0 != 10) := by
  rw [List.drop_eq_getElem_cons h, md]
  simp [List.getD, h]
theorem md_at_false (l : List Int) (i : Nat) (h : i < l.length) : md (l.drop i) false = if blank (l.getD i 0) then 1 + md (l.drop (i + 1)) false else if l.getD i 0 == 35 then 1 + md (l.drop (i + 1)) true else 0 := by
  rw [List.drop_eq_getElem_cons h, md]
  simp [List.getD, h]
theorem md_comment (r : List Int) : md r true = if r.findIdx (· == 10) < r.length then r.findIdx (· == 10) + md (r.drop (r.findIdx (· == 10))) false else r.length := by
  induction r with
  | nil => simp [md]
  | cons x r ih =>
    rw [md, List.findIdx_cons]
    cases hx : (x == 10) with
    | true =>
      have e : x = 10 := by simpa using hx
      subst e
      simp [md, blank]
    | false =>
      have e : (x != 10) = true := by simp [bne, hx]
      rw [e, ih]
      simp only [cond_false, List.length_cons, List.drop_succ_cons]
      by_cases h : r.findIdx (· == 10) < r.length
      · rw [if_pos h, if_pos (by omega)]; omega
      · rw [if_neg h, if_neg (by omega)]; omega
/-- At a '#': on to the newline, or to the end. -/
theorem md_hash (l : List Int) (i : Nat) (h : i < l.length) (h35 : l.getD i 0 = 35) : md (l.drop i) false = if (l.drop i).findIdx (· == 10) < (l.drop i).length then (l.drop i).findIdx (· == 10) + md (l.drop (i + (l.drop i).findIdx (· == 10))) false else l.length - i := by
  rw [md_at_false l i h, h35]
  have hb : blank 35 = false := by decide
  rw [hb]
  simp only [beq_self_eq_true, if_true, Bool.false_eq_true, if_false]
  rw [md_comment]
  have hc : l.drop i = 35 :: l.drop (i + 1) := by
    rw [List.drop_eq_getElem_cons h]
    congr 1
    have : l.getD i 0 = l[i] := by simp [List.getD, h]
    rw [← this, h35]
  have hf : (l.drop i).findIdx (· == 10) = (l.drop (i + 1)).findIdx (· == 10) + 1 := by
    rw [hc, List.findIdx_cons]
    rfl
  have hl : (l.drop i).length = (l.drop (i + 1)).length + 1 := by rw [hc]; rfl
  rw [hf, hl]
  by_cases hq : (l.drop (i + 1)).findIdx (· == 10) < (l.drop (i + 1)).length
  · rw [if_pos hq, if_pos (by omega), List.drop_drop]
    rw [show i + ((l.drop (i + 1)).findIdx (· == 10) + 1) = i + 1 + (l.drop (i + 1)).findIdx (· == 10) by omega]
    omega
  · rw [if_neg hq, if_neg (by omega)]
    simp
    omega
/-- strings.IndexByte at a newline, in these words. -/
theorem index10 (l : List UInt8) : Lib.indexByte l 10 = if (l.map (fun b => (b.toNat : Int))).findIdx (· == 10) < l.length then (((l.map (fun b => (b.toNat : Int))).findIdx (· == 10) : Nat) : Int) else -1 := by
  induction l with
  | nil => rfl
  | cons b t ih =>
    rw [Lib.indexByte, List.map_cons, List.findIdx_cons]
    have hb : (b == 10) = (((b.toNat : Int)) == 10) := by
      rw [Bool.eq_iff_iff]
      simp only [beq_iff_eq]
      constructor
      · intro h; rw [h]; rfl
      · intro h
        apply UInt8.toNat_inj.1
        have : b.toNat = 10 := by omega
        rw [this]; rfl
    rw [← hb]
    cases hb2 : (b == 10) with
    | true => simp
    | false =>
      simp only [cond_false, List.length_cons, ih]
      by_cases h : (t.map (fun b => (b.toNat : Int))).findIdx (· == 10) < t.length
      · have h1 : ((((t.map (fun b => (b.toNat : Int))).findIdx (· == 10) : Nat) : Int) == -1) = false := by rw [beq_eq_false_iff_ne]; omega
        simp only [if_pos h, h1, if_pos (show (t.map (fun b => (b.toNat : Int))).findIdx (· == 10) + 1 < t.length + 1 by omega)]
        simp
      · have h2 : ¬ (t.map (fun b => (b.toNat : Int))).findIdx (· == 10) + 1 < t.length + 1 := by omega
        simp only [if_neg h, if_neg h2]
        simp
end Go.Proofs.Qxb6000099a
