/-
  THE WALKS of strings.Cut at the colon, strings.CutPrefix at two slashes, strings.LastIndexByte at the at-sign.
-/
import Derived.Test.Qxb6614464aLower
import Derived.Lib.Bytealg
import Derived.Lib.Strings
import Derived.Lib.IndexBytes
import Derived.Deep.QuietTactic
import Derived.BigQuiet
import Derived.RegionTactic
import Derived.WalkSmall
namespace Go.Proofs.Qxb6614464a
open Go.RowKit Uri
set_option linter.unusedVariables false
set_option maxHeartbeats 1000000

/-- A string's bytes. -/
def bl (s : ByteArray) : List UInt8 := s.data.toList
theorem bl_len (s : ByteArray) : (bl s).length = s.size := rfl
theorem bl_ext {a b : ByteArray} (h : bl a = bl b) : a = b := by
  apply ByteArray.ext
  exact Array.toList_inj.1 h
theorem bl_strOf (l : List UInt8) : bl (strOf l) = l := by simp [bl, strOf]
theorem bl_append (a b : ByteArray) : bl (a ++ b) = bl a ++ bl b := by simp [bl]
theorem bl_extract (s : ByteArray) (a b : Nat) : bl (s.extract a b) = ((bl s).take b).drop a := by
  unfold bl
  rw [ByteArray.data_extract, Array.toList_extract, List.extract_eq_take_drop, List.drop_take]
theorem bl_get (s : ByteArray) (i : Nat) (h : i < s.size) : s[i] = (bl s).getD i 0 := by
  have h' : i < s.data.size := h
  show s.data[i] = _
  simp only [bl, List.getD_eq_getElem?_getD, Array.getElem?_toList, Array.getElem?_eq_getElem h', Option.getD_some]

theorem indexByte_findIdx (l : List UInt8) (c : UInt8) : Lib.indexByte l c = if l.findIdx (· == c) < l.length then (l.findIdx (· == c) : Int) else -1 := by
  induction l with
  | nil => rfl
  | cons b t ih =>
    rw [Lib.indexByte, List.findIdx_cons]
    cases hb : (b == c) with
    | true => simp
    | false =>
      simp only [cond_false, List.length_cons, ih]
      have := List.findIdx_le_length (p := (· == c)) (xs := t)
      by_cases h : t.findIdx (· == c) < t.length
      · have h1 : (((t.findIdx (· == c) : Nat) : Int) == -1) = false := by rw [beq_eq_false_iff_ne]; omega
        simp only [if_pos h, h1, if_pos (show t.findIdx (· == c) + 1 < t.length + 1 by omega)]
        simp
      · have h2 : ¬ t.findIdx (· == c) + 1 < t.length + 1 := by omega
        simp only [if_neg h, if_neg h2]
        simp

/-- internal/stringslite.IndexByte. -/
theorem indexByte_lite (s : ByteArray) (c : UInt8) (w : World) :
    Calls Try.prog 38 #[.string s, .int .u8 c.toNat] w fun e w' => e = .returned (.int .i64 (Lib.indexByte (bl s) c)) ∧ w = w' := by
  have hb : ((c.toNat : Int)).toNat.toUInt8 = c := by simp
  go_enter Try.func38, Try.ntmps38
  go_wp2
  rw [run_callFunc_extern Try.func40 (by kernel_rfl) (by kernel_rfl) (by kernel_rfl) (e := Extern.BytealgIndexByte.indexByte) (by kernel_rfl), Lib.run_indexByteString, hb]
  simp only [Result.andThen]
  rw [Oper.upon_value]
  clear hb
  go_wp2
  go_ret
  exact ⟨rfl, rfl⟩
/-- internal/stringslite.Index at a colon. -/
theorem index_colon (s : ByteArray) (w : World) (hs : s.size ≤ 2097152) :
    Calls Try.prog 32 #[.string s, .string ⟨#[58]⟩] w fun e w' => e = .returned (.int .i64 (Lib.indexByte (bl s) 58)) ∧ w = w' := by
  by_cases he : bl s = [58]
  · have h1 : ([58] == s.toList) = true := by rw [Lib.toList_data]; show ([58] == bl s) = true; rw [he]; rfl
    go_enter Try.func32, Try.ntmps32
    go_wp2
    go_ret
    exact ⟨ret_int (by rw [he]; rfl), rfl⟩
  · have h1 : ([58] == s.toList) = false := by rw [Lib.toList_data]; show ([58] == bl s) = false; rw [beq_eq_false_iff_ne]; exact fun h => he h.symm
    clear he
    go_enter Try.func32, Try.ntmps32
    go_wp2_with fail
    refine (indexByte_lite s 58 _).mono ?_
    rintro e w' ⟨rfl, rfl⟩
    go_wp2
    go_ret
    exact ⟨rfl, rfl⟩

/-- strings.Cut at a colon. -/
theorem cut_yes (s : ByteArray) (w : World) (hs : s.size ≤ 2097152) (hc : colon (bl s) < (bl s).length) :
    Calls Try.prog 20 #[.string s, .string ⟨#[58]⟩] w fun e w' => e = .returned (.tuple #[.string (s.extract 0 (colon (bl s))), .string (s.extract (colon (bl s) + 1) s.size), .bool true]) ∧ Below w.heap.size w w' := by
  have HI : Hid (Lib.indexByte (bl s) 58 = (colon (bl s) : Int)) := by show _ = _; rw [indexByte_findIdx]; exact if_pos hc
  rw [bl_len] at hc
  generalize colon (bl s) = c at *
  have h25 : Calls Try.prog 25 #[.string s, .string ⟨#[58]⟩] w fun e w' => e = .returned (.tuple #[.string (s.extract 0 c), .string (s.extract (c + 1) s.size), .bool true]) ∧ Below w.heap.size w w' := by
    go_enter Try.func25, Try.ntmps25
    go_wp2_with fail
    refine (index_colon s _ hs).mono ?_
    rintro e w' ⟨rfl, rfl⟩
    rw [HI.out]
    go_wp2
    go_quiet (fail)
    go_wp2
    go_ret3
    exact ⟨rfl, below_drewN (Below.refl _ _) _⟩
  have H : Hid _ := h25
  clear h25
  go_enter Try.func20, Try.ntmps20
  go_wp2_with fail
  refine Calls.mono H.out ?_
  rintro e w' ⟨rfl, hb⟩
  go_wp2
  go_ret3
  exact ⟨rfl, hb⟩
theorem cut_no (s : ByteArray) (w : World) (hs : s.size ≤ 2097152) (hc : ¬ colon (bl s) < (bl s).length) :
    Calls Try.prog 20 #[.string s, .string ⟨#[58]⟩] w fun e w' => e = .returned (.tuple #[.string s, .string ⟨#[]⟩, .bool false]) ∧ Below w.heap.size w w' := by
  have HI : Hid (Lib.indexByte (bl s) 58 = -1) := by show _ = _; rw [indexByte_findIdx]; exact if_neg hc
  clear hc
  have h25 : Calls Try.prog 25 #[.string s, .string ⟨#[58]⟩] w fun e w' => e = .returned (.tuple #[.string s, .string ⟨#[]⟩, .bool false]) ∧ Below w.heap.size w w' := by
    go_enter Try.func25, Try.ntmps25
    go_wp2_with fail
    refine (index_colon s _ hs).mono ?_
    rintro e w' ⟨rfl, rfl⟩
    rw [HI.out]
    go_wp2
    go_ret3
    exact ⟨rfl, Below.refl _ _⟩
  have H : Hid _ := h25
  clear h25
  go_enter Try.func20, Try.ntmps20
  go_wp2_with fail
  refine Calls.mono H.out ?_
  rintro e w' ⟨rfl, hb⟩
  go_wp2
  go_ret3
  exact ⟨rfl, hb⟩

/-- strings.CutPrefix at two slashes. -/
theorem prefix_yes (s : ByteArray) (w : World) (hs : s.size ≤ 2097152) (hp : (bl s).take 2 = [47, 47]) :
    Calls Try.prog 21 #[.string s, .string ⟨#[47, 47]⟩] w fun e w' => e = .returned (.tuple #[.string (s.extract 2 s.size), .bool true]) ∧ w = w' := by
  have h2 : 2 ≤ s.size := by have := congrArg List.length hp; rw [List.length_take, bl_len] at this; simp at this; omega
  have he : ((s.extract 0 2).toList == [47, 47]) = true := by
    rw [Lib.toList_data]
    show (bl (s.extract 0 2) == [47, 47]) = true
    rw [bl_extract, List.drop_zero, hp]
    rfl
  go_enter Try.func21, Try.ntmps21
  go_wp2
  go_ret2
  exact ⟨rfl, rfl⟩
theorem prefix_no (s : ByteArray) (w : World) (hs : s.size ≤ 2097152) (hp : ¬ (bl s).take 2 = [47, 47]) :
    Calls Try.prog 21 #[.string s, .string ⟨#[47, 47]⟩] w fun e w' => e = .returned (.tuple #[.string s, .bool false]) ∧ w = w' := by
  by_cases h2 : 2 ≤ s.size
  · have he : ((s.extract 0 2).toList == [47, 47]) = false := by
      rw [Lib.toList_data]
      show (bl (s.extract 0 2) == [47, 47]) = false
      rw [bl_extract, List.drop_zero, beq_eq_false_iff_ne]
      exact hp
    clear hp
    go_enter Try.func21, Try.ntmps21
    go_wp2
    go_ret2
    exact ⟨rfl, rfl⟩
  · clear hp
    go_enter Try.func21, Try.ntmps21
    go_wp2
    go_ret2
    exact ⟨rfl, rfl⟩

/-- strings.LastIndexByte at the at-sign. -/
theorem last31 (s : ByteArray) (w : World) (hs : s.size ≤ 2097152) :
    Calls Try.prog 31 #[.string s, .int .u8 64] w fun e w' => e = .returned (.int .i64 ((lastAt (bl s) : Int) - 1)) ∧ w = w' := by
  go_enter Try.func31, Try.ntmps31
  go_wp2
  go_loop [5] (fun i => ∃ k : Nat, k ≤ s.size ∧ i = .int .i64 ((k : Int) - 1) ∧ Hid (atFrom (bl s) k = lastAt (bl s))) (fun i => (intOf i + 1).toNat)
  case atStart => exact ⟨s.size, Nat.le_refl _, rfl, rfl⟩
  case round =>
    obtain ⟨k, hk, rfl, HL⟩ := hrel
    cases k with
    | zero =>
      go_wp2
      go_ret
      exact ⟨ret_int (by rw [← HL.out]; rfl), rfl⟩
    | succ m =>
      have hm : m < s.size := by omega
      have HG : Hid (s[m] = (bl s).getD m 0) := bl_get s m hm
      go_wp2
      · have ht : ((s[m].toNat : Int) == 64) = true := by assumption
        go_ret
        refine ⟨ret_int ?_, rfl⟩
        have h64 : (bl s).getD m 0 = 64 := by rw [← HG.out]; apply UInt8.toNat_inj.1; have := eq_of_beq ht; show s[m].toNat = 64; omega
        rw [← HL.out, atFrom, if_pos h64]
        simp
      · have ht : ((s[m].toNat : Int) == 64) = false := by assumption
        have h64 : ¬ (bl s).getD m 0 = 64 := by rw [← HG.out]; intro h; rw [h] at ht; simp at ht
        go_round
        case rel => exact ⟨m, by omega, by go_num, by show _ = _; rw [← HL.out, atFrom, if_neg h64]⟩
        case measure => simp [intOf]
theorem last_at (s : ByteArray) (w : World) (hs : s.size ≤ 2097152) :
    Calls Try.prog 24 #[.string s, .int .u8 64] w fun e w' => e = .returned (.int .i64 ((lastAt (bl s) : Int) - 1)) ∧ w = w' := by
  go_enter Try.func24, Try.ntmps24
  go_wp2_with fail
  refine (last31 s _ hs).mono ?_
  rintro e w' ⟨rfl, rfl⟩
  go_wp2
  go_ret
  exact ⟨rfl, rfl⟩
end Go.Proofs.Qxb6614464a
