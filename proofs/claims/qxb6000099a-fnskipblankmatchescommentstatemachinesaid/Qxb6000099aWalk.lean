/-
  THE WALKS of skipBlankModel, skipBlank, ZZSkipBlank.
-/
import Derived.Test.Qxb6000099aPlain
import Derived.WalkKit
import Derived.WalkSpells
import Derived.Lib.Strings
import Derived.Lib.IndexBytes
import Derived.Deep.QuietTactic
import Derived.BigQuiet
import Derived.WalkSmall
import Derived.OwnWalk
namespace Go.Proofs.Qxb6000099a
open Go.RowKit
set_option linter.unusedVariables false
set_option maxHeartbeats 4000000
set_option maxRecDepth 1000000

theorem il_get (s : ByteArray) (k : Nat) (h : k < s.size) : (il s).getD k 0 = (s[k].toNat : Int) := by
  have h' : k < s.data.size := h
  unfold il
  rw [List.getD_eq_getElem?_getD, List.getElem?_map, Array.getElem?_toList, Array.getElem?_eq_getElem h']
  rfl
/-- skipBlankModel ahead of the end. -/
theorem model_at (s : ByteArray) (p : Nat) (w : World) (hs : s.size ≤ 1048576) (hp : p < s.size) :
    Calls Try.prog 7 #[.string s, .int .i64 p] w fun e w' => e = .returned (.int .i64 (p + md ((il s).drop p) false : Nat)) ∧ w = w' := by
  obtain ⟨V, hV⟩ : ∃ V, V = p + md ((il s).drop p) false := ⟨_, rfl⟩
  have HV : Hid _ := hV
  rw [← hV]
  clear hV
  go_enter Try.func7, Try.ntmps7
  go_wp2
  go_loop [5, 6] (fun c i => ∃ (k : Nat) (b : Bool), k ≤ s.size ∧ i = .int .i64 k ∧ c = .bool b ∧ Hid (V = k + md ((il s).drop k) b)) (fun _ i => s.size - (intOf i).toNat)
  case atStart => exact ⟨p, false, by omega, rfl, rfl, HV⟩
  case round =>
    obtain ⟨k, b, hk, rfl, rfl, HR⟩ := hrel
    by_cases hlt : k < s.size
    · have hl := il_len s
      have hg := il_get s k hlt
      cases b with
      | true =>
        have HT : Hid _ := md_at_true (il s) k (by omega)
        rw [hg] at HT
        clear hg hl
        go_wp2
        · have ht : ((s[k].toNat : Int) == 10) = true := by assumption
          go_round
          case rel => exact ⟨k + 1, false, by omega, by go_num, rfl, by show _ = _; rw [HR.out, HT.out, bne, ht, Bool.not_true]; omega⟩
          case measure => simp [intOf]; omega
        · have ht : ((s[k].toNat : Int) == 10) = false := by assumption
          go_round
          case rel => exact ⟨k + 1, true, by omega, by go_num, rfl, by show _ = _; rw [HR.out, HT.out, bne, ht, Bool.not_false]; omega⟩
          case measure => simp [intOf]; omega
      | false =>
        have HT : Hid _ := md_at_false (il s) k (by omega)
        rw [hg] at HT
        clear hg hl
        cases hb : blank (s[k].toNat : Int) with
        | true =>
          have HT2 : Hid (V = (k + 1) + md ((il s).drop (k + 1)) false) := by
            show _ = _
            rw [HR.out, HT.out, if_pos hb]
            omega
          have hor : ((s[k].toNat : Int) == 32) = true ∨ ((s[k].toNat : Int) == 32) = false ∧ ((s[k].toNat : Int) == 9) = true ∨ ((s[k].toNat : Int) == 32) = false ∧ ((s[k].toNat : Int) == 9) = false ∧ ((s[k].toNat : Int) == 13) = true ∨ ((s[k].toNat : Int) == 32) = false ∧ ((s[k].toNat : Int) == 9) = false ∧ ((s[k].toNat : Int) == 13) = false ∧ ((s[k].toNat : Int) == 10) = true := by
            unfold blank at hb
            revert hb
            cases ((s[k].toNat : Int) == 32) <;> cases ((s[k].toNat : Int) == 9) <;> cases ((s[k].toNat : Int) == 13) <;> cases ((s[k].toNat : Int) == 10) <;> simp
          clear hb HT HR
          rcases hor with t1 | ⟨t1, t2⟩ | ⟨t1, t2, t3⟩ | ⟨t1, t2, t3, t4⟩
          all_goals
            go_wp2
            go_round
            case rel => exact ⟨k + 1, false, by omega, by go_num, rfl, HT2⟩
            case measure => simp [intOf]; omega
        | false =>
          have hand : ((s[k].toNat : Int) == 32) = false ∧ ((s[k].toNat : Int) == 9) = false ∧ ((s[k].toNat : Int) == 13) = false ∧ ((s[k].toNat : Int) == 10) = false := by
            unfold blank at hb
            revert hb
            cases ((s[k].toNat : Int) == 32) <;> cases ((s[k].toNat : Int) == 9) <;> cases ((s[k].toNat : Int) == 13) <;> cases ((s[k].toNat : Int) == 10) <;> simp
          obtain ⟨t1, t2, t3, t4⟩ := hand
          cases h35 : ((s[k].toNat : Int) == 35) with
          | true =>
            have HT2 : Hid (V = (k + 1) + md ((il s).drop (k + 1)) true) := by
              show _ = _
              rw [HR.out, HT.out, if_neg (by rw [hb]; decide), if_pos h35]
              omega
            clear hb HT HR
            go_wp2
            go_round
            case rel => exact ⟨k + 1, true, by omega, by go_num, rfl, HT2⟩
            case measure => simp [intOf]; omega
          | false =>
            have e : V = k := by rw [HR.out, HT.out, if_neg (by rw [hb]; decide), if_neg (by rw [h35]; decide)]; omega
            have He : Hid _ := e
            clear hb HT HR e
            go_wp2
            go_ret
            exact ⟨congrArg (fun x : Nat => Ending.returned (.int .i64 (x : Int))) He.out.symm, rfl⟩
    · obtain rfl : k = s.size := by omega
      go_wp2
      go_ret
      have hl := il_len s
      have e : V = s.size := by rw [HR.out, List.drop_eq_nil_of_le (by omega)]; simp [md]
      exact ⟨congrArg (fun x : Nat => Ending.returned (.int .i64 (x : Int))) e.symm, rfl⟩
/-- skipBlankModel at or behind the end. -/
theorem model_end (s : ByteArray) (p : Int) (w : World) (hp : (s.size : Int) ≤ p) :
    Calls Try.prog 7 #[.string s, .int .i64 p] w fun e w' => e = .returned (.int .i64 p) ∧ w = w' := by
  go_enter Try.func7, Try.ntmps7
  go_wp2
  go_ret
  exact ⟨rfl, rfl⟩
theorem lite (s : ByteArray) (w : World) :
    Calls Try.prog 11 #[.string s, .int .u8 10] w fun e w' => e = .returned (.int .i64 (Lib.indexByte s.data.toList 10)) ∧ w = w' := by
  have hb : ((10 : Int)).toNat.toUInt8 = 10 := by decide
  go_enter Try.func11, Try.ntmps11
  go_wp2
  rw [run_callFunc_extern Try.func12 (by kernel_rfl) (by kernel_rfl) (by kernel_rfl) (e := Extern.BytealgIndexByte.indexByte) (by kernel_rfl), Lib.run_indexByteString, hb]
  simp only [Result.andThen]
  rw [Oper.upon_value]
  clear hb
  go_wp2
  go_ret
  exact ⟨rfl, rfl⟩
theorem index (s : ByteArray) (v : Int) (hv : v = Lib.indexByte s.data.toList 10) (w : World) :
    Calls Try.prog 10 #[.string s, .int .u8 10] w fun e w' => e = .returned (.int .i64 v) ∧ w = w' := by
  have HC : Hid _ := lite s w
  rw [← hv] at HC
  clear hv
  go_enter Try.func10, Try.ntmps10
  go_wp2_with (go_at_call 11; refine (Calls.mono HC.out ?_); rintro e w' ⟨rfl, rfl⟩)
  go_ret
  exact ⟨rfl, rfl⟩
end Go.Proofs.Qxb6000099a
