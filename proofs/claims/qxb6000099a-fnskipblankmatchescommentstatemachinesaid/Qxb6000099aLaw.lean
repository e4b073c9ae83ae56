/-
  THE WALKS of ZZSkipBlank and of the law.
-/
import Derived.Test.Qxb6000099aSkip
namespace Go.Proofs.Qxb6000099a
open Go.RowKit
set_option linter.unusedVariables false
set_option maxHeartbeats 4000000
set_option maxRecDepth 1000000

/-- skipBlank at or behind the end. -/
theorem skip_end (b : Nat) (s : ByteArray) (p : Int) (w W : World) (hp : (s.size : Int) ≤ p) (hL : Ls b w W s p) :
    Calls Try.prog 9 #[.pointer (some ⟨b, 0, none⟩)] W fun e w' => e = .returned (.tuple #[]) ∧ Ls b w w' s p := by
  have HL : Hid _ := hL
  have c0 := hL.c0
  have c1 := hL.c1
  clear hL
  go_enter Try.func9, Try.ntmps9
  go_wp2
  go_loopg [2] 0 (fun g _ wr => wr = W)
  case atStart => rfl
  case round =>
    subst hrel
    go_wp2_with fail
    go_quiet (fail)
    go_wp2
    go_end0
    exact ⟨rfl, HL.out.drewN _⟩
theorem zz_of (s : ByteArray) (p q : Int) (w : World)
    (hC : ∀ b W, Ls b w W s p → Calls Try.prog 9 #[.pointer (some ⟨b, 0, none⟩)] W fun e w' => e = .returned (.tuple #[]) ∧ Ls b w w' s q) :
    Calls Try.prog 6 #[.string s, .int .i64 p] w fun e w' => e = .returned (.int .i64 q) ∧ Grown w w' := by
  have HC : Hid _ := hC
  clear hC
  go_enter Try.func6, Try.ntmps6
  go_wp2_with fail
  have hL : Ls w.heap.size w (w.alloc (.cells #[.string s, .int .i64 p, .slice none 0 0, .pointer none, .map none] 29)) s p := by
    refine ⟨(Grown.refl w).alloc _ _, Nat.le_refl _, ?_, ?_, ?_⟩
    all_goals go_simp
  refine (HC.out _ _ hL).mono ?_
  clear hL
  rintro e w' ⟨rfl, hL⟩
  have hg : Hid _ := hL.gro
  have c1 := hL.c1
  clear hL
  go_wp2
  go_ret
  exact ⟨rfl, hg⟩
theorem guard_yes (s : ByteArray) (p : Int) (w : World) (hs : s.size ≤ 1048576) :
    Calls Try.prog 5 #[.string s, .int .i64 p] w fun e w' => e = .returned (.bool true) ∧ w = w' := by
  go_enter Try.func5, Try.ntmps5
  go_wp2
  go_ret
  exact ⟨rfl, rfl⟩
theorem guard_no (s : ByteArray) (p : Int) (w : World) (hs : 1048576 < s.size) :
    Calls Try.prog 5 #[.string s, .int .i64 p] w fun e w' => e = .returned (.bool false) ∧ w = w' := by
  go_enter Try.func5, Try.ntmps5
  go_wp2
  go_ret
  exact ⟨rfl, rfl⟩
/-- THE LAW, ahead of the end. -/
theorem law_of (s : ByteArray) (p q : Int) (w : World) (hs : s.size ≤ 1048576) (hp : 0 ≤ p)
    (h6 : Calls Try.prog 6 #[.string s, .int .i64 p] w fun e w' => e = .returned (.int .i64 q) ∧ Grown w w')
    (h7 : ∀ w', Calls Try.prog 7 #[.string s, .int .i64 p] w' fun e w'' => e = .returned (.int .i64 q) ∧ w' = w'') :
    Calls Try.prog 3 #[.string s, .int .i64 p] w fun e w' => e = .returned (.bool true) ∧ Grown w w' := by
  have H5 : Hid _ := guard_yes s p w hs
  have H6 : Hid _ := h6
  have H7 : Hid _ := h7
  clear h6 h7
  go_enter Try.func3, Try.ntmps3
  go_wp2_with (go_at_call 5; refine (Calls.mono H5.out ?_); rintro e w' ⟨rfl, rfl⟩)
  refine (Calls.mono H6.out ?_)
  rintro e w' ⟨rfl, hg⟩
  have HG : Hid _ := hg
  clear hg
  go_wp2_with (go_at_call 7; refine (Calls.mono (H7.out _) ?_); rintro e w'' ⟨rfl, rfl⟩)
  go_ret
  exact ⟨by simp, HG.out⟩
theorem law_big (s : ByteArray) (p : Int) (w : World) (hs : 1048576 < s.size) :
    Calls Try.prog 3 #[.string s, .int .i64 p] w fun e w' => e = .returned (.bool true) ∧ Grown w w' := by
  have H5 : Hid _ := guard_no s p w hs
  go_enter Try.func3, Try.ntmps3
  go_wp2_with (go_at_call 5; refine (Calls.mono H5.out ?_); rintro e w' ⟨rfl, rfl⟩)
  go_ret
  exact ⟨rfl, Grown.refl _⟩
theorem law_neg (s : ByteArray) (p : Int) (w : World) (hs : s.size ≤ 1048576) (hp : p < 0) :
    Calls Try.prog 3 #[.string s, .int .i64 p] w fun e w' => e = .returned (.bool true) ∧ Grown w w' := by
  have H5 : Hid _ := guard_yes s p w hs
  go_enter Try.func3, Try.ntmps3
  go_wp2_with (go_at_call 5; refine (Calls.mono H5.out ?_); rintro e w' ⟨rfl, rfl⟩)
  go_ret
  exact ⟨rfl, Grown.refl _⟩
/-- THE LAW, whatever the input. -/
theorem law_all (s : ByteArray) (p : Int) (w : World) :
    Calls Try.prog 3 #[.string s, .int .i64 p] w fun e w' => e = .returned (.bool true) ∧ Grown w w' := by
  by_cases hs : s.size ≤ 1048576
  · by_cases hp : p < 0
    · exact law_neg s p w hs hp
    · by_cases he : p < s.size
      · obtain ⟨k, rfl⟩ := Int.eq_ofNat_of_zero_le (show 0 ≤ p by omega)
        exact law_of s k _ w hs (by omega) (zz_of s k _ w (fun b W hL => skip_at b s k w W hs (by omega) hL)) (fun w' => model_at s k w' hs (by omega))
      · exact law_of s p p w hs (by omega) (zz_of s p p w (fun b W hL => skip_end b s p w W (by omega) hL)) (fun w' => model_end s p w' (by omega))
  · exact law_big s p w (by omega)
end Go.Proofs.Qxb6000099a
