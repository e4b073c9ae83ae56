/-
  FnDefinitionsKeyKeepsEarlierIdsAndReadsAnAddedOne: THE WAYS ON WHICH NOTHING IS ASKED.
-/
import Derived.Test.Qxb6614898aDoorAt
namespace Go.Proofs.Qxb6614898aDoor
open Go.RowKit
set_option linter.unusedVariables false
set_option maxHeartbeats 4000000
set_option maxRecDepth 1000000

theorem bytes6_ok (a0 a1 a2 a3 : Option Addr) (n0 c0 n1 c1 n2 c2 n3 c3 : Nat) (w : World) (hs : n0 + n1 + n2 + n3 ≤ 1048576) :
    Calls Tryd.prog 6 #[.slice a0 n0 c0, .slice a1 n1 c1, .slice a2 n2 c2, .slice a3 n3 c3] w fun e w' => e = .returned (.bool true) ∧ w = w' := by
  go_enter Tryd.func6, Tryd.ntmps6
  go_wp2
  go_ret
  exact ⟨rfl, rfl⟩
theorem bytes6_no (a0 a1 a2 a3 : Option Addr) (n0 c0 n1 c1 n2 c2 n3 c3 : Nat) (w : World) (h0 : n0 ≤ maxLen) (h1 : n1 ≤ maxLen) (h2 : n2 ≤ maxLen) (h3 : n3 ≤ maxLen) (hs : 1048576 < n0 + n1 + n2 + n3) :
    Calls Tryd.prog 6 #[.slice a0 n0 c0, .slice a1 n1 c1, .slice a2 n2 c2, .slice a3 n3 c3] w fun e w' => e = .returned (.bool false) ∧ w = w' := by
  unfold maxLen at h0 h1 h2 h3
  rcases (show 1048576 < n0 ∨ (n0 ≤ 1048576 ∧ 1048576 < n1) ∨ (n0 ≤ 1048576 ∧ n1 ≤ 1048576 ∧ 1048576 < n0 + n1) ∨ (n0 + n1 ≤ 1048576 ∧ 1048576 < n2) ∨ (n0 + n1 ≤ 1048576 ∧ n2 ≤ 1048576 ∧ 1048576 < n0 + n1 + n2) ∨ (n0 + n1 + n2 ≤ 1048576 ∧ 1048576 < n3) ∨ (n0 + n1 + n2 ≤ 1048576 ∧ n3 ≤ 1048576 ∧ 1048576 < n0 + n1 + n2 + n3) by omega) with g1 | ⟨g1, g2⟩ | ⟨g1, g2, g3⟩ | ⟨g1, g2⟩ | ⟨g1, g2, g3⟩ | ⟨g1, g2⟩ | ⟨g1, g2, g3⟩
  all_goals
    go_enter Tryd.func6, Tryd.ntmps6
    go_wp2
    go_ret
    exact ⟨rfl, rfl⟩

theorem def_long (a0 a1 a2 a3 : Option Addr) (n0 c0 n1 c1 n2 c2 n3 c3 : Nat) (w : World) (h0 : n0 ≤ maxLen) (h1 : n1 ≤ maxLen) (h2 : n2 ≤ maxLen) (h3 : n3 ≤ maxLen) (hs : 1048576 < n0 + n1 + n2 + n3) :
    Calls Tryd.prog 3 #[.slice a0 n0 c0, .slice a1 n1 c1, .slice a2 n2 c2, .slice a3 n3 c3] w fun e w' => e = .returned (.bool true) ∧ Below w.heap.size w w' := by
  go_enter Tryd.func3, Tryd.ntmps3
  go_wp2_with (go_at_call 6; refine (bytes6_no _ _ _ _ _ _ _ _ _ _ _ _ _ h0 h1 h2 h3 hs).mono ?_; rintro e w' ⟨rfl, rfl⟩)
  go_ret
  exact ⟨rfl, Below.refl _ _⟩
theorem def_each (a0 a1 a2 a3 : Option Addr) (n0 c0 n1 c1 n2 c2 n3 c3 : Nat) (w : World) (hs : n0 + n1 + n2 + n3 ≤ 1048576) (hx : 262144 < n0 ∨ 32768 < n1 ∨ 262144 < n2 ∨ 262144 < n3) :
    Calls Tryd.prog 3 #[.slice a0 n0 c0, .slice a1 n1 c1, .slice a2 n2 c2, .slice a3 n3 c3] w fun e w' => e = .returned (.bool true) ∧ Below w.heap.size w w' := by
  rcases (show 262144 < n0 ∨ (n0 ≤ 262144 ∧ 32768 < n1) ∨ (n0 ≤ 262144 ∧ n1 ≤ 32768 ∧ 262144 < n2) ∨ (n0 ≤ 262144 ∧ n1 ≤ 32768 ∧ n2 ≤ 262144 ∧ 262144 < n3) by omega) with g1 | ⟨g1, g2⟩ | ⟨g1, g2, g3⟩ | ⟨g1, g2, g3, g4⟩
  all_goals
    clear hx
    go_enter Tryd.func3, Tryd.ntmps3
    go_wp2_with (go_at_call 6; refine (bytes6_ok _ _ _ _ _ _ _ _ _ _ _ _ _ hs).mono ?_; rintro e w' ⟨rfl, rfl⟩)
    go_ret
    exact ⟨rfl, Below.refl _ _⟩
theorem def_ends (a0 a1 a2 a3 : Option Addr) (n0 c0 n1 c1 n2 c2 n3 c3 : Nat) (es : List Int) (w : World) (g0 : n0 ≤ 262144) (g1 : n1 ≤ 32768) (g2 : n2 ≤ 262144) (g3 : n3 ≤ 262144) (hE : Sl .i64 w a1 n1 es) (hv : validFrom n0 0 es = false) :
    Calls Tryd.prog 3 #[.slice a0 n0 c0, .slice a1 n1 c1, .slice a2 n2 c2, .slice a3 n3 c3] w fun e w' => e = .returned (.bool true) ∧ Below w.heap.size w w' := by
  have HV : Hid _ := valid_any a1 n1 c1 es n0 w (by omega) hE
  rw [hv] at HV
  clear hE hv
  go_enter Tryd.func3, Tryd.ntmps3
  go_wp2_with (first | (go_at_call 6; refine (bytes6_ok _ _ _ _ _ _ _ _ _ _ _ _ _ (by omega)).mono ?_; rintro e w' ⟨rfl, rfl⟩) | (go_at_call 7; refine (Calls.mono HV.out ?_); rintro e w' ⟨rfl, rfl⟩))
  go_ret
  exact ⟨rfl, Below.refl _ _⟩
theorem def_last (a0 a1 a2 a3 : Option Addr) (n0 c0 n1 c1 n2 c2 n3 c3 : Nat) (es : List Int) (w : World) (g0 : n0 ≤ 262144) (g1 : n1 ≤ 32768) (g2 : n2 ≤ 262144) (g3 : n3 ≤ 262144) (hE : Sl .i64 w a1 n1 es) (hv : validFrom n0 0 es = true)
    (hx : (0 < n1 ∧ es.getD (n1 - 1) 0 ≠ n0) ∨ (n1 = 0 ∧ n0 ≠ 0)) :
    Calls Tryd.prog 3 #[.slice a0 n0 c0, .slice a1 n1 c1, .slice a2 n2 c2, .slice a3 n3 c3] w fun e w' => e = .returned (.bool true) ∧ Below w.heap.size w w' := by
  have HV : Hid _ := valid_any a1 n1 c1 es n0 w (by omega) hE
  rw [hv] at HV
  rcases hx with ⟨hp, hne⟩ | ⟨rfl, hne⟩
  · obtain ⟨b, o, rfl, _, hc⟩ := hE.2 hp
    have hl := hc (n1 - 1) (by omega)
    have ht : (es.getD (n1 - 1) 0 != (n0 : Int)) = true := bne_iff_ne.2 hne
    clear hE hv hc hne
    generalize es.getD (n1 - 1) 0 = x at *
    go_enter Tryd.func3, Tryd.ntmps3
    go_wp2_with (first | (go_at_call 6; refine (bytes6_ok _ _ _ _ _ _ _ _ _ _ _ _ _ (by omega)).mono ?_; rintro e w' ⟨rfl, rfl⟩) | (go_at_call 7; refine (Calls.mono HV.out ?_); rintro e w' ⟨rfl, rfl⟩))
    go_ret
    exact ⟨rfl, Below.refl _ _⟩
  · have ht : ((n0 : Int) != 0) = true := by rw [bne_iff_ne]; omega
    clear hE hv hne
    go_enter Tryd.func3, Tryd.ntmps3
    go_wp2_with (first | (go_at_call 6; refine (bytes6_ok _ _ _ _ _ _ _ _ _ _ _ _ _ (by omega)).mono ?_; rintro e w' ⟨rfl, rfl⟩) | (go_at_call 7; refine (Calls.mono HV.out ?_); rintro e w' ⟨rfl, rfl⟩))
    go_ret
    exact ⟨rfl, Below.refl _ _⟩
theorem def_zero (a0 a1 a2 a3 : Option Addr) (n0 c0 n1 c1 n2 c2 n3 c3 : Nat) (es ids : List Int) (w : World) (g0 : n0 ≤ 262144) (g1 : n1 ≤ 32768) (g2 : n2 ≤ 262144) (g3 : n3 ≤ 262144) (hE : Sl .i64 w a1 n1 es) (hv : validFrom n0 0 es = true)
    (hI : Sl .u8 w a2 n2 ids) (hz : hasZ ids = true) (hlast : (0 < n1 ∧ es.getD (n1 - 1) 0 = n0) ∨ (n1 = 0 ∧ n0 = 0)) :
    Calls Tryd.prog 3 #[.slice a0 n0 c0, .slice a1 n1 c1, .slice a2 n2 c2, .slice a3 n3 c3] w fun e w' => e = .returned (.bool true) ∧ Below w.heap.size w w' := by
  have HV : Hid _ := valid_any a1 n1 c1 es n0 w (by omega) hE
  rw [hv] at HV
  have HZ : Hid _ := hasz_any a2 n2 c2 ids w (by omega) hI
  rw [hz] at HZ
  clear hI hz
  rcases hlast with ⟨hp, hl⟩ | ⟨rfl, hl⟩
  · obtain ⟨b, o, rfl, _, hc⟩ := hE.2 hp
    have hcl := hc (n1 - 1) (by omega)
    rw [hl] at hcl
    have hne : ((n1 : Int) == 0) = false := by rw [beq_eq_false_iff_ne]; omega
    clear hE hv hc hl
    go_enter Tryd.func3, Tryd.ntmps3
    go_wp2_with (first | (go_at_call 6; refine (bytes6_ok _ _ _ _ _ _ _ _ _ _ _ _ _ (by omega)).mono ?_; rintro e w' ⟨rfl, rfl⟩) | (go_at_call 7; refine (Calls.mono HV.out ?_); rintro e w' ⟨rfl, rfl⟩) | (go_at_call 8; refine (Calls.mono HZ.out ?_); rintro e w' ⟨rfl, rfl⟩))
    go_ret
    exact ⟨rfl, Below.refl _ _⟩
  · obtain rfl : n0 = 0 := hl
    clear hE hv
    go_enter Tryd.func3, Tryd.ntmps3
    go_wp2_with (first | (go_at_call 6; refine (bytes6_ok _ _ _ _ _ _ _ _ _ _ _ _ _ (by omega)).mono ?_; rintro e w' ⟨rfl, rfl⟩) | (go_at_call 7; refine (Calls.mono HV.out ?_); rintro e w' ⟨rfl, rfl⟩) | (go_at_call 8; refine (Calls.mono HZ.out ?_); rintro e w' ⟨rfl, rfl⟩))
    go_ret
    exact ⟨rfl, Below.refl _ _⟩
end Go.Proofs.Qxb6614898aDoor
