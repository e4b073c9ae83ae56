/-
  THE WALK OF FnPositionLineAhead, first part: zzLineStartCol, zzBytes, the ways on which nothing is asked, and the row that the law appends to.
-/
import Derived.Test.Qxb6609011aCut
namespace Go.Proofs.Qxb6609011a
open Go.RowKit Pos
set_option linter.unusedVariables false
set_option maxHeartbeats 1000000

/-- WHERE A COLUMN BEGINS: the last 'col' bytes hold no newline; ahead of them stands one, or nothing. -/
theorem col_spec (l : List Int) (m : Nat) (h : m ≤ l.length) : col (l.take m) ≤ m ∧ (∀ j, m - col (l.take m) ≤ j → j < m → l.getD j 0 ≠ 10) ∧ (col (l.take m) < m → l.getD (m - col (l.take m) - 1) 0 = 10) := by
  induction m with
  | zero => exact ⟨by simp [col, colFrom], fun j h1 h2 => by omega, fun h => by omega⟩
  | succ m ih =>
    obtain ⟨i1, i2, i3⟩ := ih (by omega)
    rw [col_take_snoc l m (by omega)]
    by_cases hx : l.getD m 0 = 10
    · rw [if_pos hx]
      exact ⟨by omega, fun j h1 h2 => by omega, fun _ => by simpa using hx⟩
    · rw [if_neg hx]
      refine ⟨by omega, fun j h1 h2 => ?_, fun h => ?_⟩
      · by_cases hj : j = m
        · rw [hj]; exact hx
        · exact i2 j (by omega) (by omega)
      · have := i3 (by omega)
        rwa [show m + 1 - (col (l.take m) + 1) - 1 = m - col (l.take m) - 1 from by omega]

theorem bytes9_ok (a0 a1 a2 : Option Addr) (n c nh ch nt ct : Nat) (x : Int) (w : World) (hs : n + nh + nt ≤ 1048576) :
    Calls Try.prog 9 #[.slice a0 n c, .int .i64 x, .slice a1 nh ch, .slice a2 nt ct] w fun e w' => e = .returned (.bool true) ∧ w = w' := by
  go_enter Try.func9, Try.ntmps9
  go_wp2
  go_ret
  exact ⟨rfl, rfl⟩
theorem bytes9_no (a0 a1 a2 : Option Addr) (n c nh ch nt ct : Nat) (x : Int) (w : World) (h0 : n ≤ maxLen) (h1 : nh ≤ maxLen) (h2 : nt ≤ maxLen) (hs : 1048576 < n + nh + nt) :
    Calls Try.prog 9 #[.slice a0 n c, .int .i64 x, .slice a1 nh ch, .slice a2 nt ct] w fun e w' => e = .returned (.bool false) ∧ w = w' := by
  unfold maxLen at h0 h1 h2
  by_cases c0 : 1048576 < n
  · go_enter Try.func9, Try.ntmps9
    go_wp2
    go_ret
    exact ⟨rfl, rfl⟩
  by_cases c1 : 1048576 < nh
  · go_enter Try.func9, Try.ntmps9
    go_wp2
    go_ret
    exact ⟨rfl, rfl⟩
  by_cases c2 : 1048576 < n + nh
  · go_enter Try.func9, Try.ntmps9
    go_wp2
    go_ret
    exact ⟨rfl, rfl⟩
  by_cases c3 : 1048576 < nt
  · go_enter Try.func9, Try.ntmps9
    go_wp2
    go_ret
    exact ⟨rfl, rfl⟩
  · go_enter Try.func9, Try.ntmps9
    go_wp2
    go_ret
    exact ⟨rfl, rfl⟩

theorem ahead_long (a0 a1 a2 : Option Addr) (n c nh ch nt ct : Nat) (x : Int) (w : World) (h0 : n ≤ maxLen) (h1 : nh ≤ maxLen) (h2 : nt ≤ maxLen) (hs : 1048576 < n + nh + nt) :
    Calls Try.prog 4 #[.slice a0 n c, .int .i64 x, .slice a1 nh ch, .slice a2 nt ct] w fun e w' => e = .returned (.bool true) ∧ Below w.heap.size w w' := by
  go_enter Try.func4, Try.ntmps4
  go_wp2_with (go_at_call 9; refine (bytes9_no _ _ _ _ _ _ _ _ _ _ _ h0 h1 h2 hs).mono ?_; rintro e w' ⟨rfl, rfl⟩)
  go_ret
  exact ⟨rfl, Below.refl _ _⟩
theorem ahead_each (a0 a1 a2 : Option Addr) (n c nh ch nt ct : Nat) (x : Int) (w : World) (hs : n + nh + nt ≤ 1048576) (hx : 262144 < n ∨ 262144 < nh ∨ 262144 < nt) :
    Calls Try.prog 4 #[.slice a0 n c, .int .i64 x, .slice a1 nh ch, .slice a2 nt ct] w fun e w' => e = .returned (.bool true) ∧ Below w.heap.size w w' := by
  by_cases c0 : 262144 < n
  · go_enter Try.func4, Try.ntmps4
    go_wp2_with (go_at_call 9; refine (bytes9_ok _ _ _ _ _ _ _ _ _ _ _ hs).mono ?_; rintro e w' ⟨rfl, rfl⟩)
    go_ret
    exact ⟨rfl, Below.refl _ _⟩
  by_cases c1 : 262144 < nh
  · go_enter Try.func4, Try.ntmps4
    go_wp2_with (go_at_call 9; refine (bytes9_ok _ _ _ _ _ _ _ _ _ _ _ hs).mono ?_; rintro e w' ⟨rfl, rfl⟩)
    go_ret
    exact ⟨rfl, Below.refl _ _⟩
  · have c2 : 262144 < nt := by omega
    go_enter Try.func4, Try.ntmps4
    go_wp2_with (go_at_call 9; refine (bytes9_ok _ _ _ _ _ _ _ _ _ _ _ hs).mono ?_; rintro e w' ⟨rfl, rfl⟩)
    go_ret
    exact ⟨rfl, Below.refl _ _⟩
theorem ahead_off (a0 a1 a2 : Option Addr) (n c nh ch nt ct : Nat) (x : Int) (w : World) (c0 : n ≤ 262144) (c1 : nh ≤ 262144) (c2 : nt ≤ 262144) (hx : x < 0 ∨ (n : Int) < x) :
    Calls Try.prog 4 #[.slice a0 n c, .int .i64 x, .slice a1 nh ch, .slice a2 nt ct] w fun e w' => e = .returned (.bool true) ∧ Below w.heap.size w w' := by
  have hs : n + nh + nt ≤ 1048576 := by omega
  rcases hx with hx | hx
  all_goals
    go_enter Try.func4, Try.ntmps4
    go_wp2_with (go_at_call 9; refine (bytes9_ok _ _ _ _ _ _ _ _ _ _ _ hs).mono ?_; rintro e w' ⟨rfl, rfl⟩)
    go_ret
    exact ⟨rfl, Below.refl _ _⟩

/-- zzLineStartCol at position's own column. -/
theorem start_some (b n c m : Nat) (zs : List Int) (q : Int) (w : World) (hn : n ≤ 1048576) (hm : m ≤ n) (hz : n ≤ zs.length) (hq : q = colOf (zs.take m)) (hc : ∀ i, i < n → w.cell? ⟨b, 0 + i, none⟩ = some (.int .u8 (zs.getD i 0))) :
    Calls Try.prog 11 #[.slice (some ⟨b, 0, none⟩) n c, .int .i64 m, .int .i64 q] w fun e w' => e = .returned (.bool true) ∧ w = w' := by
  obtain ⟨s1, s2, s3⟩ := col_spec zs m (by omega)
  unfold colOf at hq
  by_cases h0 : col (zs.take m) = 0
  · obtain rfl : q = 1 := by rw [hq, h0]; rfl
    clear hq
    by_cases hm0 : m = 0
    · subst hm0
      go_enter Try.func11, Try.ntmps11
      go_wp2
      go_ret
      exact ⟨rfl, rfl⟩
    · have e := s3 (by omega)
      rw [h0] at e
      have hcell := hc (m - 0 - 1) (by omega)
      rw [e, Nat.zero_add, Nat.sub_zero] at hcell
      have hne : ((m : Int) == 0) = false := by simp; omega
      clear s1 s2 s3 h0 hc e
      go_enter Try.func11, Try.ntmps11
      go_wp2
      go_ret
      exact ⟨rfl, rfl⟩
  · obtain ⟨k, hk⟩ : ∃ k, k = col (zs.take m) := ⟨_, rfl⟩
    rw [← hk] at s1 s2 s3 h0 hq
    obtain rfl : q = (k : Int) := by omega
    clear hq hk
    have hhas := fun (w : World) (hc : ∀ i, i < n → w.cell? ⟨b, 0 + i, none⟩ = some (.int .u8 (zs.getD i 0))) => has_named b 0 n c zs (m - k) m w false (hasNl_none zs (m - k) m (by omega) s2).symm (by omega) (by omega) hm hz hc
    have HH := hhas w hc
    clear hhas
    rw [show ((m - k : Nat) : Int) = (m : Int) - (k : Int) from by omega] at HH
    have hl : w.cell? ⟨b, m - 1, none⟩ = some (.int .u8 (zs.getD (m - 1) 0)) := by have := hc (m - 1) (by omega); rwa [Nat.zero_add] at this
    have hl2 : (zs.getD (m - 1) 0 == 10) = false := by have := s2 (m - 1) (by omega) (by omega); simpa using this
    have hf : k < m → w.cell? ⟨b, m - k - 1, none⟩ = some (.int .u8 10) := fun h => by have := hc (m - k - 1) (by omega); rwa [Nat.zero_add, s3 h] at this
    generalize zs.getD (m - 1) 0 = v at hl hl2
    clear s2 s3 hc
    have HF : Hid _ := hf
    clear hf
    have hm0 : ((m : Int) == 0) = false := by simp; omega
    by_cases h1 : k = 1
    · subst h1
      by_cases hkm : 1 < m
      · have hf := HF.out (by omega)
        have ht : ((m : Int) - 1 == 0) = false := by simp; omega
        go_enter Try.func11, Try.ntmps11
        go_wp2_with fail
        refine HH.mono ?_
        rintro e w' ⟨rfl, hw⟩
        obtain rfl := hw.symm
        go_wp2
        go_ret
        exact ⟨rfl, rfl⟩
      · obtain rfl : m = 1 := by omega
        go_enter Try.func11, Try.ntmps11
        go_wp2_with fail
        refine HH.mono ?_
        rintro e w' ⟨rfl, hw⟩
        obtain rfl := hw.symm
        go_wp2
        go_ret
        exact ⟨rfl, rfl⟩
    · have hk1 : ((k : Int) == 1) = false := by simp; omega
      by_cases hkm : k < m
      · have hf := HF.out (by omega)
        have ht : ((m : Int) - (k : Int) == 0) = false := by simp; omega
        go_enter Try.func11, Try.ntmps11
        go_wp2_with fail
        refine HH.mono ?_
        rintro e w' ⟨rfl, hw⟩
        obtain rfl := hw.symm
        go_wp2
        go_ret
        exact ⟨rfl, rfl⟩
      · obtain rfl : m = k := by omega
        rw [Int.sub_self] at HH
        go_enter Try.func11, Try.ntmps11
        go_wp2_with fail
        refine HH.mono ?_
        rintro e w' ⟨rfl, hw⟩
        obtain rfl := hw.symm
        go_wp2
        go_ret
        exact ⟨rfl, rfl⟩
theorem start_nil (w : World) :
    Calls Try.prog 11 #[.slice none 0 0, .int .i64 0, .int .i64 1] w fun e w' => e = .returned (.bool true) ∧ w = w' := by
  go_enter Try.func11, Try.ntmps11
  go_wp2
  go_ret
  exact ⟨rfl, rfl⟩
end Go.Proofs.Qxb6609011a
