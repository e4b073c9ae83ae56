/-
  THE WALKS of the small functions: LastIndexByte, zzScanPosition, zzHasNewline, zzCountNewlines.
-/
import Derived.Test.Qxb6609011aRows
import Derived.Test.Qxb6609011aPlain
import Derived.WalkKit
import Derived.WalkSpells
namespace Go.Proofs.Qxb6609011a
open Go.RowKit Pos

theorem ret_int {k : IntKind} {a b : Int} (h : a = b) : Ending.returned (.int k a) = .returned (.int k b) := by rw [h]
theorem ret_bool {a b : Bool} (h : a = b) : Ending.returned (.bool a) = .returned (.bool b) := by rw [h]
theorem ret_int2 {k : IntKind} {a b c d : Int} (h : a = b) (h2 : c = d) : Ending.returned (.tuple #[.int k a, .int k c]) = .returned (.tuple #[.int k b, .int k d]) := by rw [h, h2]
theorem lastFrom_bd (l : List Int) (n : Nat) : -1 ≤ lastFrom l n ∧ lastFrom l n < n := by
  induction n with
  | zero => simp [lastFrom]
  | succ n ih => rw [lastFrom]; split <;> omega

/-- internal/bytealg.LastIndexByte at the newline. -/
theorem last_some (b o n c : Nat) (zs : List Int) (w : World) (hn : n ≤ 2097152) (hc : ∀ i, i < n → w.cell? ⟨b, o + i, none⟩ = some (.int .u8 (zs.getD i 0))) :
    Calls Try.prog 18 #[.slice (some ⟨b, o, none⟩) n c, .int .u8 10] w fun e w' => e = .returned (.int .i64 (lastFrom zs n)) ∧ w' = w := by
  go_enter Try.func18, Try.ntmps18
  go_wp2
  go_loop [5] (fun i => ∃ k : Nat, k ≤ n ∧ i = .int .i64 ((k : Int) - 1) ∧ lastFrom zs k = lastFrom zs n) (fun i => (intOf i + 1).toNat)
  case atStart => exact ⟨n, Nat.le_refl _, rfl, rfl⟩
  case round =>
    obtain ⟨k, hk, rfl, hl⟩ := hrel
    have HL : Hid (lastFrom zs k = lastFrom zs n) := hl
    clear hl
    cases k with
    | zero =>
      go_wp2
      go_ret
      exact ⟨ret_int (by rw [← HL.out]; rfl), rfl⟩
    | succ m =>
      have hcell : w.cell? ⟨b, o + m, none⟩ = some (.int .u8 (zs.getD m 0)) := hc m (by omega)
      go_wp2
      · have ht : (zs[m]?.getD 0 == 10) = true := by assumption
        go_ret
        refine ⟨ret_int ?_, rfl⟩
        rw [← HL.out, lastFrom, if_pos (by simpa [List.getD] using ht)]
      · have ht : (zs[m]?.getD 0 == 10) = false := by assumption
        go_round
        case rel => exact ⟨m, by omega, by go_num, by rw [← HL.out, lastFrom, if_neg (by simpa [List.getD] using ht)]⟩
        case measure => simp [intOf]
theorem last_nil (w : World) :
    Calls Try.prog 18 #[.slice none 0 0, .int .u8 10] w fun e w' => e = .returned (.int .i64 (-1)) ∧ w' = w := by
  go_enter Try.func18, Try.ntmps18
  go_wp2
  refine wp_loop_rounds 1 ?_
  rw [rounds_succ]
  go_wp2
  go_ret
  exact ⟨rfl, rfl⟩

/-- zzScanPosition: the line and the column of the cursor behind the first m bytes. -/
theorem scan_some (b o n c : Nat) (zs : List Int) (m : Nat) (w : World) (hn : n ≤ 2097152) (hm : m ≤ n) (hz : n ≤ zs.length) (hc : ∀ i, i < n → w.cell? ⟨b, o + i, none⟩ = some (.int .u8 (zs.getD i 0))) :
    Calls Try.prog 7 #[.slice (some ⟨b, o, none⟩) n c, .int .i64 m] w fun e w' => e = .returned (.tuple #[.int .i64 (1 + (cnt (zs.take m) : Int)), .int .i64 (max (col (zs.take m) : Int) 1)]) ∧ w' = w := by
  go_enter Try.func7, Try.ntmps7
  go_wp2
  go_loop [6, 7, 8] (fun l q j => ∃ k : Nat, k ≤ m ∧ j = .int .i64 k ∧ l = .int .i64 (1 + (cnt (zs.take k) : Int)) ∧ q = .int .i64 (col (zs.take k))) (fun _ _ j => m - (intOf j).toNat)
  case atStart => exact ⟨0, Nat.zero_le _, rfl, rfl, rfl⟩
  case round =>
    obtain ⟨k, hk, rfl, rfl, rfl⟩ := hrel
    have h1 := cnt_le (zs.take k)
    have h2 := col_le (zs.take k)
    have h3 : (zs.take k).length ≤ k := List.length_take_le _ _
    by_cases hlt : k < m
    · have hcell : w.cell? ⟨b, o + k, none⟩ = some (.int .u8 (zs.getD k 0)) := hc k (by omega)
      have H1 : Hid (cnt (zs.take (k + 1)) = cnt (zs.take k) + if zs.getD k 0 = 10 then 1 else 0) := cnt_take_snoc zs k (by omega)
      have H2 : Hid (col (zs.take (k + 1)) = if zs.getD k 0 = 10 then 0 else col (zs.take k) + 1) := col_take_snoc zs k (by omega)
      go_wp2
      · have ht : (zs[k]?.getD 0 == 10) = true := by assumption
        have ht' : zs.getD k 0 = 10 := by simpa [List.getD] using ht
        go_round
        case rel => exact ⟨k + 1, by omega, by go_num, by rw [H1.out, if_pos ht']; go_num, by rw [H2.out, if_pos ht']; go_num⟩
        case measure => simp [intOf]; omega
      · have ht : (zs[k]?.getD 0 == 10) = false := by assumption
        have ht' : ¬ zs.getD k 0 = 10 := by simpa [List.getD] using ht
        go_round
        case rel => exact ⟨k + 1, by omega, by go_num, by rw [H1.out, if_neg ht']; go_num, by rw [H2.out, if_neg ht']; go_num⟩
        case measure => simp [intOf]; omega
    · obtain rfl : k = m := by omega
      go_wp2
      all_goals
        go_ret2
        refine ⟨ret_int2 rfl (by omega), rfl⟩
theorem scan_nil (w : World) :
    Calls Try.prog 7 #[.slice none 0 0, .int .i64 0] w fun e w' => e = .returned (.tuple #[.int .i64 1, .int .i64 1]) ∧ w' = w := by
  go_enter Try.func7, Try.ntmps7
  go_wp2
  refine wp_loop_rounds 1 ?_
  rw [rounds_succ]
  go_wp2
  go_ret2
  exact ⟨rfl, rfl⟩

/-- zzHasNewline. -/
def hasNl (zs : List Int) : Bool := zs.any (· == 10)
theorem hasNl_pick (zs : List Int) (f t k : Nat) (h1 : f ≤ k) (h2 : k < t) (h3 : k < zs.length) (h : (zs[k]?.getD 0 == 10) = true) : hasNl ((zs.take t).drop f) = true := by
  unfold hasNl
  rw [List.any_eq_true]
  refine ⟨10, ?_, by simp⟩
  have e : zs[k] = 10 := by simpa [List.getElem?_eq_getElem h3] using h
  rw [List.mem_iff_getElem]
  refine ⟨k - f, by simp; omega, ?_⟩
  rw [List.getElem_drop, List.getElem_take]
  have : f + (k - f) = k := by omega
  simp only [this]
  exact e
theorem hasNl_none (zs : List Int) (f t : Nat) (h3 : t ≤ zs.length) (h : ∀ j, f ≤ j → j < t → zs.getD j 0 ≠ 10) : hasNl ((zs.take t).drop f) = false := by
  unfold hasNl
  rw [List.any_eq_false]
  intro x hx
  obtain ⟨i, hi, rfl⟩ := List.mem_iff_getElem.1 hx
  simp only [List.length_drop, List.length_take] at hi
  rw [List.getElem_drop, List.getElem_take]
  have := h (f + i) (by omega) (by omega)
  rw [List.getD_eq_getElem?_getD, List.getElem?_eq_getElem (by omega)] at this
  simpa using this
theorem has_some (b o n c : Nat) (zs : List Int) (f t : Nat) (w : World) (hn : n ≤ 2097152) (hft : f ≤ t) (ht : t ≤ n) (hz : n ≤ zs.length) (hc : ∀ i, i < n → w.cell? ⟨b, o + i, none⟩ = some (.int .u8 (zs.getD i 0))) :
    Calls Try.prog 8 #[.slice (some ⟨b, o, none⟩) n c, .int .i64 f, .int .i64 t] w fun e w' => e = .returned (.bool (hasNl ((zs.take t).drop f))) ∧ w' = w := by
  go_enter Try.func8, Try.ntmps8
  go_wp2
  go_loop [7] (fun j => ∃ k : Nat, f ≤ k ∧ k ≤ t ∧ j = .int .i64 k ∧ Hid (∀ i, f ≤ i → i < k → zs.getD i 0 ≠ 10)) (fun j => t - (intOf j).toNat)
  case atStart => exact ⟨f, Nat.le_refl _, hft, rfl, fun i h1 h2 => by omega⟩
  case round =>
    obtain ⟨k, hfk, hk, rfl, HN⟩ := hrel
    by_cases hlt : k < t
    · have hcell : w.cell? ⟨b, o + k, none⟩ = some (.int .u8 (zs.getD k 0)) := hc k (by omega)
      go_wp2
      · have he : (zs[k]?.getD 0 == 10) = true := by assumption
        go_ret
        exact ⟨ret_bool (hasNl_pick zs f t k hfk hlt (by omega) he).symm, rfl⟩
      · have he : (zs[k]?.getD 0 == 10) = false := by assumption
        go_round
        case rel =>
          refine ⟨k + 1, by omega, by omega, by go_num, fun i h1 h2 => ?_⟩
          by_cases hik : i = k
          · subst hik; simpa [List.getD] using he
          · exact HN.out i h1 (by omega)
        case measure => simp [intOf]; omega
    · obtain rfl : k = t := by omega
      go_wp2
      go_ret
      exact ⟨ret_bool (hasNl_none zs f k (by omega) HN.out).symm, rfl⟩
theorem has_nil (w : World) :
    Calls Try.prog 8 #[.slice none 0 0, .int .i64 0, .int .i64 0] w fun e w' => e = .returned (.bool false) ∧ w' = w := by
  go_enter Try.func8, Try.ntmps8
  go_wp2
  refine wp_loop_rounds 1 ?_
  rw [rounds_succ]
  go_wp2
  go_ret
  exact ⟨rfl, rfl⟩

/-- zzCountNewlines. -/
theorem count_some (b o n c : Nat) (zs : List Int) (t : Nat) (w : World) (hn : n ≤ 2097152) (ht : t ≤ n) (hz : n ≤ zs.length) (hc : ∀ i, i < n → w.cell? ⟨b, o + i, none⟩ = some (.int .u8 (zs.getD i 0))) :
    Calls Try.prog 10 #[.slice (some ⟨b, o, none⟩) n c, .int .i64 0, .int .i64 t] w fun e w' => e = .returned (.int .i64 (cnt (zs.take t))) ∧ w' = w := by
  go_enter Try.func10, Try.ntmps10
  go_wp2
  go_loop [7, 8] (fun q j => ∃ k : Nat, k ≤ t ∧ j = .int .i64 k ∧ q = .int .i64 (cnt (zs.take k))) (fun _ j => t - (intOf j).toNat)
  case atStart => exact ⟨0, Nat.zero_le _, rfl, rfl⟩
  case round =>
    obtain ⟨k, hk, rfl, rfl⟩ := hrel
    have h1 := cnt_le (zs.take k)
    have h3 : (zs.take k).length ≤ k := List.length_take_le _ _
    by_cases hlt : k < t
    · have hcell : w.cell? ⟨b, o + k, none⟩ = some (.int .u8 (zs.getD k 0)) := hc k (by omega)
      have H1 : Hid (cnt (zs.take (k + 1)) = cnt (zs.take k) + if zs.getD k 0 = 10 then 1 else 0) := cnt_take_snoc zs k (by omega)
      go_wp2
      · have he : (zs[k]?.getD 0 == 10) = true := by assumption
        have ht' : zs.getD k 0 = 10 := by simpa [List.getD] using he
        go_round
        case rel => exact ⟨k + 1, by omega, by go_num, by rw [H1.out, if_pos ht']; go_num⟩
        case measure => simp [intOf]; omega
      · have he : (zs[k]?.getD 0 == 10) = false := by assumption
        have ht' : ¬ zs.getD k 0 = 10 := by simpa [List.getD] using he
        go_round
        case rel => exact ⟨k + 1, by omega, by go_num, by rw [H1.out, if_neg ht']; go_num⟩
        case measure => simp [intOf]; omega
    · obtain rfl : k = t := by omega
      go_wp2
      go_ret
      exact ⟨rfl, rfl⟩
theorem count_nil (a : Option Addr) (c : Nat) (w : World) :
    Calls Try.prog 10 #[.slice a 0 c, .int .i64 0, .int .i64 0] w fun e w' => e = .returned (.int .i64 0) ∧ w' = w := by
  go_enter Try.func10, Try.ntmps10
  go_wp2
  refine wp_loop_rounds 1 ?_
  rw [rounds_succ]
  go_wp2
  go_ret
  exact ⟨rfl, rfl⟩
end Go.Proofs.Qxb6609011a
