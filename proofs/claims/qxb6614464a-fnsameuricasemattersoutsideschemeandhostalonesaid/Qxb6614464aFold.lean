/-
  THE WALK of foldURI and sameURI.
-/
import Derived.Test.Qxb6614464aAny
namespace Go.Proofs.Qxb6614464a
open Go.RowKit Uri
set_option linter.unusedVariables false
set_option maxHeartbeats 4000000
set_option maxRecDepth 1000000

theorem anyAt_eq (l : List UInt8) : Lib.indexAny l [47, 63, 35] = anyAt l := by
  unfold anyAt
  induction l with
  | nil => rfl
  | cons b t ih =>
    have hb : [47, 63, 35].contains b = isEnd b := by unfold isEnd; simp only [List.contains_cons, List.contains_nil, Bool.or_false]
    rw [Lib.indexAny, List.findIdx_cons, hb]
    cases isEnd b with
    | true => simp
    | false =>
      simp only [cond_false, List.length_cons, ih]
      have := List.findIdx_le_length (p := isEnd) (xs := t)
      by_cases h : t.findIdx isEnd < t.length
      · have h1 : (((t.findIdx isEnd : Nat) : Int) == -1) = false := by rw [beq_eq_false_iff_ne]; omega
        simp only [if_pos h, h1, if_pos (show t.findIdx isEnd + 1 < t.length + 1 by omega)]
        simp
      · have h2 : ¬ t.findIdx isEnd + 1 < t.length + 1 := by omega
        simp only [if_neg h, if_neg h2]
        simp
theorem hv44 : ∀ w, (zeroValue 44).run Try.prog w = .ok (.agg (Array.replicate 256 (.bool false))) w := fun _ => by kernel_rfl
theorem any_at (s : ByteArray) (w : World) (hs : s.size ≤ 2097152) :
    Calls Try.prog 23 #[.string s, .string ⟨#[47, 63, 35]⟩] w fun e w' => e = .returned (.int .i64 (anyAt (bl s))) ∧ Below w.heap.size w w' := by
  by_cases h8 : s.size ≤ 8
  · exact any_short s w h8
  · refine (Try.strings_IndexAny_long hv44 s ⟨#[47, 63, 35]⟩ w (by decide) (by omega) (by omega) (by decide) (fun j b hb => ?_)).mono ?_
    · have hm := List.mem_of_getElem? hb
      have : b = 47 ∨ b = 63 ∨ b = 35 := by simpa using hm
      rcases this with rfl | rfl | rfl <;> decide
    · rintro e w' ⟨rfl, rfl⟩
      exact ⟨ret_int (anyAt_eq (bl s)), ((Below.refl _ w).alloc (Nat.le_refl _) _).alloc (by simp) _⟩

/-- A text made small. -/
def lowS (s : ByteArray) : ByteArray := strOf ((bl s).map low)
theorem bl_lowS (s : ByteArray) : bl (lowS s) = (bl s).map low := bl_strOf _
theorem size_lowS (s : ByteArray) : (lowS s).size = s.size := by rw [← bl_len, bl_lowS, List.length_map, bl_len]
theorem lower_s (s : ByteArray) (w : World) (hs : s.size ≤ 2097152) :
    Calls Try.prog 22 #[.string s] w fun e w' => e = .returned (.string (lowS s)) ∧ Below w.heap.size w w' := lower_any s w hs
def foldS (s : ByteArray) : ByteArray := strOf (fold (bl s))

theorem slashes_iff (l : List UInt8) : slashes l = true ↔ (l.drop (colon l + 1)).take 2 = [47, 47] := by
  constructor
  · intro h
    rw [(slashes_get l h).2]
    rfl
  · intro h
    have h1 := congrArg List.length h
    simp at h1
    have g0 := congrArg (fun x => x[0]?) h
    have g1 := congrArg (fun x => x[1]?) h
    simp only [List.getElem?_take, List.getElem?_drop] at g0 g1
    unfold slashes
    simp only [Bool.and_eq_true, decide_eq_true_eq, beq_iff_eq, List.getD_eq_getElem?_getD]
    refine ⟨by omega, ?_, ?_⟩
    · simp at g0; rw [g0]; rfl
    · simp at g1; rw [show colon l + 2 = colon l + 1 + 1 from rfl, g1]; rfl
theorem bl_rest (s : ByteArray) (k : Nat) : bl (s.extract k s.size) = (bl s).drop k := by
  rw [bl_extract, List.take_of_length_le (by rw [bl_len]; exact Nat.le_refl _)]
theorem bl_head (s : ByteArray) (k : Nat) : bl (s.extract 0 k) = (bl s).take k := by rw [bl_extract, List.drop_zero]
theorem fold_no (s : ByteArray) (w : World) (hs : s.size ≤ 1048576) (hc : ¬ colon (bl s) < (bl s).length) :
    Calls Try.prog 19 #[.string s] w fun e w' => e = .returned (.string (foldS s)) ∧ Below w.heap.size w w' := by
  have HF : Hid (s = foldS s) := bl_ext (by unfold foldS; rw [bl_strOf, ← foldGo_eq]; unfold foldGo; rw [if_neg hc])
  have HC : Hid _ := cut_no s w (by omega) hc
  clear hc
  go_enter Try.func19, Try.ntmps19
  go_wp2_with (go_at_call 20; refine (Calls.mono HC.out ?_); rintro e w1 ⟨rfl, hb1⟩)
  go_ret
  exact ⟨ret_str HF.out, hb1⟩

theorem fold_plain (s : ByteArray) (w : World) (hs : s.size ≤ 1048576) (hc : colon (bl s) < (bl s).length) (hn : slashes (bl s) = false) :
    Calls Try.prog 19 #[.string s] w fun e w' => e = .returned (.string (foldS s)) ∧ Below w.heap.size w w' := by
  have HC : Hid _ := cut_yes s w (by omega) hc
  have hlen := bl_len s
  have HR : Hid (¬ (bl (s.extract (colon (bl s) + 1) s.size)).take 2 = [47, 47]) := by
    show ¬ _
    rw [bl_rest, ← slashes_iff, hn]
    exact Bool.false_ne_true
  have HF : Hid (lowS (s.extract 0 (colon (bl s))) ++ ⟨#[58]⟩ ++ s.extract (colon (bl s) + 1) s.size = foldS s) := by
    show _ = _
    apply bl_ext
    unfold foldS
    rw [bl_strOf, ← foldGo_eq, bl_append, bl_append, bl_lowS, bl_head, bl_rest]
    unfold foldGo
    rw [if_pos hc, if_neg (by rw [hn]; exact Bool.false_ne_true)]
    rfl
  rw [bl_len] at hc
  have h1 : (s.extract 0 (colon (bl s))).size ≤ 1048576 := by rw [← bl_len, bl_extract]; simp; omega
  have h2 : (s.extract (colon (bl s) + 1) s.size).size ≤ 1048576 := by rw [← bl_len, bl_extract]; simp; omega
  generalize s.extract 0 (colon (bl s)) = sc at *
  generalize s.extract (colon (bl s) + 1) s.size = rt at *
  have h3 : (lowS sc).size ≤ 1048576 := by rw [size_lowS]; exact h1
  clear hlen hc hn
  go_enter Try.func19, Try.ntmps19
  go_wp2_with (go_at_call 20; refine (Calls.mono HC.out ?_); rintro e w1 ⟨rfl, hb1⟩)
  refine (prefix_no rt _ (by omega) HR.out).mono ?_
  rintro e w' ⟨rfl, rfl⟩
  go_wp2_with fail
  refine (lower_s sc _ (by omega)).mono ?_
  rintro e w2 ⟨rfl, hb2⟩
  go_wp2
  go_ret
  exact ⟨ret_str HF.out, hb1.trans (hb2.mono hb1.size)⟩

theorem fold_auth (s : ByteArray) (w : World) (hs : s.size ≤ 1048576) (hc : colon (bl s) < (bl s).length) (hn : slashes (bl s) = true) :
    Calls Try.prog 19 #[.string s] w fun e w' => e = .returned (.string (foldS s)) ∧ Below w.heap.size w w' := by
  have HC : Hid _ := cut_yes s w (by omega) hc
  have hlen := bl_len s
  have HR : Hid ((bl (s.extract (colon (bl s) + 1) s.size)).take 2 = [47, 47]) := by
    show _ = _
    rw [bl_rest]
    exact (slashes_iff _).1 hn
  obtain ⟨sc, hsc⟩ : ∃ sc, s.extract 0 (colon (bl s)) = sc := ⟨_, rfl⟩
  obtain ⟨rt, hrt⟩ : ∃ rt, s.extract (colon (bl s) + 1) s.size = rt := ⟨_, rfl⟩
  obtain ⟨au, hau⟩ : ∃ au, rt.extract 2 rt.size = au := ⟨_, rfl⟩
  rw [hsc, hrt] at HC
  rw [hrt] at HR
  have Bsc : bl sc = (bl s).take (colon (bl s)) := by rw [← hsc, bl_head]
  have Bau : bl au = auth (bl s) := by
    rw [← hau, bl_rest, ← hrt, bl_rest, List.drop_drop]
    rfl
  have h1 : sc.size ≤ 1048576 := by rw [← bl_len, Bsc]; simp; omega
  have h2 : rt.size ≤ 1048576 := by rw [← bl_len, ← hrt, bl_rest]; simp; omega
  have h3 : au.size ≤ 1048576 := by rw [← bl_len, Bau]; unfold auth; simp; omega
  have h4 : (lowS sc).size ≤ 1048576 := by rw [size_lowS]; exact h1
  have HF : Hid (∀ r, r = (bl sc).map low ++ [58, 47, 47] ++ ((bl au).take (endAt (bl s))).take (hostAt (bl s)) ++ (((bl au).take (endAt (bl s))).drop (hostAt (bl s))).map low ++ (bl au).drop (endAt (bl s)) → strOf r = foldS s) := by
    show ∀ r, _
    rintro r rfl
    unfold foldS
    congr 1
    rw [← foldGo_eq, Bsc, Bau]
    unfold foldGo
    rw [if_pos hc, if_pos hn]
  have Hrt : Hid _ := hrt
  have Hau : Hid _ := hau
  have BA : Hid _ := Bau
  clear hsc hrt hau Bsc Bau hlen hc hn
  go_enter Try.func19, Try.ntmps19
  go_wp2_with (go_at_call 20; refine (Calls.mono HC.out ?_); rintro e w1 ⟨rfl, hb1⟩)
  refine (prefix_yes rt _ (by omega) HR.out).mono ?_
  rintro e w' ⟨rfl, rfl⟩
  rw [Hau.out]
  go_wp2_with fail
  refine (any_at au _ (by omega)).mono ?_
  rintro e w2 ⟨rfl, hb2⟩
  have hB2 : Below w.heap.size w w2 := hb1.trans (hb2.mono hb1.size)
  clear hb1 hb2
  by_cases he : endAt (bl s) < (bl au).length
  · have ha : anyAt (bl au) = (endAt (bl s) : Int) := by unfold anyAt; rw [show (bl au).findIdx isEnd = endAt (bl s) from by rw [BA.out]; rfl, if_pos he]
    rw [ha]
    rw [bl_len] at he
    clear ha
    obtain ⟨en, hen⟩ : ∃ en, endAt (bl s) = en := ⟨_, rfl⟩
    rw [hen] at he HF ⊢
    have Hen : Hid _ := hen
    clear hen
    go_wp2
    go_quiet (fail)
    go_wp2_with fail
    obtain ⟨a, hap⟩ : ∃ a, au.extract 0 en = a := ⟨_, rfl⟩
    obtain ⟨p, hpp⟩ : ∃ p, au.extract en au.size = p := ⟨_, rfl⟩
    have Ba : bl a = (bl au).take en := by rw [← hap, bl_head]
    have Bp : bl p = (bl au).drop en := by rw [← hpp, bl_rest]
    rw [hap, hpp]
    rw [← Ba, ← Bp] at HF
    have hsa : a.size ≤ 1048576 := by rw [← bl_len, Ba, List.length_take, bl_len]; omega
    have hsp : p.size ≤ 1048576 := by rw [← bl_len, Bp, List.length_drop, bl_len]; omega
    have hho : hostAt (bl s) = lastAt (bl a) := by unfold hostAt; rw [Ba, Hen.out, BA.out]
    rw [hho] at HF
    have hla : lastAt (bl a) ≤ a.size := lastAt_le (bl a)
    clear hap hpp Ba Bp hho
    refine (last_at a _ (by omega)).mono ?_
    rintro e w' ⟨rfl, rfl⟩
    have hB3 : Below w.heap.size w (w2.drewN nq) := below_drewN hB2 nq
    generalize w2.drewN nq = w3 at *
    generalize lastAt (bl a) = h at *
    clear hB2
    have hx0 : (a.extract h a.size).size ≤ 1048576 := by rw [← bl_len, bl_rest, List.length_drop, bl_len]; omega
    have hx1 : (lowS (a.extract h a.size)).size ≤ 1048576 := by rw [size_lowS]; exact hx0
    have hx2 : (a.extract 0 h).size ≤ 1048576 := by rw [← bl_len, bl_head, List.length_take, bl_len]; omega
    go_wp2
    go_region_with (first | (go_at_call_of 22 sc; refine (lower_s sc _ (by omega)).mono ?_; rintro e w4 ⟨rfl, hb4⟩) | (go_at_call 22; refine (lower_s (a.extract h a.size) _ (by omega)).mono ?_; rintro e w5 ⟨rfl, hb5⟩))
    all_goals go_wp2
    all_goals go_ret
    all_goals refine ⟨ret_str ?_, (hB3.drew.trans (hb4.mono hB3.size)).trans (hb5.mono (Nat.le_trans hB3.size hb4.size))⟩
    all_goals rw [← HF.out _ rfl]
    all_goals apply bl_ext
    all_goals rw [bl_strOf, bl_append, bl_append, bl_append, bl_append, bl_lowS, bl_lowS, bl_head, bl_rest]
    all_goals rfl
  · have hle : endAt (bl s) ≤ (bl au).length := by rw [BA.out]; exact List.findIdx_le_length
    have ha : anyAt (bl au) = -1 := by unfold anyAt; rw [show (bl au).findIdx isEnd = endAt (bl s) from by rw [BA.out]; rfl, if_neg he]
    rw [ha]
    clear ha
    have Ba : (bl au).take (endAt (bl s)) = bl au := List.take_of_length_le (by omega)
    have Bp : (bl au).drop (endAt (bl s)) = [] := List.drop_eq_nil_of_le (by omega)
    have hho : hostAt (bl s) = lastAt (bl au) := by unfold hostAt; rw [← BA.out, Ba]
    rw [Ba, Bp, hho] at HF
    have hla : lastAt (bl au) ≤ au.size := lastAt_le (bl au)
    clear he hle Ba Bp hho
    go_wp2_with fail
    refine (last_at au _ (by omega)).mono ?_
    rintro e w' ⟨rfl, rfl⟩
    generalize lastAt (bl au) = h at *
    have hx0 : (au.extract h au.size).size ≤ 1048576 := by rw [← bl_len, bl_rest, List.length_drop, bl_len]; omega
    have hx1 : (lowS (au.extract h au.size)).size ≤ 1048576 := by rw [size_lowS]; exact hx0
    have hx2 : (au.extract 0 h).size ≤ 1048576 := by rw [← bl_len, bl_head, List.length_take, bl_len]; omega
    go_wp2
    go_region_with (first | (go_at_call_of 22 sc; refine (lower_s sc _ (by omega)).mono ?_; rintro e w4 ⟨rfl, hb4⟩) | (go_at_call 22; refine (lower_s (au.extract h au.size) _ (by omega)).mono ?_; rintro e w5 ⟨rfl, hb5⟩))
    all_goals go_wp2
    all_goals go_ret
    all_goals refine ⟨ret_str ?_, (hB2.drew.trans (hb4.mono hB2.size)).trans (hb5.mono (Nat.le_trans hB2.size hb4.size))⟩
    all_goals rw [← HF.out _ rfl]
    all_goals apply bl_ext
    all_goals simp only [bl_strOf, bl_append, bl_lowS, bl_head, bl_rest]
    all_goals rfl

theorem fold_any (s : ByteArray) (w : World) (hs : s.size ≤ 1048576) :
    Calls Try.prog 19 #[.string s] w fun e w' => e = .returned (.string (foldS s)) ∧ Below w.heap.size w w' := by
  by_cases hc : colon (bl s) < (bl s).length
  · cases hn : slashes (bl s) with
    | true => exact fold_auth s w hs hc hn
    | false => exact fold_plain s w hs hc hn
  · exact fold_no s w hs hc

theorem same18 (s t : ByteArray) (w : World) (hs : s.size ≤ 1048576) (ht : t.size ≤ 1048576) :
    Calls Try.prog 18 #[.string s, .string t] w fun e w' => e = .returned (.bool (fold (bl s) == fold (bl t))) ∧ Below w.heap.size w w' := by
  have HE : Hid (((foldS s).toList == (foldS t).toList) = (fold (bl s) == fold (bl t))) := by
    show _ = _
    rw [Lib.toList_data, Lib.toList_data]
    show (bl (foldS s) == bl (foldS t)) = _
    unfold foldS
    rw [bl_strOf, bl_strOf]
  go_enter Try.func18, Try.ntmps18
  go_wp2_with fail
  refine (fold_any s _ hs).mono ?_
  rintro e w1 ⟨rfl, hb1⟩
  go_wp2_with fail
  refine (fold_any t _ ht).mono ?_
  rintro e w2 ⟨rfl, hb2⟩
  go_wp2
  go_ret
  exact ⟨ret_bool HE.out, hb1.trans (hb2.mono hb1.size)⟩
theorem same_any (s t : ByteArray) (w : World) (hs : s.size ≤ 1048576) (ht : t.size ≤ 1048576) :
    Calls Try.prog 12 #[.string s, .string t] w fun e w' => e = .returned (.bool (fold (bl s) == fold (bl t))) ∧ Below w.heap.size w w' := by
  have HC : Hid _ := same18 s t w hs ht
  generalize (fold (bl s) == fold (bl t)) = v at *
  go_enter Try.func12, Try.ntmps12
  go_wp2_with fail
  refine (Calls.mono HC.out ?_)
  rintro e w1 ⟨rfl, hb1⟩
  go_wp2
  go_ret
  exact ⟨rfl, hb1⟩
end Go.Proofs.Qxb6614464a
