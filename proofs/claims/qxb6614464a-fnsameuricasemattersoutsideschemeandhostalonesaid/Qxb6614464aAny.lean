/-
  THE WALKS of strings.IndexRune and strings.IndexAny at slash, question mark, hash, every string, valid UTF-8 or not.
-/
import Derived.Test.Qxb6614464aCut
import Derived.Test.Qxb6614464aShelf
import Derived.WalkMore
import Derived.Laws.Runes
import Derived.Laws.RangeAny
import Derived.Lib.OthersKept
import Derived.Deep.RegionWith
import Derived.Deep.DeepFit
import Derived.Deep.LoopGhost
namespace Go.Proofs.Qxb6614464a
open Go.RowKit Uri
set_option linter.unusedVariables false
set_option maxHeartbeats 4000000
set_option maxRecDepth 1000000

theorem indexByte34 (s : ByteArray) (c : UInt8) (w : World) :
    Calls Try.prog 34 #[.string s, .int .u8 c.toNat] w fun e w' => e = .returned (.int .i64 (Lib.indexByte (bl s) c)) ∧ w = w' := by
  go_enter Try.func34, Try.ntmps34
  go_wp2_with fail
  refine (indexByte_lite s c _).mono ?_
  rintro e w' ⟨rfl, rfl⟩
  go_wp2
  go_ret
  exact ⟨rfl, rfl⟩

theorem indexByte34q (s : ByteArray) (c : UInt8) (w : World) :
    Calls Try.prog 34 #[.string s, .int .u8 c.toNat] w fun e w' => e = .returned (.int .i64 (Lib.indexByte (bl s) c)) ∧ w' = w :=
  (indexByte34 s c w).mono fun e w' h => ⟨h.1, h.2.symm⟩

/-- An invalid rune. -/
theorem rune_invalid (r : Int) (w : World) (h : 128 ≤ r) (h2 : r ≤ 2147483647) (he : (r == 65533) = false) (hv : ¬ (r < 55296 ∨ (57343 < r ∧ r ≤ 1114111))) :
    Calls Try.prog 27 #[.string ⟨#[47, 63, 35]⟩, .int .i32 r] w fun e w' => e = .returned (.int .i64 (-1)) ∧ Below w.heap.size w w' := by
  have h1 : ¬ r < 55296 := by omega
  by_cases h3 : 57343 < r
  · have h4 : ¬ r ≤ 1114111 := by omega
    go_enter Try.func27, Try.ntmps27
    go_wp2
    go_ret
    exact ⟨rfl, Below.refl _ _⟩
  · go_enter Try.func27, Try.ntmps27
    go_wp2
    go_ret
    exact ⟨rfl, Below.refl _ _⟩

/-- utf8.RuneError: the range over slash, question mark, hash meets none. -/
theorem rune_error (w : World) :
    Calls Try.prog 27 #[.string ⟨#[47, 63, 35]⟩, .int .i32 65533] w fun e w' => e = .returned (.int .i64 (-1)) ∧ Below w.heap.size w w' := by
  have n0 := fun ty => run_next_ascii (P := Try.prog) w ⟨#[47, 63, 35]⟩ 0 ty (by decide) (by decide)
  have n1 := fun ty => run_next_ascii (P := Try.prog) w ⟨#[47, 63, 35]⟩ 1 ty (by decide) (by decide)
  have n2 := fun ty => run_next_ascii (P := Try.prog) w ⟨#[47, 63, 35]⟩ 2 ty (by decide) (by decide)
  have n3 := fun ty => run_next_end (P := Try.prog) w ⟨#[47, 63, 35]⟩ 3 ty (by decide)
  go_enter Try.func27, Try.ntmps27
  go_wp2
  refine wp_loop_rounds 4 ?_
  rw [rounds_succ]
  go_wp2
  rw [rounds_succ]
  go_wp2
  rw [rounds_succ]
  go_wp2
  rw [rounds_succ]
  go_wp2
  go_ret
  exact ⟨rfl, (Below.refl _ w).alloc (Nat.le_refl _) _⟩

theorem idx_none (l : List UInt8) (b : UInt8) (h : ∀ x ∈ l, x ≠ b) : Lib.indexByte l b = -1 := by
  rw [indexByte_findIdx, if_neg]
  intro hlt
  have := List.findIdx_getElem (p := (· == b)) (xs := l) (w := hlt)
  exact h _ (List.getElem_mem hlt) (by simpa using this)
theorem idx_tail (k : Nat) (b : UInt8) (hb : 128 ≤ b.toNat) : Lib.indexByte (bl ((⟨#[47, 63, 35]⟩ : ByteArray).extract k 3)) b = -1 := by
  apply idx_none
  intro x hx
  rw [bl_extract] at hx
  have hm := List.mem_of_mem_take (List.mem_of_mem_drop hx)
  have : x = 47 ∨ x = 63 ∨ x = 35 := by simpa [bl] using hm
  rintro rfl
  rcases this with h | h | h <;> rw [h] at hb <;> simp at hb

/-- A valid rune beyond ASCII. -/
theorem rune_valid (r : Int) (w : World) (h : 128 ≤ r) (h2 : r ≤ 2147483647) (he : (r == 65533) = false) (hv : r < 55296 ∨ (57343 < r ∧ r ≤ 1114111)) :
    Calls Try.prog 27 #[.string ⟨#[47, 63, 35]⟩, .int .i32 r] w fun e w' => e = .returned (.int .i64 (-1)) ∧ Below w.heap.size w w' := by
  have hval : Utf8.valid r = true := by rw [validRune_eq]; unfold validRune; rw [decide_eq_true_eq]; omega
  obtain ⟨z1, z2, hlast⟩ := encode_facts r hval h
  obtain ⟨rs, hrs⟩ : ∃ rs, Utf8.encode r = rs := ⟨_, rfl⟩
  rw [hrs] at z1 z2 hlast
  clear hval
  have hV : Calls Try.prog 35 #[.int .i32 r] w fun e w' => e = .returned (.bool true) ∧ w = w' := by
    clear hrs hlast z1 z2
    rcases hv with h1 | ⟨h1, h3⟩
    · go_enter Try.func35, Try.ntmps35
      go_wp2
      go_ret
      exact ⟨rfl, rfl⟩
    · have h4 : ¬ r < 55296 := by omega
      go_enter Try.func35, Try.ntmps35
      go_wp2
      go_ret
      exact ⟨rfl, rfl⟩
  have HV : Hid _ := hV
  clear hV hv
  rcases (show rs.size = 2 ∨ rs.size = 3 ∨ rs.size = 4 by omega) with hz | hz | hz
  · have hb := hlast (by omega)
    simp only [hz] at hb
    obtain ⟨b, hbb⟩ : ∃ b, rs[1]'(by omega) = b := ⟨_, rfl⟩
    have hb' : 128 ≤ b.toNat := by rw [← hbb]; exact hb
    clear hb hlast z1 z2
    have ht : (((⟨#[47, 63, 35]⟩ : ByteArray)[1]'(by decide)).toNat : Int) != (b.toNat : Int) := by rw [bne_iff_ne]; show (63 : Int) ≠ _; omega
    have hx : Lib.indexByte (bl ((⟨#[47, 63, 35]⟩ : ByteArray).extract 2 3)) b = -1 := idx_tail 2 b hb'
    go_enter Try.func27, Try.ntmps27
    go_wp2_with (go_at_call 35; refine (Calls.mono HV.out ?_); rintro e w' ⟨rfl, rfl⟩)
    go_step3
    go_wp2
    refine wp_loop_rounds 1 ?_
    rw [rounds_succ]
    go_wp2
    go_step3
    go_wp2
    go_quiet (fail)
    go_wp2
    go_region_with (go_at_call 34; refine (indexByte34 _ b _).mono ?_; rintro e w' ⟨rfl, rfl⟩; rw [hx])
    all_goals go_wp2
    all_goals simp only [Exit.noGoto_ret, Exit.inBlock, Exit.then]
    all_goals go_ret
    all_goals exact ⟨rfl, below_drewN (Below.refl _ _) _⟩
  · have hb := hlast (by omega)
    simp only [hz] at hb
    obtain ⟨b, hbb⟩ : ∃ b, rs[2]'(by omega) = b := ⟨_, rfl⟩
    have hb' : 128 ≤ b.toNat := by rw [← hbb]; exact hb
    clear hb hlast z1 z2
    have ht : (((⟨#[47, 63, 35]⟩ : ByteArray)[2]'(by decide)).toNat : Int) != (b.toNat : Int) := by rw [bne_iff_ne]; show (35 : Int) ≠ _; omega
    have hx : Lib.indexByte (bl ByteArray.empty) b = -1 := rfl
    go_enter Try.func27, Try.ntmps27
    go_wp2_with (go_at_call 35; refine (Calls.mono HV.out ?_); rintro e w' ⟨rfl, rfl⟩)
    go_step3
    go_wp2
    refine wp_loop_rounds 1 ?_
    rw [rounds_succ]
    go_wp2
    go_step3
    go_wp2
    go_quiet (fail)
    go_wp2
    go_region_with (go_at_call 34; refine (indexByte34 _ b _).mono ?_; rintro e w' ⟨rfl, rfl⟩; rw [hx])
    all_goals go_wp2
    all_goals simp only [Exit.noGoto_ret, Exit.inBlock, Exit.then]
    all_goals go_ret
    all_goals exact ⟨rfl, below_drewN (Below.refl _ _) _⟩
  · clear hlast z1 z2
    go_enter Try.func27, Try.ntmps27
    go_wp2_with (go_at_call 35; refine (Calls.mono HV.out ?_); rintro e w' ⟨rfl, rfl⟩)
    go_step3
    go_wp2
    refine wp_loop_rounds 1 ?_
    rw [rounds_succ]
    go_wp2
    simp only [Exit.noGoto_ret, Exit.inBlock]
    go_ret
    exact ⟨rfl, Below.refl _ _⟩

/-- strings.IndexRune at slash, question mark, hash, whatever rune a decoding hands over. -/
theorem rune_miss (r : Nat) (w : World) (h2 : r ≤ 2147483647) (hm : r ≠ 47 ∧ r ≠ 63 ∧ r ≠ 35) :
    Calls Try.prog 27 #[.string ⟨#[47, 63, 35]⟩, .int .i32 r] w fun e w' => e = .returned (.int .i64 (-1)) ∧ Below w.heap.size w w' := by
  by_cases h : r < 128
  · refine (Try.strings_IndexRune_ascii ⟨#[47, 63, 35]⟩ r w (by omega) (by omega)).mono ?_
    rintro e w' ⟨rfl, rfl⟩
    refine ⟨ret_int ?_, Below.refl _ _⟩
    apply idx_none
    intro x hx
    have hx' : x = 47 ∨ x = 63 ∨ x = 35 := by simpa using hx
    rw [Int.toNat_natCast]
    intro e
    have := congrArg UInt8.toNat e
    simp only [Nat.toUInt8, UInt8.toNat_ofNat'] at this
    rcases hx' with rfl | rfl | rfl <;> simp at this <;> omega
  · by_cases he : r = 65533
    · subst he
      exact rune_error w
    · by_cases hv : (r : Int) < 55296 ∨ (57343 < (r : Int) ∧ (r : Int) ≤ 1114111)
      · exact rune_valid r w (by omega) (by omega) (by rw [beq_eq_false_iff_ne]; omega) hv
      · exact rune_invalid r w (by omega) (by omega) (by rw [beq_eq_false_iff_ne]; omega) hv
theorem rune_hit (x : UInt8) (w : World) (hx : isEnd x = true) :
    ∃ v : Int, 0 ≤ v ∧ Calls Try.prog 27 #[.string ⟨#[47, 63, 35]⟩, .int .i32 x.toNat] w fun e w' => e = .returned (.int .i64 v) ∧ w = w' := by
  have hx' : x = 47 ∨ x = 63 ∨ x = 35 := by unfold isEnd at hx; simpa using hx
  refine ⟨Lib.indexByte [47, 63, 35] x, by rcases hx' with rfl | rfl | rfl <;> decide, ?_⟩
  have hlt : x.toNat < 128 := by rcases hx' with rfl | rfl | rfl <;> decide
  refine (Try.strings_IndexRune_ascii ⟨#[47, 63, 35]⟩ x.toNat w (by omega) (by omega)).mono ?_
  rintro e w' ⟨rfl, rfl⟩
  exact ⟨ret_int (by simp), rfl⟩

/-- The bytes that a decoding takes in beyond ASCII are all beyond ASCII. -/
theorem decode_cont (s : ByteArray) (i : Nat) (h : i < s.size) (ha : 128 ≤ (s[i]'h).toNat) : 1 ≤ (Utf8.decode s i).2 ∧ i + (Utf8.decode s i).2 ≤ s.size ∧ ∀ j (hj : j < s.size), i ≤ j → j < i + (Utf8.decode s i).2 → 128 ≤ (s[j]'hj).toNat := by
  have g : ∀ k (hk : i + k < s.size), s.get! (i + k) = s[i + k]'hk := fun k hk => by
    simp [ByteArray.get!, getElem!_pos, hk]
    rfl
  have e0 : s.get! (i + 0) = s[i]'h := g 0 h
  have hn : ¬ (s[i]'h).toNat < 128 := by omega
  have fin1 : ∀ j (hj : j < s.size), i ≤ j → j < i + 1 → 128 ≤ (s[j]'hj).toNat := by
    intro j hj h1 h2
    obtain rfl : j = i := by omega
    exact ha
  have c1 : ∀ k, (decide (i + k < s.size) && (s.get! (i + k)).toNat / 64 == 2) = true → ∃ hk : i + k < s.size, 128 ≤ (s[i + k]'hk).toNat := by
    intro k hk
    simp only [Bool.and_eq_true, decide_eq_true_eq, beq_iff_eq] at hk
    refine ⟨hk.1, ?_⟩
    rw [← g k hk.1]
    omega
  simp only [Utf8.decode, e0, hn, if_false]
  repeat' split
  all_goals first
    | exact ⟨by omega, by omega, fin1⟩
    | skip
  · rename_i q _
    obtain ⟨_, p1⟩ := Bool.and_eq_true_iff.1 q
    obtain ⟨k1, r1⟩ := c1 1 p1
    refine ⟨by simp, by simp only; omega, fun j hj h1 h2 => ?_⟩
    simp only at h2
    rcases (show j = i ∨ j = i + 1 by omega) with rfl | rfl
    · exact ha
    · exact r1
  · rename_i _ q _
    obtain ⟨q1, p2⟩ := Bool.and_eq_true_iff.1 q
    obtain ⟨_, p1⟩ := Bool.and_eq_true_iff.1 q1
    obtain ⟨k1, r1⟩ := c1 1 p1
    obtain ⟨k2, r2⟩ := c1 2 p2
    refine ⟨by simp, by simp only; omega, fun j hj h1 h2 => ?_⟩
    simp only at h2
    rcases (show j = i ∨ j = i + 1 ∨ j = i + 2 by omega) with rfl | rfl | rfl
    · exact ha
    · exact r1
    · exact r2
  · rename_i _ _ q _
    obtain ⟨q2, p3⟩ := Bool.and_eq_true_iff.1 q
    obtain ⟨q1, p2⟩ := Bool.and_eq_true_iff.1 q2
    obtain ⟨_, p1⟩ := Bool.and_eq_true_iff.1 q1
    obtain ⟨k1, r1⟩ := c1 1 p1
    obtain ⟨k2, r2⟩ := c1 2 p2
    obtain ⟨k3, r3⟩ := c1 3 p3
    refine ⟨by simp, by simp only; omega, fun j hj h1 h2 => ?_⟩
    simp only at h2
    rcases (show j = i ∨ j = i + 1 ∨ j = i + 2 ∨ j = i + 3 by omega) with rfl | rfl | rfl | rfl
    · exact ha
    · exact r1
    · exact r2
    · exact r3

/-- No byte among the first i ends the authority. -/
def NoEnd (l : List UInt8) (i : Nat) : Prop := ∀ j, j < i → isEnd (l.getD j 0) = false
theorem findIdx_end (l : List UInt8) (i : Nat) (hi : i < l.length) (h : NoEnd l i) (he : isEnd (l.getD i 0) = true) : l.findIdx isEnd = i := by
  rw [List.findIdx_eq hi]
  refine ⟨by simpa [List.getD, hi] using he, fun j hj => ?_⟩
  have := h j hj
  simpa [List.getD, show j < l.length by omega] using this
theorem findIdx_none (l : List UInt8) (h : NoEnd l l.length) : l.findIdx isEnd = l.length := by
  rw [List.findIdx_eq_length]
  intro x hx
  obtain ⟨j, hj, rfl⟩ := List.mem_iff_getElem.1 hx
  have := h j hj
  simpa [List.getD, hj] using this
/-- What strings.IndexAny answers at slash, question mark, hash. -/
def anyAt (l : List UInt8) : Int := if l.findIdx isEnd < l.length then (l.findIdx isEnd : Int) else -1

theorem any_short (s : ByteArray) (w : World) (h8 : s.size ≤ 8) :
    Calls Try.prog 23 #[.string s, .string ⟨#[47, 63, 35]⟩] w fun e w' => e = .returned (.int .i64 (anyAt (bl s))) ∧ Below w.heap.size w w' := by
  have h8z : decide ((8 : Int) < (s.size : Int)) = false := decide_eq_false (by omega)
  go_enter Try.func23, Try.ntmps23
  go_wp2
  go_loopg [9, 10] s.size (fun g _ _ wx => ∃ i : Nat, i + g = s.size ∧ wx.heap[w.heap.size]? = some (.stringIter s i) ∧ Hid (NoEnd (bl s) i) ∧ Hid (Below w.heap.size w wx))
  case atStart => exact ⟨0, by omega, World.iter_heap w s 0, fun j hj => by omega, (Below.refl _ w).alloc (Nat.le_refl _) _⟩
  case round =>
    obtain ⟨i, hig, hit, HN, HB⟩ := hrel
    cases gk with
    | zero =>
      obtain rfl : i = s.size := by omega
      have hnx := fun ty => Lib.run_next_end_at (P := Try.prog) wr w.heap.size s s.size ty hit (by omega)
      clear hit
      go_wp2
      go_ret
      refine ⟨ret_int ?_, HB.out⟩
      unfold anyAt
      rw [findIdx_none (bl s) (by rw [bl_len]; exact HN.out), if_neg (by omega)]
    | succ g =>
      have hi : i < s.size := by omega
      obtain ⟨x, hx⟩ : ∃ x : UInt8, s[i]'hi = x := ⟨_, rfl⟩
      have Hxl : Hid ((bl s).getD i 0 = x) := by show _ = _; rw [← bl_get s i hi, hx]
      by_cases h128 : x.toNat < 128
      · have hnx := fun ty => Lib.run_next_ascii_at (P := Try.prog) wr w.heap.size s i ty hit hi (by rw [hx]; exact h128)
        rw [hx] at hnx
        have Hit1 : Hid ((wr.iterAt w.heap.size s (i + 1)).heap[w.heap.size]? = some (.stringIter s (i + 1))) := Lib.iterAt_heap wr w.heap.size s i (i + 1) hit
        have HB1 : Hid (Below w.heap.size w (wr.iterAt w.heap.size s (i + 1))) := Lib.below_iterAt HB.out (Nat.le_refl _) s (i + 1)
        clear hit hx
        generalize wr.iterAt w.heap.size s (i + 1) = W1 at *
        cases he : isEnd x with
        | true =>
          have HE : Hid (isEnd x = true) := he
          obtain ⟨v, hv, hC⟩ := rune_hit x W1 he
          have HC : Hid _ := hC
          clear he hC
          go_wp2_with (go_at_call 27; refine (Calls.mono HC.out ?_); rintro e w' ⟨rfl, rfl⟩)
          go_ret
          refine ⟨ret_int ?_, HB1.out⟩
          unfold anyAt
          rw [findIdx_end (bl s) i (by rw [bl_len]; exact hi) HN.out (by rw [Hxl.out]; exact HE.out), if_pos (by rw [bl_len]; exact hi)]
        | false =>
          have HE : Hid (isEnd x = false) := he
          have hne : x.toNat ≠ 47 ∧ x.toNat ≠ 63 ∧ x.toNat ≠ 35 := by
            unfold isEnd at he
            simp only [Bool.or_eq_false_iff, beq_eq_false_iff_ne] at he
            refine ⟨fun e => he.1 (UInt8.toNat_inj.1 e), fun e => he.2.1 (UInt8.toNat_inj.1 e), fun e => he.2.2 (UInt8.toNat_inj.1 e)⟩
          have HC : Hid _ := rune_miss x.toNat W1 (by omega) hne
          clear he hne
          go_wp2_with (go_at_call 27; refine (Calls.mono HC.out ?_); rintro e w2 ⟨rfl, hb2⟩)
          have hlt : w.heap.size < W1.heap.size := (Array.getElem?_eq_some_iff.1 Hit1.out).1
          go_roundg g
          case measure => omega
          case rel =>
            refine ⟨i + 1, by omega, by rw [hb2.block _ hlt]; exact Hit1.out, fun j hj => ?_, HB1.out.trans (hb2.mono (by omega))⟩
            by_cases hji : j = i
            · rw [hji, Hxl.out]; exact HE.out
            · exact HN.out j (by omega)
      · obtain ⟨d1, d2, d3⟩ := decode_cont s i hi (by rw [hx]; omega)
        have dh := decode_high s i hi (by rw [hx]; omega)
        have dl := decode_le s i
        have hnx := fun ty => Lib.run_next_any_at (P := Try.prog) wr w.heap.size s i ty hit hi
        have HD3 : Hid _ := d3
        clear d3
        generalize (Utf8.decode s i).1 = r at *
        generalize (Utf8.decode s i).2 = n at *
        have Hit1 : Hid ((wr.iterAt w.heap.size s (i + n)).heap[w.heap.size]? = some (.stringIter s (i + n))) := Lib.iterAt_heap wr w.heap.size s i (i + n) hit
        have HB1 : Hid (Below w.heap.size w (wr.iterAt w.heap.size s (i + n))) := Lib.below_iterAt HB.out (Nat.le_refl _) s (i + n)
        clear hit hx
        generalize wr.iterAt w.heap.size s (i + n) = W1 at *
        have HC : Hid _ := rune_miss r W1 (by omega) (by omega)
        go_wp2_with (go_at_call 27; refine (Calls.mono HC.out ?_); rintro e w2 ⟨rfl, hb2⟩)
        have hlt : w.heap.size < W1.heap.size := (Array.getElem?_eq_some_iff.1 Hit1.out).1
        go_roundg (g + 1 - n)
        case measure => omega
        case rel =>
          refine ⟨i + n, by omega, by rw [hb2.block _ hlt]; exact Hit1.out, fun j hj => ?_, HB1.out.trans (hb2.mono (by omega))⟩
          by_cases hji : j < i
          · exact HN.out j hji
          · have hjs : j < s.size := by omega
            have h1 := HD3.out j hjs (by omega) hj
            rw [bl_get s j hjs] at h1
            cases he : isEnd ((bl s).getD j 0) with
            | false => rfl
            | true =>
              unfold isEnd at he
              simp only [Bool.or_eq_true, beq_iff_eq] at he
              rcases he with e | e | e <;> rw [e] at h1 <;> simp at h1
end Go.Proofs.Qxb6614464a
