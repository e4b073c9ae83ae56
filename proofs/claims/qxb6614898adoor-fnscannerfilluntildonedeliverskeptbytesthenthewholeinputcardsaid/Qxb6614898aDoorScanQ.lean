/-
  FnScannerFillUntilDoneDeliversKeptBytesThenTheWholeInput: THE WALK.
-/
import Derived.Test.Qxb6614898aDoorScanO
namespace Go.Proofs.Qxb6614898aDoor
open Go.RowKit Go.Joins
set_option linter.unusedVariables false
set_option maxHeartbeats 8000000
set_option maxRecDepth 1000000

theorem b19_ok (a0 a1 : Option Addr) (n0 c0 n1 c1 : Nat) (pos en lines : Int) (eof : Bool) (w : World) (hs : n0 + n1 ≤ 1048576) :
    Calls Tryd.prog 19 #[.slice a0 n0 c0, .int .i64 pos, .int .i64 en, .int .i64 lines, .bool eof, .slice a1 n1 c1] w fun e w' => e = .returned (.bool true) ∧ w = w' := by
  go_enter Tryd.func19, Tryd.ntmps19
  go_wp2
  go_ret
  exact ⟨rfl, rfl⟩
theorem b19_no (a0 a1 : Option Addr) (n0 c0 n1 c1 : Nat) (pos en lines : Int) (eof : Bool) (w : World) (h0 : n0 ≤ maxLen) (h1 : n1 ≤ maxLen) (hs : 1048576 < n0 + n1) :
    Calls Tryd.prog 19 #[.slice a0 n0 c0, .int .i64 pos, .int .i64 en, .int .i64 lines, .bool eof, .slice a1 n1 c1] w fun e w' => e = .returned (.bool false) ∧ w = w' := by
  unfold maxLen at h0 h1
  rcases (show 1048576 < n0 ∨ (n0 ≤ 1048576 ∧ 1048576 < n1) ∨ (n0 ≤ 1048576 ∧ n1 ≤ 1048576 ∧ 1048576 < n0 + n1) by omega) with g1 | ⟨g1, g2⟩ | ⟨g1, g2, g3⟩
  all_goals
    go_enter Tryd.func19, Tryd.ntmps19
    go_wp2
    go_ret
    exact ⟨rfl, rfl⟩
section
variable (a0 a1 : Option Addr) (n0 c0 n1 c1 : Nat) (pos en lines : Int) (eof : Bool) (w : World)
theorem dr_long (h0 : n0 ≤ maxLen) (h1 : n1 ≤ maxLen) (hs : 1048576 < n0 + n1) :
    Calls Tryd.prog 5 #[.slice a0 n0 c0, .int .i64 pos, .int .i64 en, .int .i64 lines, .bool eof, .slice a1 n1 c1] w fun e w' => e = .returned (.bool true) ∧ Below w.heap.size w w' := by
  go_enter Tryd.func5, Tryd.ntmps5
  go_wp2_with (go_at_call 19; refine (b19_no _ _ _ _ _ _ _ _ _ _ _ h0 h1 hs).mono ?_; rintro e w' ⟨rfl, rfl⟩)
  go_ret
  exact ⟨rfl, Below.refl _ _⟩
theorem dr_each (hs : n0 + n1 ≤ 1048576) (hx : 524288 < n0 ∨ 524288 < n1) :
    Calls Tryd.prog 5 #[.slice a0 n0 c0, .int .i64 pos, .int .i64 en, .int .i64 lines, .bool eof, .slice a1 n1 c1] w fun e w' => e = .returned (.bool true) ∧ Below w.heap.size w w' := by
  rcases (show 524288 < n0 ∨ (n0 ≤ 524288 ∧ 524288 < n1) by omega) with g1 | ⟨g1, g2⟩
  all_goals
    go_enter Tryd.func5, Tryd.ntmps5
    go_wp2_with (go_at_call 19; refine (b19_ok _ _ _ _ _ _ _ _ _ _ _ (by omega)).mono ?_; rintro e w' ⟨rfl, rfl⟩)
    go_ret
    exact ⟨rfl, Below.refl _ _⟩
theorem dr_out (g0 : n0 ≤ 524288) (g1 : n1 ≤ 524288) (hx : pos < 0 ∨ en < pos ∨ (n0 : Int) < en ∨ 9223372036854775807 - (n0 : Int) < lines) :
    Calls Tryd.prog 5 #[.slice a0 n0 c0, .int .i64 pos, .int .i64 en, .int .i64 lines, .bool eof, .slice a1 n1 c1] w fun e w' => e = .returned (.bool true) ∧ Below w.heap.size w w' := by
  rcases (show pos < 0 ∨ (0 ≤ pos ∧ en < pos) ∨ (0 ≤ pos ∧ pos ≤ en ∧ (n0 : Int) < en) ∨ (0 ≤ pos ∧ pos ≤ en ∧ en ≤ (n0 : Int) ∧ 9223372036854775807 - (n0 : Int) < lines) by omega) with q1 | ⟨q1, q2⟩ | ⟨q1, q2, q3⟩ | ⟨q1, q2, q3, q4⟩
  all_goals
    go_enter Tryd.func5, Tryd.ntmps5
    go_wp2_with (go_at_call 19; refine (b19_ok _ _ _ _ _ _ _ _ _ _ _ (by omega)).mono ?_; rintro e w' ⟨rfl, rfl⟩)
    go_ret
    exact ⟨rfl, Below.refl _ _⟩
end

section
variable (a0 a1 : Option Addr) (n0 c0 n1 c1 : Nat) (B D : List Int) (w : World)
theorem dr_law (nb no nc : Nat) (ea : Addr) (hg : Gl w.heap.size w nb no nc ea) (p e : Nat) (lines : Int) (g0 : n0 ≤ 524288) (g1 : n1 ≤ 524288) (hc0 : n0 ≤ c0) (q2 : p ≤ e) (q3 : e ≤ n0) (q0 : -9223372036854775808 ≤ lines) (q4 : lines ≤ 9223372036854775807 - (n0 : Int)) (hB : Arg .u8 w a0 n0 c0 B) (hD : Arg .u8 w a1 n1 c1 D) (hS : Sl .u8 w a0 n0 B) (hT : Sl .u8 w a1 n1 D) (hb : Byt B) (hbD : Byt D) :
    Calls Tryd.prog 5 #[.slice a0 n0 c0, .int .i64 p, .int .i64 e, .int .i64 lines, .bool false, .slice a1 n1 c1] w fun e w' => e = .returned (.bool true) ∧ Below w.heap.size w w' := by
  have HB : Hid _ := hB
  have HD : Hid _ := hD
  have HS : Hid _ := hS
  have HT : Hid _ := hT
  have HG : Hid _ := hg
  have Hb : Hid _ := hb
  have HbD : Hid _ := hbD
  clear hB hD hS hT hg hb hbD
  go_enter Tryd.func5, Tryd.ntmps5
  go_wp2_with (go_at_call 19; refine (b19_ok _ _ _ _ _ _ _ _ _ _ _ (by omega)).mono ?_; rintro e w' ⟨rfl, rfl⟩)
  refine (clone_any a1 n1 c1 D w (by omega) HD.out).mono ?_
  rintro e9 w1 ⟨da, rfl, hb1, hD1, hda⟩
  have HA1 : Hid _ := And.intro hb1 (And.intro hD1 hda)
  clear hb1 hD1 hda
  go_wp2_with fail
  refine (clone_any a0 n0 c0 B w1 (by omega) (Arg.below HB.out HA1.out.1)).mono ?_
  rintro e9 w2 ⟨ba, rfl, hb2, hB2, hba⟩
  have HM : Hid _ := made_st HA1.out.1 HA1.out.2.1 HA1.out.2.2 hb2 hB2 hba
  have HB2 : Hid _ := hB2
  clear hb2 hB2 hba
  go_wp2_with fail
  refine (new_at w2 ba n0 B da n1 D p e lines false HB2.out HM.out.1 HM.out.2.1).mono ?_
  rintro e9 w3 ⟨rfl, hb3, _, hsn⟩
  have HT3 : Hid _ := HM.out.2.2 w3 p e lines false hb3 hsn
  clear hb3 hsn HM HB2
  generalize w2.heap.size + 1 = bs at *
  generalize w2.heap.size = br at *
  obtain ⟨k, hk⟩ : ∃ k, k = e - p := ⟨_, rfl⟩
  have HF : Hid _ := drain_at w.heap.size w bs br da n0 n1 k p e B D lines nb no nc ea HG.out HT3.out.sn.buf.1 HT3.out.sn.dat.1 Hb.out HbD.out q2 q3 hk (by omega) q0 q4 ba w3 HT3.out
  have hkI : (e : Int) - (p : Int) = (k : Int) := by omega
  have hkn : p + k ≤ n0 := by omega
  have Hk : Hid _ := hk
  clear hk
  go_wp2_with fail
  refine (Calls.mono HF.out ?_)
  rintro e9 w4 ⟨rfl, ba2, S, X, E, L, ev, ri, hst, hfin⟩
  have HT4 : Hid _ := hst
  have HFn : Hid _ := hfin
  clear hst hfin HF HT3
  go_wp2_with fail
  refine (state_at w4 _ _ _ _ _ _ _ _ _ _ _ _ _ HT4.out.sn).mono ?_
  rintro e9 w5 ⟨rfl, mq, rfl⟩
  have HT5 : Hid _ := HT4.out.drewN mq
  clear HT4
  generalize w4.drewN mq = w5 at *
  have hnl : (nls (B.take p) : Int) ≤ n0 := by
    have h1 := List.count_le_length (a := (10 : Int)) (l := B.take p)
    have h3 := HB.out.1
    have h4 : (B.take p).length ≤ B.length := by rw [List.length_take]; omega
    unfold nls
    omega
  have HC : Hid (∀ q : Nat, _) := fun q => cnl_any a0 p c0 (B.take p) (w5.drewN q) (by omega) (Sl.drewN (Sl.take (Sl.below (k := .u8) (zs := B) HS.out (Nat.le_refl _) HT5.out.bel) p (by omega)) q)
  have hL0 : L = lines + nls (B.take p) := HFn.out.hL
  subst hL0
  have hev := HFn.out.hev
  subst hev
  generalize nls (B.take p) = N at *
  have hwr : IntKind.i64.wrap (lines + (N : Int)) = lines + (N : Int) := wrap_id (by omega) (by omega)
  have hpc : p ≤ c0 := by omega
  have HS5 : Hid (Sl .u8 w5 a0 n0 B) := Sl.below (k := .u8) (zs := B) HS.out (Nat.le_refl _) HT5.out.bel
  have HT6 : Hid (Sl .u8 w5 a1 n1 D) := Sl.below (k := .u8) (zs := D) HT.out (Nat.le_refl _) HT5.out.bel
  have HX : Hid (Sl .u8 w5 ba2 S X) := HT5.out.sl
  have HBel : Hid (∀ q, Below w.heap.size w (w5.drewN q)) := fun q => (HT5.out.drewN q).bel
  clear HA1 HD HS HT HB HG Hb HbD HT5
  by_cases h0 : n0 = 0
  · have hE := HFn.out.hE
    rw [if_neg (by omega)] at hE
    have hk0 : k = 0 := by omega
    have hp0 : p = 0 := by omega
    have he0 : e = 0 := by omega
    have hS0 : S = 0 := by rcases HFn.out.bound with h | h <;> omega
    subst hk0 hp0 he0 h0 hS0
    obtain rfl : E = 0 := by omega
    clear HFn
    go_wp2_with fail
    go_loopw [23] (fun i wr => i = .int .i64 0 ∧ w5 = wr) (fun i _ => 0)
    case atStart => exact ⟨rfl, rfl⟩
    case round =>
      obtain ⟨rfl, rfl⟩ := hrel
      go_wp2_with (go_at_call 18; refine (Calls.mono (HC.out 0) ?_); rintro e w' ⟨rfl, rfl⟩)
      go_ret
      exact ⟨rfl, HBel.out 0⟩
  · have hE := HFn.out.hE
    rw [if_pos (by omega)] at hE
    subst hE
    have hES := HFn.out.ES
    have HK : Hid _ := HFn.out.kept
    have HR : Hid _ := HFn.out.red (by omega)
    have HBd : Hid _ := HFn.out.bound
    have hn0 : 0 < n0 := by omega
    clear HFn
    have hSb : S ≤ 4194304 := by rcases HBd.out with h | h <;> omega
    go_wp2_with fail
    go_loopw [23] (fun i wr => ∃ j : Nat, j ≤ k ∧ i = .int .i64 j ∧ ∃ q, wr = w5.drewN q) (fun i _ => k - (intOf i).toNat)
    case atStart => exact ⟨0, Nat.zero_le _, rfl, 0, rfl⟩
    case round =>
      obtain ⟨j, hj, rfl, q, rfl⟩ := hrel
      by_cases hlt : j < k
      · obtain ⟨bx, ox, rfl, _, hcx⟩ := HX.out.2 (by omega)
        have hx := hcx j (by omega)
        rw [HK.out j hlt] at hx
        obtain ⟨bq, oq, rfl, _, hcq⟩ := HS5.out.2 (by omega)
        have hy := hcq (p + j) (by omega)
        clear hcx hcq
        generalize B.getD (p + j) 0 = x at *
        have i1 : (j : Int) < (S : Int) := by omega
        have i2 : (p : Int) + (j : Int) < (n0 : Int) := by omega
        go_wp2
        go_quiet (fail)
        go_wp2
        go_round
        case rel => exact ⟨j + 1, by omega, by go_num, q + nq, by simp⟩
        case measure => simp [intOf]; omega
      · obtain rfl : j = k := by omega
        go_wp2_with fail
        go_loopw [24] (fun i wr => ∃ t : Nat, t ≤ n1 ∧ i = .int .i64 t ∧ ∃ q, wr = w5.drewN q) (fun i _ => n1 - (intOf i).toNat)
        case atStart => exact ⟨0, Nat.zero_le _, rfl, q, rfl⟩
        case round =>
          obtain ⟨t, ht, rfl, q2, rfl⟩ := hrel
          by_cases hlt2 : t < n1
          · obtain ⟨bx, ox, rfl, _, hcx⟩ := HX.out.2 (by omega)
            have hx := hcx (j + t) (by omega)
            rw [HR.out t hlt2] at hx
            obtain ⟨bq, oq, rfl, _, hcq⟩ := HT6.out.2 (by omega)
            have hy := hcq t (by omega)
            clear hcx hcq
            generalize D.getD t 0 = x at *
            have i1 : (j : Int) + (t : Int) < (S : Int) := by omega
            have i2 : (t : Int) < (n1 : Int) := by omega
            go_wp2
            go_quiet (fail)
            go_wp2
            go_round
            case rel => exact ⟨t + 1, by omega, by go_num, q2 + nq, by simp⟩
            case measure => simp [intOf]; omega
          · obtain rfl : t = n1 := by omega
            by_cases hSn : S = n0
            · subst hSn
              go_wp2_with (go_at_call 18; refine (Calls.mono (HC.out _) ?_); rintro e w' ⟨rfl, rfl⟩)
              go_ret
              exact ⟨rfl, HBel.out _⟩
            · have hS4 : (S : Int) < 4 * ((j : Int) + (t : Int)) := by rcases HBd.out with h | h <;> omega
              have hSf : ((S : Int) == (n0 : Int)) = false := by rw [beq_eq_false_iff_ne]; omega
              go_wp2_with (go_at_call 18; refine (Calls.mono (HC.out _) ?_); rintro e w' ⟨rfl, rfl⟩)
              go_ret
              exact ⟨rfl, HBel.out _⟩
theorem dr_done (pos en lines : Int) (g0 : n0 ≤ 524288) (g1 : n1 ≤ 524288) (q1 : 0 ≤ pos) (q2 : pos ≤ en) (q3 : en ≤ (n0 : Int)) (q4 : lines ≤ 9223372036854775807 - (n0 : Int)) (hB : Arg .u8 w a0 n0 c0 B) (hD : Arg .u8 w a1 n1 c1 D) (hS : Sl .u8 w a0 n0 B) :
    Calls Tryd.prog 5 #[.slice a0 n0 c0, .int .i64 pos, .int .i64 en, .int .i64 lines, .bool true, .slice a1 n1 c1] w fun e w' => e = .returned (.bool true) ∧ Below w.heap.size w w' := by
  obtain ⟨p, rfl⟩ : ∃ p : Nat, pos = p := ⟨pos.toNat, by omega⟩
  obtain ⟨e, rfl⟩ : ∃ e : Nat, en = e := ⟨en.toNat, by omega⟩
  have HB : Hid _ := hB
  have HD : Hid _ := hD
  have HS : Hid _ := hS
  clear hB hD hS
  go_enter Tryd.func5, Tryd.ntmps5
  go_wp2_with (go_at_call 19; refine (b19_ok _ _ _ _ _ _ _ _ _ _ _ (by omega)).mono ?_; rintro e w' ⟨rfl, rfl⟩)
  refine (clone_any a1 n1 c1 D w (by omega) HD.out).mono ?_
  rintro e9 w1 ⟨da, rfl, hb1, hD1, hda⟩
  have HA1 : Hid _ := And.intro hb1 (And.intro hD1 hda)
  clear hb1 hD1 hda
  go_wp2_with fail
  refine (clone_any a0 n0 c0 B w1 (by omega) (Arg.below HB.out HA1.out.1)).mono ?_
  rintro e9 w2 ⟨ba, rfl, hb2, hB2, hba⟩
  have HM : Hid _ := made_st HA1.out.1 HA1.out.2.1 HA1.out.2.2 hb2 hB2 hba
  have HB2 : Hid _ := hB2
  clear hb2 hB2 hba
  go_wp2_with fail
  refine (new_at w2 ba n0 B da n1 D p e lines true HB2.out HM.out.1 HM.out.2.1).mono ?_
  rintro e9 w3 ⟨rfl, hb3, _, hsn⟩
  have HT3 : Hid _ := HM.out.2.2 w3 p e lines true hb3 hsn
  clear hb3 hsn HM HB2
  generalize w2.heap.size + 1 = bs at *
  generalize w2.heap.size = br at *
  go_wp2_with fail
  refine (drain_done bs br da n0 n1 B D lines w3 ba p e 0 HT3.out.sn).mono ?_
  rintro e9 w4 ⟨rfl, rfl⟩
  go_wp2_with fail
  refine (state_at w3 _ _ _ _ _ _ _ _ _ _ _ _ _ HT3.out.sn).mono ?_
  rintro e9 w5 ⟨rfl, mq, rfl⟩
  have HT5 : Hid _ := HT3.out.drewN mq
  clear HT3
  generalize w3.drewN mq = w5 at *
  obtain ⟨k, hk⟩ : ∃ k, k = e - p := ⟨_, rfl⟩
  have hkI : (e : Int) - (p : Int) = (k : Int) := by omega
  have hkn : p + k ≤ n0 := by omega
  have Hk : Hid _ := hk
  clear hk
  have HS5 : Hid (Sl .u8 w5 a0 n0 B) := Sl.below (k := .u8) (zs := B) HS.out (Nat.le_refl _) HT5.out.bel
  have HX : Hid (Sl .u8 w5 ba n0 B) := HT5.out.sl
  have HBel : Hid (∀ q, Below w.heap.size w (w5.drewN q)) := fun q => (HT5.out.drewN q).bel
  clear HA1 HD HS HB HT5
  go_wp2_with fail
  go_loopw [23] (fun i wr => ∃ j : Nat, j ≤ k ∧ i = .int .i64 j ∧ ∃ q, wr = w5.drewN q) (fun i _ => k - (intOf i).toNat)
  case atStart => exact ⟨0, Nat.zero_le _, rfl, 0, rfl⟩
  case round =>
    obtain ⟨j, hj, rfl, q, rfl⟩ := hrel
    by_cases hlt : j < k
    · obtain ⟨bx, ox, rfl, _, hcx⟩ := HX.out.2 (by omega)
      have hx := hcx (p + j) (by omega)
      obtain ⟨bq, oq, rfl, _, hcq⟩ := HS5.out.2 (by omega)
      have hy := hcq (p + j) (by omega)
      clear hcx hcq
      generalize B.getD (p + j) 0 = x at *
      have i2 : (p : Int) + (j : Int) < (n0 : Int) := by omega
      go_wp2
      go_quiet (fail)
      go_wp2
      go_round
      case rel => exact ⟨j + 1, by omega, by go_num, q + nq, by simp⟩
      case measure => simp [intOf]; omega
    · obtain rfl : j = k := by omega
      go_wp2_with fail
      go_ret
      exact ⟨rfl, HBel.out _⟩
end
end Go.Proofs.Qxb6614898aDoor
