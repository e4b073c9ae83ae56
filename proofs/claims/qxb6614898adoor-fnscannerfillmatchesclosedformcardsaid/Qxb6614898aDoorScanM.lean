/-
  FnScannerFillMatchesClosedForm: THE WALK.
-/
import Derived.Test.Qxb6614898aDoorScanL
namespace Go.Proofs.Qxb6614898aDoor
open Go.RowKit Go.Joins
set_option linter.unusedVariables false
set_option maxHeartbeats 8000000
set_option maxRecDepth 1000000

section
variable (a0 a1 : Option Addr) (n0 c0 n1 c1 : Nat) (B D : List Int) (w : World)
theorem cf_law (nb no nc : Nat) (ea : Addr) (hg : Gl w.heap.size w nb no nc ea) (p e : Nat) (lines : Int) (g0 : n0 ≤ 524288) (g1 : n1 ≤ 524288) (hc0 : n0 ≤ c0) (q2 : p ≤ e) (q3 : e ≤ n0) (q0 : -9223372036854775808 ≤ lines) (q4 : lines ≤ 9223372036854775807 - (n0 : Int)) (hB : Arg .u8 w a0 n0 c0 B) (hD : Arg .u8 w a1 n1 c1 D) (hS : Sl .u8 w a0 n0 B) (hT : Sl .u8 w a1 n1 D) (hb : ∀ x ∈ B, 0 ≤ x ∧ x < 256) :
    Calls Tryd.prog 4 #[.slice a0 n0 c0, .int .i64 p, .int .i64 e, .int .i64 lines, .bool false, .slice a1 n1 c1] w fun e w' => e = .returned (.bool true) ∧ Below w.heap.size w w' := by
  have HB : Hid _ := hB
  have HD : Hid _ := hD
  have HS : Hid _ := hS
  have HT : Hid _ := hT
  have HG : Hid _ := hg
  have Hb : Hid _ := hb
  clear hB hD hS hT hg hb
  go_enter Tryd.func4, Tryd.ntmps4
  go_wp2_with (go_at_call 13; refine (b13_ok _ _ _ _ _ _ _ _ _ _ _ (by omega)).mono ?_; rintro e w' ⟨rfl, rfl⟩)
  refine (clone_any a1 n1 c1 D w (by omega) HD.out).mono ?_
  rintro e9 w1 ⟨da, rfl, hb1, hD1, hda⟩
  have HA1 : Hid _ := And.intro hb1 (And.intro hD1 hda)
  clear hb1 hD1 hda
  go_wp2_with fail
  refine (clone_any a0 n0 c0 B w1 (by omega) (Arg.below HB.out HA1.out.1)).mono ?_
  rintro e9 w2 ⟨ba, rfl, hb2, hB2, hba⟩
  have HM : Hid _ := made_st HA1.out.1 HA1.out.2.1 HA1.out.2.2 hb2 hB2 hba
  have HB2 : Hid _ := hB2
  clear hb2 hB2 hba
  go_wp2_with fail
  refine (new_at w2 ba n0 B da n1 D p e lines false HB2.out HM.out.1 HM.out.2.1).mono ?_
  rintro e9 w3 ⟨rfl, hb3, _, hsn⟩
  have HT3 : Hid _ := HM.out.2.2 w3 p e lines false hb3 hsn
  clear hb3 hsn HM HB2
  generalize w2.heap.size + 1 = bs at *
  generalize w2.heap.size = br at *
  obtain ⟨k, hk⟩ : ∃ k, k = e - p := ⟨_, rfl⟩
  obtain ⟨m, hm⟩ : ∃ m, m = min (n1 - 0) (size2 n0 k - k) := ⟨_, rfl⟩
  have HF : Hid _ := zfill_of (fill_at w.heap.size w w3 nb no nc ea HG.out bs br ba n0 B da n1 D p e 0 k lines HT3.out q2 q3 (by omega) (by omega) (by omega) Hb.out (by omega) (by omega) hk m hm)
  have HG1 : Hid (∀ j, (splice (grown (moved B p k) n0 k) k ((D.drop 0).take m)).getD j 0 = if j < k then B.getD (p + j) 0 else if j < k + m then D.getD (0 + (j - k)) 0 else if n0 / 2 < k then 0 else B.getD j 0) := fun j => fill_get B D p e k n0 0 m j HT3.out.sn.buf.1 hk q2 q3 (by rw [HT3.out.sn.dat.1]; exact hm)
  obtain ⟨X, hX⟩ : ∃ X, X = splice (grown (moved B p k) n0 k) k ((D.drop 0).take m) := ⟨_, rfl⟩
  obtain ⟨S2, hS2⟩ : ∃ S2, S2 = size2 n0 k := ⟨_, rfl⟩
  rw [← hX, ← hS2] at HF
  rw [← hX] at HG1
  have hkS : k ≤ S2 := by rw [hS2]; unfold size2; split <;> omega
  have hS4 : S2 ≤ 1048576 := by rw [hS2]; unfold size2; split <;> omega
  obtain ⟨r, hr⟩ : ∃ r, r = S2 - k := ⟨_, rfl⟩
  have hkI : (e : Int) - (p : Int) = (k : Int) := by omega
  have hrI : (S2 : Int) - (k : Int) = (r : Int) := by omega
  have hmr : m = min n1 r := by rw [hm, hr, hS2]; omega
  have HS2 : Hid _ := hS2
  have Hmr : Hid _ := hmr
  have Hk : Hid _ := hk
  have Hr : Hid _ := hr
  rw [← hr] at HF
  have hmS : k + m ≤ S2 := by omega
  clear hX hS2 hm hmr hk hr
  go_wp2_with fail
  refine (Calls.mono HF.out ?_)
  rintro e9 w4 ⟨rfl, ba2, hst⟩
  have HT4 : Hid _ := hst
  clear hst HF HT3
  go_wp2_with fail
  refine (state_at w4 _ _ _ _ _ _ _ _ _ _ _ _ _ HT4.out.sn).mono ?_
  rintro e9 w5 ⟨rfl, mq, rfl⟩
  have HT5 : Hid _ := HT4.out.drewN mq
  clear HT4
  generalize w4.drewN mq = w5 at *
  have hnl : (nls (B.take p) : Int) ≤ n0 := by
    have h1 := List.count_le_length (a := (10 : Int)) (l := B.take p)
    have h3 := HB.out.1
    have h4 : (B.take p).length ≤ B.length := by rw [List.length_take]; omega
    unfold nls
    omega
  have HC : Hid _ := cnl_any a0 p c0 (B.take p) w5 (by omega) (Sl.take (Sl.below (k := .u8) (zs := B) HS.out (Nat.le_refl _) HT5.out.bel) p (by omega))
  generalize nls (B.take p) = N at *
  have hwr : IntKind.i64.wrap (lines + (N : Int)) = lines + (N : Int) := wrap_id (by omega) (by omega)
  have hpc : p ≤ c0 := by omega
  clear HA1 HD
  go_upto_if 117 with fail
  go_cut [22] (fun s wx => s = .int .i64 S2 ∧ wx = w5)
  case first =>
    by_cases hd : n0 / 2 < k
    · have e1 : S2 = 2 * n0 := by rw [HS2.out]; exact if_pos hd
      have hdI : (n0 : Int) / 2 < (k : Int) := by omega
      have E1 : Hid _ := e1
      clear e1
      go_wp2
      go_meet
      exact ⟨congrArg (Value.int .i64) (by have := E1.out; omega), rfl⟩
    · have e1 : S2 = n0 := by rw [HS2.out]; exact if_neg hd
      have hdI : ¬ (n0 : Int) / 2 < (k : Int) := by omega
      have E1 : Hid _ := e1
      clear e1
      go_wp2
      go_meet
      exact ⟨congrArg (Value.int .i64) (by have := E1.out; omega), rfl⟩
  case rest =>
  obtain ⟨rfl, rfl⟩ := hcut
  go_upto_if 127 with fail
  go_cut [25] (fun v wx => v = .int .i64 m ∧ wx = wc)
  case first =>
    by_cases hrn : r < n1
    · have E1 : Hid (r = m) := by show _ = _; rw [Hmr.out]; omega
      have hrnI : (r : Int) < (n1 : Int) := by omega
      go_wp2
      go_meet
      exact ⟨congrArg (Value.int .i64) (by have := E1.out; omega), rfl⟩
    · have E1 : Hid (n1 = m) := by show _ = _; rw [Hmr.out]; omega
      have hrnI : ¬ (r : Int) < (n1 : Int) := by omega
      go_wp2
      go_meet
      exact ⟨congrArg (Value.int .i64) (by have := E1.out; omega), rfl⟩
  case rest =>
  obtain ⟨rfl, hwc⟩ := hcut
  subst hwc
  go_wp2_with (go_at_call 18; refine (Calls.mono HC.out ?_); rintro e w' ⟨rfl, rfl⟩)
  have HS5 : Hid (Sl .u8 wc a0 n0 B) := Sl.below (k := .u8) (zs := B) HS.out (Nat.le_refl _) HT5.out.bel
  have HT6 : Hid (Sl .u8 wc a1 n1 D) := Sl.below (k := .u8) (zs := D) HT.out (Nat.le_refl _) HT5.out.bel
  have HX : Hid (Sl .u8 wc ba2 S2 X) := HT5.out.sl
  have HBel : Hid (Below w.heap.size w wc) := HT5.out.bel
  have hmn : m ≤ n1 := by rw [Hmr.out]; omega
  have hkn : p + k ≤ n0 := by have := Hk.out; omega
  have HSn : Hid (S2 = if n0 / 2 < k then 2 * n0 else n0) := HS2.out
  clear HC HS HT HB HG Hb HT5 hwr hnl
  go_loop [26] (fun i => ∃ j : Nat, j ≤ S2 ∧ i = .int .i64 j) (fun i => S2 - (intOf i).toNat)
  case atStart => exact ⟨0, Nat.zero_le _, rfl⟩
  case round =>
    obtain ⟨j, hj, rfl⟩ := hrel
    by_cases hlt : j < S2
    · obtain ⟨bx, ox, rfl, _, hcx⟩ := HX.out.2 (by omega)
      have hx := hcx j hlt
      rw [HG1.out j] at hx
      clear hcx
      by_cases c1 : j < k
      · rw [if_pos c1] at hx
        obtain ⟨bq, oq, rfl, _, hcq⟩ := HS5.out.2 (by omega)
        have hy := hcq (p + j) (by omega)
        clear hcq
        generalize B.getD (p + j) 0 = x at *
        have hpj : p + j < n0 := by omega
        go_wp2
        go_round
        case rel => exact ⟨j + 1, by omega, by go_num⟩
        case measure => simp [intOf]; omega
      · rw [if_neg c1] at hx
        by_cases c2 : j < k + m
        · rw [if_pos c2, Nat.zero_add] at hx
          obtain ⟨bq, oq, rfl, _, hcq⟩ := HT6.out.2 (by omega)
          obtain ⟨t, ht⟩ : ∃ t, t = j - k := ⟨_, rfl⟩
          have htI : (j : Int) - (k : Int) = (t : Int) := by omega
          have hy := hcq t (by omega)
          rw [← ht] at hx
          clear hcq
          generalize D.getD t 0 = x at *
          have htn : t < n1 := by omega
          clear ht
          go_wp2
          go_round
          case rel => exact ⟨j + 1, by omega, by go_num⟩
          case measure => simp [intOf]; omega
        · rw [if_neg c2] at hx
          by_cases hd : n0 / 2 < k
          · rw [if_pos hd] at hx
            have hdI : (n0 : Int) / 2 < (k : Int) := by omega
            go_wp2
            go_round
            case rel => exact ⟨j + 1, by omega, by go_num⟩
            case measure => simp [intOf]; omega
          · rw [if_neg hd] at hx
            have hdI : ¬ (n0 : Int) / 2 < (k : Int) := by omega
            have hS0 : S2 = n0 := by rw [HSn.out]; exact if_neg hd
            obtain ⟨bq, oq, rfl, _, hcq⟩ := HS5.out.2 (by omega)
            have hy := hcq j (by omega)
            have hjn : j < n0 := by omega
            have HS0 : Hid _ := hS0
            clear hcq hS0
            generalize B.getD j 0 = x at *
            go_wp2
            go_round
            case rel => exact ⟨j + 1, by omega, by go_num⟩
            case measure => simp [intOf]; omega
    · obtain rfl : j = S2 := by omega
      go_wp2
      go_ret
      exact ⟨rfl, HBel.out⟩
end
end Go.Proofs.Qxb6614898aDoor
