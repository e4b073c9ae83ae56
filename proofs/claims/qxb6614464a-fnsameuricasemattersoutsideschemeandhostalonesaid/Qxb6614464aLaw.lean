/-
  THE WALK of FnSameURICaseMattersOutsideSchemeAndHostAlone.
-/
import Derived.Test.Qxb6614464aFold
import Derived.Test.Qxb6614464aRegion
import Derived.OwnWalk
namespace Go.Proofs.Qxb6614464a
open Go.RowKit Uri
set_option linter.unusedVariables false
set_option maxHeartbeats 4000000
set_option maxRecDepth 1000000

theorem bytes13_ok (s : ByteArray) (x : Int) (w : World) (hs : s.size ≤ 1048576) :
    Calls Try.prog 13 #[.string s, .int .i64 x] w fun e w' => e = .returned (.bool true) ∧ w = w' := by
  go_enter Try.func13, Try.ntmps13
  go_wp2
  go_ret
  exact ⟨rfl, rfl⟩
theorem law_long (s : ByteArray) (x : Int) (w : World) (hm : s.size ≤ maxLen) (hs : 1048576 < s.size) :
    Calls Try.prog 6 #[.string s, .int .i64 x] w fun e w' => e = .returned (.bool true) ∧ Below w.heap.size w w' := by
  unfold maxLen at hm
  go_enter Try.func6, Try.ntmps6
  go_wp2
  go_ret
  exact ⟨rfl, Below.refl _ _⟩
theorem law_out (s : ByteArray) (x : Int) (w : World) (hs : s.size ≤ 1048576) (hx : x < 0 ∨ (s.size : Int) ≤ x) :
    Calls Try.prog 6 #[.string s, .int .i64 x] w fun e w' => e = .returned (.bool true) ∧ Below w.heap.size w w' := by
  have HS : ∀ w, Hid (Calls Try.prog 12 #[.string s, .string s] w fun e w' => e = .returned (.bool true) ∧ Below w.heap.size w w') := fun w => by
    have := same_any s s w hs hs
    rw [beq_self_eq_true] at this
    exact this
  rcases hx with hx | hx
  all_goals
    go_enter Try.func6, Try.ntmps6
    go_wp2_with (first | (go_at_call 13; refine (bytes13_ok _ _ _ hs).mono ?_; rintro e w' ⟨rfl, rfl⟩) | (go_at_call 12; refine (Calls.mono (HS _).out ?_); rintro e w2 ⟨rfl, hb2⟩))
    go_ret
    exact ⟨rfl, hb2⟩

/-- A row of n bytes of the call's own, in block B. -/
def Rw (B : Nat) (w : World) (n : Nat) (f : Nat → Int) (wr : World) : Prop :=
  Below B w wr ∧ B < wr.heap.size ∧ (∀ j, j < n → wr.cell? ⟨B, j, none⟩ = some (.int .u8 (f j))) ∧ ∀ j, j < n → wr.frozen? ⟨B, j, none⟩ = false
theorem Rw.set {B : Nat} {w wr : World} {n : Nat} {f : Nat → Int} (h : Rw B w n f wr) (k : Nat) (hk : k < n) (v : Int) : Rw B w n (fun j => if j = k then v else f j) (wr.setCell ⟨B, k, none⟩ (.int .u8 v)) := by
  obtain ⟨h1, h2, h3, h4⟩ := h
  refine ⟨h1.setCell (Nat.le_refl _) _, by simpa using h2, fun j hj => ?_, fun j hj => by rw [World.frozen?_setCell]; exact h4 j hj⟩
  by_cases hjk : j = k
  · subst hjk
    simp only [if_true]
    exact World.cell?_setCell_same _ _ _ (h3 j hj)
  · rw [World.cell?_setCell_other _ _ _ _ (fun e => hjk (by simpa using (congrArg Addr.off e).symm)), h3 j hj]
    simp only [if_neg hjk]
theorem Rw.congr {B : Nat} {w wr : World} {n : Nat} {f g : Nat → Int} (h : Rw B w n f wr) (he : ∀ j, j < n → f j = g j) : Rw B w n g wr :=
  ⟨h.1, h.2.1, fun j hj => by rw [h.2.2.1 j hj, he j hj], h.2.2.2⟩
theorem Try.info5 : (Try.prog.info? 5).map (fun i => (i.zero, i.size, i.bytes)) = some (some (.int .u8 0), 1, 1) := by kernel_rfl
theorem mk_row (n : Nat) (hn : n ≤ 2097152) (w : World) : ∃ W0, (Instr.makeSlice 22 (.int .i64 n) (.int .i64 n)).run Try.prog w = .ok (.slice (some ⟨w.heap.size, 0, none⟩) n n) W0 ∧ Rw w.heap.size w n (fun _ => 0) W0 := by
  obtain ⟨i0, hi, hz0, hz1, hz2⟩ := info_parts Try.info5
  have h := run_make (P := Try.prog) w 22 5 i0 (.int .u8 0) Try.underlying22 hi hz0 .i64 .i64 n n (by omega) (by omega) (by rw [hz2]; omega) (by omega)
  simp only [Int.toNat_natCast] at h
  refine ⟨_, h, (Below.refl _ w).alloc (Nat.le_refl _) _, by simp, fun j hj => ?_, fun j hj => ?_⟩
  · rw [World.cell?_alloc_mark]
    have e := toList_madeCells_one (.int .u8 0) n
    rw [hz1, Nat.mul_one]
    have e2 : (madeCells (Value.int IntKind.u8 0).cells n)[j]? = (madeCells #[Value.int IntKind.u8 0] n).toList[j]? := by rw [Array.getElem?_toList]; rfl
    rw [e2, e]
    simp [hj]
  · rw [World.frozen?_alloc_mark]
    simp
theorem flip_int (b : UInt8) : ((flip b).toNat : Int) = if 97 ≤ (b.toNat : Int) ∧ (b.toNat : Int) ≤ 122 then (b.toNat : Int) - 97 + 65 else if 65 ≤ (b.toNat : Int) ∧ (b.toNat : Int) ≤ 90 then (b.toNat : Int) + 97 - 65 else b.toNat := by
  have : ∀ n : Fin 256, ((flip (UInt8.ofNat n.val)).toNat : Int) = if 97 ≤ ((UInt8.ofNat n.val).toNat : Int) ∧ ((UInt8.ofNat n.val).toNat : Int) ≤ 122 then ((UInt8.ofNat n.val).toNat : Int) - 97 + 65 else if 65 ≤ ((UInt8.ofNat n.val).toNat : Int) ∧ ((UInt8.ofNat n.val).toNat : Int) ≤ 90 then ((UInt8.ofNat n.val).toNat : Int) + 97 - 65 else (UInt8.ofNat n.val).toNat := by decide +kernel
  have h := this ⟨b.toNat, b.toNat_lt⟩
  simpa using h

/-- What string(w) is behind the loop and the store. -/
theorem back_row (s : ByteArray) (k : Nat) (hk : k < s.size) (fv : Int) (hf : fv = ((flip ((bl s).getD k 0)).toNat : Int)) (B : Nat) (w wr : World) (h : Rw B w s.size (fun j => if j = k then fv else ((bl s).getD j 0).toNat) wr) :
    (convert 22 9 (.slice (some ⟨B, 0, none⟩) s.size s.size)).run Try.prog wr = .ok (.string (strOf ((bl s).set k (flip ((bl s).getD k 0))))) wr := by
  have := run_convert_bytes_back (P := Try.prog) wr 22 9 5 ⟨B, 0, none⟩ s.size ((bl s).set k (flip ((bl s).getD k 0))) Try.underlying22 Try.underlying5 Try.underlying9 (fun j hj => by
    have hj' : j < s.size := by rw [List.length_set, bl_len] at hj; exact hj
    rw [Addr.add_lit, Nat.zero_add, h.2.2.1 j hj', List.getElem_set]
    by_cases hjk : k = j
    · subst hjk
      simp only [if_true]
      rw [hf]
    · rw [if_neg hjk]
      simp only [if_neg (fun e => hjk (Eq.symm e))]
      rw [List.getD_eq_getElem?_getD, List.getElem?_eq_getElem (by rw [bl_len]; exact hj'), Option.getD_some])
  rw [List.length_set, bl_len] at this
  exact this

theorem law_in (s : ByteArray) (k : Nat) (w : World) (hs : s.size ≤ 1048576) (hk : k < s.size) :
    Calls Try.prog 6 #[.string s, .int .i64 k] w fun e w' => e = .returned (.bool true) ∧ Below w.heap.size w w' := by
  obtain ⟨W0, hmk, hR0⟩ := mk_row s.size (by omega) w
  have hkl : k < (bl s).length := hk
  obtain ⟨F, hF⟩ : ∃ F, flip ((bl s).getD k 0) = F := ⟨_, rfl⟩
  obtain ⟨b, hb⟩ : ∃ b, inReg (region (bl s)) k = b := ⟨_, rfl⟩
  obtain ⟨t, ht⟩ : ∃ t, strOf ((bl s).set k F) = t := ⟨_, rfl⟩
  have hts : t.size ≤ 1048576 := by rw [← ht, ← bl_len, bl_strOf, List.length_set, bl_len]; exact hs
  have hgk : (bl s).getD k 0 = (bl s)[k] := by rw [List.getD_eq_getElem?_getD, List.getElem?_eq_getElem hkl, Option.getD_some]
  have hlaw : (fold (bl s) == fold (bl t)) = ((F == (bl s).getD k 0) || b) := by
    rw [← ht, bl_strOf, ← hF, ← hb, hgk]
    exact fold_flip (bl s) k hkl
  have hfl := flip_int ((bl s).getD k 0)
  rw [hF] at hfl
  obtain ⟨v, hv'⟩ : ∃ v : Int, (((bl s).getD k 0).toNat : Int) = v := ⟨_, rfl⟩
  have hv0 : 0 ≤ v ∧ v < 256 := by have := ((bl s).getD k 0).toNat_lt; omega
  rw [hv'] at hfl
  have hv : ((s[k]'hk).toNat : Int) = v := by rw [bl_get s k hk]; exact hv'
  have hFe : (F == (bl s).getD k 0) = ((F.toNat : Int) == v) := by rw [← hv']; exact (byte_eq F ((bl s).getD k 0)).symm
  rw [hFe] at hlaw
  have HR0 : Hid (Rw w.heap.size w s.size (fun _ => 0) W0) := hR0
  have HFL : Hid _ := hfl
  have Hhf : Hid _ := hF
  have Hb : Hid _ := hb
  have Ht : Hid _ := ht
  have Hlaw : Hid _ := hlaw
  clear hR0 hkl hF hb ht hgk hlaw hfl hFe hv'
  obtain ⟨fv, hfv⟩ : ∃ fv : Int, (F.toNat : Int) = fv := ⟨_, rfl⟩
  rw [hfv] at HFL Hlaw
  have Hfv : Hid _ := hfv
  clear hfv
  by_cases c1 : 97 ≤ v ∧ v ≤ 122
  · have hr : v - 97 + 65 = fv := by rw [HFL.out, if_pos c1]
    obtain ⟨c1a, c1b⟩ := c1
    have hne : (fv == v) = false := by rw [beq_eq_false_iff_ne]; omega
    go_enter Try.func6, Try.ntmps6
    go_wp2_with (first | (go_at_call 13; refine (bytes13_ok _ _ _ hs).mono ?_; rintro e w' ⟨rfl, rfl⟩))
    go_loopw [8] (fun i wr => ∃ q : Nat, q ≤ s.size ∧ i = .int .i64 q ∧ Hid (Rw w.heap.size w s.size (fun j => if j < q then ((bl s).getD j 0).toNat else 0) wr)) (fun i _ => s.size - (intOf i).toNat)
    case atStart => exact ⟨0, Nat.zero_le _, rfl, HR0.out.congr (fun j hj => by simp)⟩
    case round =>
      obtain ⟨q, hq, rfl, HR⟩ := hrel
      clear HR0 hmk
      by_cases hlt : q < s.size
      · obtain ⟨x, hx⟩ : ∃ x : Int, ((s[q]'hlt).toNat : Int) = x := ⟨_, rfl⟩
        have hcell := HR.out.2.2.1 q hlt
        have hfz := HR.out.2.2.2 q hlt
        have HS : Hid (Rw w.heap.size w s.size (fun j => if j < q + 1 then ((bl s).getD j 0).toNat else 0) (wr.setCell ⟨w.heap.size, q, none⟩ (.int .u8 x))) := (HR.out.set q hlt x).congr (fun j hj => by
          by_cases hjq : j = q
          · subst hjq
            simp only [if_true, if_pos (show j < j + 1 by omega)]
            rw [← hx, bl_get s j hlt]
          · by_cases h' : j < q
            · simp only [if_neg hjq, if_pos h', if_pos (show j < q + 1 by omega)]
            · simp only [if_neg hjq, if_neg h', if_neg (show ¬ j < q + 1 by omega)])
        simp only [if_neg (Nat.lt_irrefl q)] at hcell
        go_wp2
        go_roundw
        case rel => exact ⟨q + 1, by omega, by go_num, HS⟩
        case measure => simp [intOf]; omega
      · obtain rfl : q = s.size := by omega
        have hcell := HR.out.2.2.1 k hk
        have hfz := HR.out.2.2.2 k hk
        simp only [if_pos hk] at hcell
        have HR2 : Rw w.heap.size w s.size (fun j => if j = k then fv else ((bl s).getD j 0).toNat) (wr.setCell ⟨w.heap.size, k, none⟩ (.int .u8 fv)) := (HR.out.set k hk fv).congr (fun j hj => by simp only [if_pos hj])
        have hcv := back_row s k hk fv (by rw [Hhf.out, Hfv.out]) w.heap.size w _ HR2
        rw [Hhf.out, Ht.out] at hcv
        have hB : Below w.heap.size w (wr.setCell ⟨w.heap.size, k, none⟩ (.int .u8 fv)) := HR2.1
        clear HR2 HR
        generalize hWW : wr.setCell ⟨w.heap.size, k, none⟩ (.int .u8 fv) = WW at hcv hB
        have HWW : Hid _ := hWW
        go_wp2_with fail
        refine (region_any s _ (by omega)).mono ?_
        rintro e w' ⟨rfl, rfl⟩
        go_wp2_with fail
        refine (inreg_any k (region (bl s)) _).mono ?_
        rintro e w' ⟨rfl, rfl⟩
        rw [Hb.out]
        have hl : (fold (bl s) == fold (bl t)) = b := by rw [Hlaw.out, hne, Bool.false_or]
        have HC1 := fun w => same_any s t w (by omega) hts
        have HC2 := fun w => same_any t s w hts (by omega)
        rw [beq_comm' (fold (bl t)) (fold (bl s)), hl] at HC2
        rw [hl] at HC1
        have D1 : Hid _ := HC1
        have D2 : Hid _ := HC2
        clear HC1 HC2 hl hcv hcell hfz hWW
        cases b
        all_goals
          go_wp2_with fail
          refine (Calls.mono (D1.out _) ?_)
          rintro e w3 ⟨rfl, hb3⟩
          go_wp2_with fail
          refine (Calls.mono (D2.out _) ?_)
          rintro e w4 ⟨rfl, hb4⟩
          go_wp2
          go_ret
          exact ⟨rfl, (hB.trans (hb3.mono hB.size)).trans (hb4.mono (Nat.le_trans hB.size hb3.size))⟩
  · by_cases c2 : 65 ≤ v ∧ v ≤ 90
    · have hr : v + 97 - 65 = fv := by rw [HFL.out, if_neg c1, if_pos c2]
      obtain ⟨c2a, c2b⟩ := c2
      have c1' : ¬ 97 ≤ v := by omega
      have hne : (fv == v) = false := by rw [beq_eq_false_iff_ne]; omega
      clear c1
      go_enter Try.func6, Try.ntmps6
      go_wp2_with (first | (go_at_call 13; refine (bytes13_ok _ _ _ hs).mono ?_; rintro e w' ⟨rfl, rfl⟩))
      go_loopw [8] (fun i wr => ∃ q : Nat, q ≤ s.size ∧ i = .int .i64 q ∧ Hid (Rw w.heap.size w s.size (fun j => if j < q then ((bl s).getD j 0).toNat else 0) wr)) (fun i _ => s.size - (intOf i).toNat)
      case atStart => exact ⟨0, Nat.zero_le _, rfl, HR0.out.congr (fun j hj => by simp)⟩
      case round =>
        obtain ⟨q, hq, rfl, HR⟩ := hrel
        clear HR0 hmk
        by_cases hlt : q < s.size
        · obtain ⟨x, hx⟩ : ∃ x : Int, ((s[q]'hlt).toNat : Int) = x := ⟨_, rfl⟩
          have hcell := HR.out.2.2.1 q hlt
          have hfz := HR.out.2.2.2 q hlt
          have HS : Hid (Rw w.heap.size w s.size (fun j => if j < q + 1 then ((bl s).getD j 0).toNat else 0) (wr.setCell ⟨w.heap.size, q, none⟩ (.int .u8 x))) := (HR.out.set q hlt x).congr (fun j hj => by
            by_cases hjq : j = q
            · subst hjq
              simp only [if_true, if_pos (show j < j + 1 by omega)]
              rw [← hx, bl_get s j hlt]
            · by_cases h' : j < q
              · simp only [if_neg hjq, if_pos h', if_pos (show j < q + 1 by omega)]
              · simp only [if_neg hjq, if_neg h', if_neg (show ¬ j < q + 1 by omega)])
          simp only [if_neg (Nat.lt_irrefl q)] at hcell
          go_wp2
          go_roundw
          case rel => exact ⟨q + 1, by omega, by go_num, HS⟩
          case measure => simp [intOf]; omega
        · obtain rfl : q = s.size := by omega
          have hcell := HR.out.2.2.1 k hk
          have hfz := HR.out.2.2.2 k hk
          simp only [if_pos hk] at hcell
          have HR2 : Rw w.heap.size w s.size (fun j => if j = k then fv else ((bl s).getD j 0).toNat) (wr.setCell ⟨w.heap.size, k, none⟩ (.int .u8 fv)) := (HR.out.set k hk fv).congr (fun j hj => by simp only [if_pos hj])
          have hcv := back_row s k hk fv (by rw [Hhf.out, Hfv.out]) w.heap.size w _ HR2
          rw [Hhf.out, Ht.out] at hcv
          have hB : Below w.heap.size w (wr.setCell ⟨w.heap.size, k, none⟩ (.int .u8 fv)) := HR2.1
          clear HR2 HR
          generalize hWW : wr.setCell ⟨w.heap.size, k, none⟩ (.int .u8 fv) = WW at hcv hB
          have HWW : Hid _ := hWW
          go_wp2_with fail
          refine (region_any s _ (by omega)).mono ?_
          rintro e w' ⟨rfl, rfl⟩
          go_wp2_with fail
          refine (inreg_any k (region (bl s)) _).mono ?_
          rintro e w' ⟨rfl, rfl⟩
          rw [Hb.out]
          have hl : (fold (bl s) == fold (bl t)) = b := by rw [Hlaw.out, hne, Bool.false_or]
          have HC1 := fun w => same_any s t w (by omega) hts
          have HC2 := fun w => same_any t s w hts (by omega)
          rw [beq_comm' (fold (bl t)) (fold (bl s)), hl] at HC2
          rw [hl] at HC1
          have D1 : Hid _ := HC1
          have D2 : Hid _ := HC2
          clear HC1 HC2 hl hcv hcell hfz hWW
          cases b
          all_goals
            go_wp2_with fail
            refine (Calls.mono (D1.out _) ?_)
            rintro e w3 ⟨rfl, hb3⟩
            go_wp2_with fail
            refine (Calls.mono (D2.out _) ?_)
            rintro e w4 ⟨rfl, hb4⟩
            go_wp2
            go_ret
            exact ⟨rfl, (hB.trans (hb3.mono hB.size)).trans (hb4.mono (Nat.le_trans hB.size hb3.size))⟩
    · have hr : v = fv := by rw [HFL.out, if_neg c1, if_neg c2]
      subst hr
      rcases (show v < 65 ∨ (90 < v ∧ v < 97) ∨ 122 < v by omega) with d1 | ⟨d1, d2⟩ | d1
      all_goals
        clear c1 c2
        go_enter Try.func6, Try.ntmps6
        go_wp2_with (first | (go_at_call 13; refine (bytes13_ok _ _ _ hs).mono ?_; rintro e w' ⟨rfl, rfl⟩))
        go_loopw [8] (fun i wr => ∃ q : Nat, q ≤ s.size ∧ i = .int .i64 q ∧ Hid (Rw w.heap.size w s.size (fun j => if j < q then ((bl s).getD j 0).toNat else 0) wr)) (fun i _ => s.size - (intOf i).toNat)
        case atStart => exact ⟨0, Nat.zero_le _, rfl, HR0.out.congr (fun j hj => by simp)⟩
        case round =>
          obtain ⟨q, hq, rfl, HR⟩ := hrel
          clear HR0 hmk
          by_cases hlt : q < s.size
          · obtain ⟨x, hx⟩ : ∃ x : Int, ((s[q]'hlt).toNat : Int) = x := ⟨_, rfl⟩
            have hcell := HR.out.2.2.1 q hlt
            have hfz := HR.out.2.2.2 q hlt
            have HS : Hid (Rw w.heap.size w s.size (fun j => if j < q + 1 then ((bl s).getD j 0).toNat else 0) (wr.setCell ⟨w.heap.size, q, none⟩ (.int .u8 x))) := (HR.out.set q hlt x).congr (fun j hj => by
              by_cases hjq : j = q
              · subst hjq
                simp only [if_true, if_pos (show j < j + 1 by omega)]
                rw [← hx, bl_get s j hlt]
              · by_cases h' : j < q
                · simp only [if_neg hjq, if_pos h', if_pos (show j < q + 1 by omega)]
                · simp only [if_neg hjq, if_neg h', if_neg (show ¬ j < q + 1 by omega)])
            simp only [if_neg (Nat.lt_irrefl q)] at hcell
            go_wp2
            go_roundw
            case rel => exact ⟨q + 1, by omega, by go_num, HS⟩
            case measure => simp [intOf]; omega
          · obtain rfl : q = s.size := by omega
            have hcell := HR.out.2.2.1 k hk
            have hfz := HR.out.2.2.2 k hk
            simp only [if_pos hk] at hcell
            have HR2 : Rw w.heap.size w s.size (fun j => if j = k then v else ((bl s).getD j 0).toNat) (wr.setCell ⟨w.heap.size, k, none⟩ (.int .u8 v)) := (HR.out.set k hk v).congr (fun j hj => by simp only [if_pos hj])
            have hcv := back_row s k hk v (by rw [Hhf.out, Hfv.out]) w.heap.size w _ HR2
            rw [Hhf.out, Ht.out] at hcv
            have hB : Below w.heap.size w (wr.setCell ⟨w.heap.size, k, none⟩ (.int .u8 v)) := HR2.1
            clear HR2 HR
            generalize hWW : wr.setCell ⟨w.heap.size, k, none⟩ (.int .u8 v) = WW at hcv hB
            have HWW : Hid _ := hWW
            go_wp2_with fail
            have hl : (fold (bl s) == fold (bl t)) = true := by rw [Hlaw.out, beq_self_eq_true, Bool.true_or]
            have HC1 := fun w => same_any s t w (by omega) hts
            have HC2 := fun w => same_any t s w hts (by omega)
            rw [beq_comm' (fold (bl t)) (fold (bl s)), hl] at HC2
            rw [hl] at HC1
            have D1 : Hid _ := HC1
            have D2 : Hid _ := HC2
            clear HC1 HC2 hl hcv hcell hfz hWW
            refine (Calls.mono (D1.out _) ?_)
            rintro e w3 ⟨rfl, hb3⟩
            go_wp2_with fail
            refine (Calls.mono (D2.out _) ?_)
            rintro e w4 ⟨rfl, hb4⟩
            go_wp2
            go_ret
            exact ⟨rfl, (hB.trans (hb3.mono hB.size)).trans (hb4.mono (Nat.le_trans hB.size hb3.size))⟩
end Go.Proofs.Qxb6614464a
