/-
  (*scanner).fill.
-/
import Derived.Test.Qxb6614898aDoorScanD
namespace Go.Proofs.Qxb6614898aDoor
open Go.RowKit Go.Joins
set_option linter.unusedVariables false
set_option maxHeartbeats 8000000
set_option maxRecDepth 1000000

theorem fill_gen (G : Nat) (w W : World) (nb no nc : Nat) (ea : Addr) (hg : Gl G w nb no nc ea) (bs br : Nat) (ba : Option Addr) (bn : Nat) (B : List Int) (da : Option Addr) (dn : Nat) (D : List Int) (pos en ri k : Nat) (lines : Int)
    (h : St G w W bs br ba bn B da dn D pos en lines false ri) (h1 : pos ≤ en) (h2 : en ≤ bn) (hbn : bn ≤ 2097152) (hdn : dn ≤ 2097152) (hri : ri ≤ dn) (hB : ∀ x ∈ B, 0 ≤ x ∧ x < 256) (hl : -9223372036854775808 ≤ lines) (hl2 : lines + nls (B.take pos) ≤ 9223372036854775807)
    (hk : k = en - pos) (m : Nat) (hm : m = min (dn - ri) (size2 bn k - k)) :
    Calls Tryd.prog 24 #[.pointer (some ⟨bs, 0, none⟩)] W fun e w' => e = .returned (.bool (decide (0 < m))) ∧
      ∃ ba', St G w w' bs br ba' (size2 bn k) (splice (grown (moved B pos k) bn k) k ((D.drop ri).take m)) da dn D 0 (k + m : Nat) (lines + nls (B.take pos)) (decide (dn - ri < size2 bn k - k)) (ri + m : Nat) := by
  have HS : Hid _ := h
  have HG : Hid _ := hg
  have HK : Hid _ := hk
  have HM : Hid _ := hm
  have HB : Hid _ := hB
  obtain ⟨c0, c1, c2, c3, c4, c5, c6, cf⟩ := h.sn.cells
  clear h hg hk hm hB
  go_enter Tryd.func24, Tryd.ntmps24
  go_upto_if 23 with fail
  go_cut [] (fun wx => Hid (St G w wx bs br ba bn (moved B pos k) da dn D 0 k (lines + nls (B.take pos)) false ri))
  case first =>
    by_cases hp : pos = 0
    · subst hp
      go_wp2
      go_meet
      show St G w W bs br ba bn (moved B 0 k) da dn D 0 k (lines + nls (B.take 0)) false ri
      have e : k = en := by rw [HK.out]; omega
      rw [moved_zero _ _ (by rw [HS.out.sn.buf.1]; omega), e, show nls (B.take 0) = 0 from rfl, show lines + ((0 : Nat) : Int) = lines by omega]
      exact HS.out
    · have hp' : 0 < pos := by omega
      obtain ⟨bb, rfl⟩ := HS.out.bufAt (by omega)
      go_upto_region 4 with fail
      go_cut [] (fun wx => Hid (St G w wx bs br (some ⟨bb, 0, none⟩) bn B da dn D pos en (lines + nls (B.take pos)) false ri))
      case first =>
        have g1 := (HG.out.below HS.out.bel).nl
        have HC : Hid _ := fun (W' : World) (hc : ∀ i, i < pos → W'.cell? ⟨bb, 0 + i, none⟩ = some (.int .u8 ((B.take pos).getD i 0))) (h10 : W'.cell? ⟨nb, no, none⟩ = some (.int .u8 10)) => cnt_some bb 0 pos bn nb no nc (B.take pos) W' (by have := HS.out.sn.buf.1; simp; omega) (fun x hx => HB.out x (List.mem_of_mem_take hx)) hc h10
        have HD : Hid (∀ m, ∀ i, i < pos → (W.drewN m).cell? ⟨bb, 0 + i, none⟩ = some (.int .u8 ((B.take pos).getD i 0))) := fun m i hi => by
          rw [getD_take _ _ _ hi, Nat.zero_add]
          exact HS.out.rowCell rfl i (by omega)
        have HT : Hid (∀ m : Nat, (W.drewN m).cell? ⟨nb, no, none⟩ = some (.int .u8 10)) := fun m => (HG.out.below HS.out.bel).c10
        have hnl : (nls (B.take pos) : Int) ≤ bn := by
          have := List.count_le_length (a := (10 : Int)) (l := B.take pos)
          have h3 := HS.out.sn.buf.1
          have h4 : (B.take pos).length ≤ B.length := by rw [List.length_take]; omega
          unfold nls
          omega
        generalize hN : nls (B.take pos) = N at *
        have cf6 := cf 6
        have hw : IntKind.i64.wrap (lines + N) = lines + N := wrap_id (by omega) (by omega)
        have hpb : pos ≤ bn := by omega
        refine wp_region_still_tail 18 (by kernel_rfl) (by kernel_rfl) ?_
        simp only [List.take_succ_cons, List.take_zero, List.drop_succ_cons, List.drop_zero]
        repeat still_step
        still_call ((HC.out _ (HD.out 1) (HT.out 1)).mono (fun e w' h => ⟨h.1, h.2.symm⟩))
        repeat still_step
        refine wpStill_nil ?_
        go_wp2_with fail
        go_meet
        exact ((HS.out.setLines (lines + N)).drew)
      case rest =>
        obtain ⟨w1, hw1⟩ : ∃ w1, w1 = wc := ⟨_, rfl⟩
        subst hw1
        have HS1 : Hid (St G w w1 bs br (some ⟨bb, 0, none⟩) bn B da dn D pos en (lines + nls (B.take pos)) false ri) := hcut
        clear hcut HS c0 c1 c2 c3 c4 c5 c6 cf
        obtain ⟨c0, c1, c2, c3, c4, c5, c6, cf⟩ := HS1.out.sn.cells
        have cf5 := cf 5
        have cf4 := cf 4
        clear c0 c1 c2 c6
        have hkk : k ≤ bn - pos := by have := HK.out; omega
        have hkl : ((B.drop pos).take k).length = k := by have := HS1.out.sn.buf.1; simp; omega
        have hne : bs ≠ bb := by
          obtain ⟨_, hs⟩ := HS1.out.sn.sc
          exact Ne.symm (HS1.out.sn.buf.ne hs (by decide) _ rfl)
        have hml : (moved B pos k).length = bn := by unfold moved; rw [length_splice _ _ _ (by rw [hkl]; have := HS1.out.sn.buf.1; omega)]; exact HS1.out.sn.buf.1
        have HW : Hid _ := ((HS1.out.drew.setRow rfl (moved B pos k) hml).setEnd k).setPos 0
        have HA : Hid (en - pos = k) := HK.out.symm
        by_cases hpe : pos = bn
        · have hcp : ∀ ty, (Builtin.copy_ #[22, 22] ty #[.slice (some ⟨bb, 0, none⟩) bn bn, .slice (some ⟨bb, 0, none⟩) 0 0]).run Tryd.prog w1.drew = .ok (.int .i64 0) w1.drew := fun ty => by
            have := run_copy_none (P := Tryd.prog) w1.drew 22 22 ty 5 (some ⟨bb, 0, none⟩) (some ⟨bb, 0, none⟩) bn bn 0 0 Tryd.underlying22 sz5 (Nat.zero_min _)
            exact this
          obtain rfl : en = bn := by omega
          have hk0 : k = 0 := by have := HA.out; omega
          have HW0 : Hid (St G w ((w1.setCell ⟨bs, 5, none⟩ (.int .i64 0)).setCell ⟨bs, 4, none⟩ (.int .i64 0)) bs br (some ⟨bb, 0, none⟩) en (moved B pos k) da dn D 0 k (lines + nls (B.take pos)) false ri) := by
            subst hk0
            have e : moved B pos 0 = B := by simp [moved, splice]
            show St _ _ _ _ _ _ _ _ _ _ _ _ _ _ _ _
            rw [e]
            exact (HS1.out.setEnd 0).setPos 0
          subst hpe
          clear cf HW hml hkl hkk HA hk0
          go_wp2_with fail
          go_region
          go_wp2
          go_meet
          exact HW0.out.drew
        · have hcp : ∀ ty, (Builtin.copy_ #[22, 22] ty #[.slice (some ⟨bb, 0, none⟩) bn bn, .slice (some ⟨bb, pos, none⟩) (en - pos) (bn - pos)]).run Tryd.prog w1.drew = .ok (.int .i64 k) (w1.drew.setRow bb (cellsK .u8 (moved B pos k)).toArray) := fun ty => by
            have := run_copy_row (P := Tryd.prog) w1.drew 22 22 ty 5 bb 0 bn bn ⟨bb, pos, none⟩ (en - pos) (bn - pos) (cellsK .u8 B).toArray 5 (cellsK .u8 ((B.drop pos).take k)) Tryd.underlying22 sz5 (HS1.out.row rfl)
              (by rw [HA.out, show (cellsK .u8 ((B.drop pos).take k)).length = k from (List.length_map _).trans hkl]; exact (Nat.min_eq_left (by omega)).symm)
              (fun j v hj => by
                obtain ⟨h1, rfl⟩ := cellsK_get _ _ _ _ hj
                rw [hkl] at h1
                rw [getD_seg B pos k j h1, Addr.add_lit]
                exact HS1.out.rowCell rfl (pos + j) (by omega))
              (by have := HS1.out.sn.buf.1; simp [cellsK]; omega) (cellsK_one _ _)
            rw [this]
            have e : ((cellsK .u8 B).toArray.toList.take 0 ++ (cellsK .u8 ((B.drop pos).take k)) ++ (cellsK .u8 B).toArray.toList.drop (0 + (cellsK .u8 ((B.drop pos).take k)).length)).toArray = (cellsK .u8 (moved B pos k)).toArray := by
              simp [moved, splice, cellsK]
            rw [e]
            simp [cellsK, goInt] at hkl ⊢
            omega
          generalize moved B pos k = B1 at *
          generalize (cellsK .u8 B1).toArray = A1 at *
          have hd3 : (w1.drew.setRow bb A1).cell? ⟨bs, 3, none⟩ = some (.slice (some ⟨bb, 0, none⟩) bn bn) := by rw [cell_setRow_ne _ _ _ _ _ hne]; exact c3
          have hd5 : (w1.drew.setRow bb A1).cell? ⟨bs, 5, none⟩ = some (.int .i64 en) := by rw [cell_setRow_ne _ _ _ _ _ hne]; exact c5
          have hd4 : (w1.drew.setRow bb A1).cell? ⟨bs, 4, none⟩ = some (.int .i64 pos) := by rw [cell_setRow_ne _ _ _ _ _ hne]; exact c4
          have he5 : (w1.drew.setRow bb A1).frozen? ⟨bs, 5, none⟩ = false := by rw [frozen_setRow_ne _ _ _ _ _ hne]; exact cf5
          have he4 : (w1.drew.setRow bb A1).frozen? ⟨bs, 4, none⟩ = false := by rw [frozen_setRow_ne _ _ _ _ _ hne]; exact cf4
          have hpb : pos ≤ bn := by omega
          have hpe' : ¬ bn = pos := by omega
          clear cf
          go_wp2_with fail
          go_region
          go_wp2
          go_meet
          exact HW.out
  case rest =>
    obtain ⟨w1, hw1⟩ : ∃ w1, w1 = wc := ⟨_, rfl⟩
    subst hw1
    have HS1 : Hid (St G w w1 bs br ba bn (moved B pos k) da dn D 0 k (lines + nls (B.take pos)) false ri) := hcut
    clear hcut HS c0 c1 c2 c3 c4 c5 c6 cf
    have hkb : k ≤ bn := by have := HK.out; omega
    have HN : Hid (∃ N, N = nls (B.take pos)) := ⟨_, rfl⟩
    obtain ⟨N, hN⟩ := HN.out
    rw [← hN] at HS1
    have HN1 : Hid _ := hN
    clear hN HN
    obtain ⟨B1, hB1⟩ : ∃ B1, B1 = moved B pos k := ⟨_, rfl⟩
    rw [← hB1] at HS1
    have HB1 : Hid _ := hB1
    clear hB1
    have hml : B1.length = bn := HS1.out.sn.buf.1
    obtain ⟨c0, c1, c2, c3, c4, c5, c6, cf⟩ := HS1.out.sn.cells
    clear c0 c1 c2 c4 c6
    go_wp2_with fail
    go_quiet (fail)
    go_upto_if 76 with fail
    go_cut [] (fun wx => Hid (∃ ba', St G w wx bs br ba' (size2 bn k) (grown B1 bn k) da dn D 0 k (lines + N) false ri))
    case first =>
      have HS2 : Hid _ := HS1.out.drewN nq
      generalize hW2 : w1.drewN nq = w2 at *
      clear hW2 c3 c5 cf
      obtain ⟨c0, c1, c2, c3, c4, c5, c6, cf⟩ := HS2.out.sn.cells
      clear c0 c1 c2 c4 c6
      by_cases hd : bn / 2 < k
      · have e1 : size2 bn k = 2 * bn := if_pos hd
        have e2 : grown B1 bn k = splice (List.replicate (2 * bn) 0) 0 (B1.take k) := if_pos hd
        have hkl : (B1.take k).length = k := by simp; omega
        have hsl : (splice (List.replicate (2 * bn) 0) 0 (B1.take k)).length = 2 * bn := by rw [length_splice _ _ _ (by rw [hkl]; simp; omega)]; simp
        have HW : Hid _ := HS2.out.newBuf (2 * bn) _ hsl
        rw [← e2] at HW
        obtain ⟨bb, rfl⟩ := HS2.out.bufAt (by omega)
        have hmk : (Instr.makeSlice 22 (.int .i64 (2 * (bn : Int))) (.int .i64 (2 * (bn : Int)))).run Tryd.prog w2 = .ok (.slice (some ⟨w2.heap.size, 0, none⟩) (2 * bn) (2 * bn)) (w2.alloc (.cells (zerosK .u8 (2 * bn)).toArray 5)) := by
          have := run_mk (T := 22) (E := 5) (k := .u8) (by8 := 1) Tryd.underlying22 Tryd.info5 (by decide) (2 * bn) (by omega) w2
          rwa [show ((2 * bn : Nat) : Int) = 2 * (bn : Int) by omega] at this
        have HS3 : Hid _ := HS2.out.alloc (.cells (zerosK .u8 (2 * bn)).toArray 5)
        obtain ⟨_, _, _, d3, _, d5, _, df⟩ := HS3.out.sn.cells
        have HS4 : Hid _ := HS2.out.alloc (.cells (cellsK .u8 (grown B1 bn k)).toArray 5)
        obtain ⟨_, _, _, f3, _, f5, _, ff⟩ := HS4.out.sn.cells
        have ff3 := ff 3
        have hcp : ∀ ty, (Builtin.copy_ #[22, 22] ty #[.slice (some ⟨w2.heap.size, 0, none⟩) (2 * bn) (2 * bn), .slice (some ⟨bb, 0, none⟩) k bn]).run Tryd.prog (w2.alloc (.cells (zerosK .u8 (2 * bn)).toArray 5)).drew = .ok (.int .i64 k) (w2.alloc (.cells (cellsK .u8 (grown B1 bn k)).toArray 5)).drew := fun ty => by
          have := run_copy_row (P := Tryd.prog) (w2.alloc (.cells (zerosK .u8 (2 * bn)).toArray 5)).drew 22 22 ty 5 w2.heap.size 0 (2 * bn) (2 * bn) ⟨bb, 0, none⟩ k bn (zerosK .u8 (2 * bn)).toArray 5 (cellsK .u8 (B1.take k)) Tryd.underlying22 sz5 (alloc_heap w2 _)
            (by rw [show (cellsK .u8 (B1.take k)).length = k from (List.length_map _).trans hkl]; exact (Nat.min_eq_left (by omega)).symm)
            (fun j v hj => by
              obtain ⟨h1, rfl⟩ := cellsK_get _ _ _ _ hj
              rw [hkl] at h1
              rw [getD_take B1 k j h1, Addr.add_lit, Nat.zero_add]
              exact HS3.out.rowCell rfl j (by omega))
            (by simp [cellsK, zerosK]; omega) (cellsK_one _ _)
          rw [this]
          have e : ((zerosK .u8 (2 * bn)).toArray.toList.take 0 ++ (cellsK .u8 (B1.take k)) ++ (zerosK .u8 (2 * bn)).toArray.toList.drop (0 + (cellsK .u8 (B1.take k)).length)).toArray = (cellsK .u8 (grown B1 bn k)).toArray := by
            rw [e2]
            simp [splice, cellsK, zerosK]
          rw [e, show (cellsK .u8 (B1.take k)).length = k from (List.length_map _).trans hkl]
          have e3 := setRow_alloc w2 (zerosK .u8 (2 * bn)).toArray (cellsK .u8 (grown B1 bn k)).toArray 5
          have e4 : (w2.alloc (.cells (zerosK .u8 (2 * bn)).toArray 5)).drew.setRow w2.heap.size (cellsK .u8 (grown B1 bn k)).toArray = ((w2.alloc (.cells (zerosK .u8 (2 * bn)).toArray 5)).setRow w2.heap.size (cellsK .u8 (grown B1 bn k)).toArray).drew := rfl
          rw [e4, e3]
          rfl
        generalize (cellsK .u8 (grown B1 bn k)).toArray = A1 at *
        generalize (zerosK .u8 (2 * bn)).toArray = Z1 at *
        have HE : Hid _ := e1
        clear cf df ff e1 e2 hkl hsl
        go_wp2_with fail
        go_region
        go_wp2
        go_meet
        refine ⟨some ⟨w2.heap.size, 0, none⟩, ?_⟩
        rw [HE.out]
        exact HW.out.drew
      · have e1 : size2 bn k = bn := if_neg hd
        have e2 : grown B1 bn k = B1 := if_neg hd
        have HW : Hid (∃ ba', St G w w2 bs br ba' (size2 bn k) (grown B1 bn k) da dn D 0 k (lines + N) false ri) := by
          refine ⟨ba, ?_⟩
          rw [e1, e2]
          exact HS2.out
        clear e1 e2
        go_wp2
        go_meet
        exact HW.out
    case rest =>
      obtain ⟨w2, hw2⟩ : ∃ w2, w2 = wc := ⟨_, rfl⟩
      subst hw2
      obtain ⟨ba2, hcut2⟩ := hcut
      have hS1 : k ≤ size2 bn k ∧ size2 bn k ≤ 4194304 := by unfold size2; split <;> omega
      obtain ⟨S2, hS2⟩ : ∃ S2, S2 = size2 bn k := ⟨_, rfl⟩
      obtain ⟨B2, hB2⟩ : ∃ B2, B2 = grown B1 bn k := ⟨_, rfl⟩
      rw [← hS2, ← hB2] at hcut2
      rw [← hS2] at hS1 HM
      have HS2 : Hid _ := hS2
      have HB2 : Hid _ := hB2
      have HS3 : Hid _ := hcut2
      obtain ⟨hkS, hS4⟩ := hS1
      clear hcut2 hS2 hB2 HS1 c3 c5 cf
      obtain ⟨c0, c1, c2, c3, c4, c5, c6, cf⟩ := HS3.out.sn.cells
      clear c0 c1 c2 c4 c6 c3 cf
      go_wp2_with fail
      go_loopg [5] m (fun gk e wr => ∃ q : Nat, e = .int .i64 0 ∧ gk = m - q ∧ (q = 0 ∨ q = m) ∧ Hid (St G w wr bs br ba2 S2 (splice B2 k ((D.drop ri).take q)) da dn D 0 (k + q : Nat) (lines + N) false (ri + q : Nat)))
      case atStart =>
        refine ⟨0, rfl, rfl, .inl rfl, ?_⟩
        have e : splice B2 k ((D.drop ri).take 0) = B2 := by simp [splice]
        show St _ _ _ _ _ _ _ _ _ _ _ _ _ _ _ _
        rw [e]
        exact HS3.out
      case round =>
        clear c5
        obtain ⟨q, rfl, hgk, hq, HSr⟩ := hrel
        have HFin : Hid (∀ (wf : World) (v : Bool), v = decide (dn - ri < S2 - k) → St G w wf bs br ba2 S2 (splice B2 k ((D.drop ri).take m)) da dn D 0 (k + m : Nat) (lines + N) v (ri + m : Nat) → ∃ ba', St G w wf bs br ba' (size2 bn k) (splice (grown (moved B pos k) bn k) k ((D.drop ri).take m)) da dn D 0 (k + m : Nat) (lines + nls (B.take pos)) (decide (dn - ri < size2 bn k - k)) (ri + m : Nat)) := by
          intro wf v hv hst
          rw [← HS2.out, ← HB1.out, ← HB2.out, ← HN1.out, ← hv]
          exact ⟨_, hst⟩
        have HQ : Hid _ := hgk
        have HQ2 : Hid _ := hq
        clear hgk hq HS3
        obtain ⟨c0, c1, c2, c3, c4, c5, c6, cf⟩ := HSr.out.sn.cells
        clear c1 c2 c4 c6
        by_cases ha : k + q = S2
        · have hqm : q = m := by have := HM.out; have := HQ2.out; omega
          have hneg : ¬ (k + q < S2) := by omega
          have HF : Hid (decide (dn - ri < S2 - k) = false) := by
            have := HM.out
            show _ = _
            rw [decide_eq_false_iff_not]
            omega
          have HR : Hid (decide (0 < m) = decide (k < k + q)) := by
            show _ = _
            rw [decide_eq_decide]
            omega
          go_wp2_with fail
          go_quiet (fail)
          go_wp2
          go_ret
          subst hqm
          exact ⟨ret_bool (by rw [decide_eq_decide]; omega), HFin.out _ false HF.out.symm (HSr.out.drewN nq)⟩
        · have hlt : k + q < S2 := by have := HM.out; have := HQ2.out; omega
          go_wp2_with fail
          go_quiet (fail)
          go_wp2_with fail
          have HS4 : Hid _ := HSr.out.drewN nq
          generalize hw3 : wr.drewN nq = w3 at *
          clear hw3 HSr c0 c3 c5 cf
          obtain ⟨e0, he0⟩ : ∃ e0, e0 = k + q := ⟨_, rfl⟩
          rw [← he0] at HS4 hlt
          have HE0 : Hid _ := he0
          obtain ⟨c0, c1, c2, c3, c4, c5, c6, cf⟩ := HS4.out.sn.cells
          clear c1 c2 c4 c6
          obtain ⟨bb, rfl⟩ := HS4.out.bufAt (by omega)
          have cf5 := cf 5
          have cf2 := cf 2
          clear cf
          have g2 := (HG.out.below HS4.out.bel).eof
          have hce : ¬ S2 = e0 := by omega
          have hle : (e0 : Int) ≤ (S2 : Int) := by omega
          have hme := meth_read br
          clear he0 ha
          by_cases hb : dn ≤ ri + q
          · have HE : Hid _ := fun v => read_eof w3.drew bs br _ _ _ _ _ _ _ _ _ _ _ (HS4.out.drewN 1).sn 78 (.pointer (some ea)) g2 (by omega) v
            go_region_held3 (fun w' => w'.cell? ⟨bs, 0, none⟩ = some (.iface 54 (.pointer (some ⟨br, 0, none⟩))) ∧ w'.cell? ⟨bs, 3, none⟩ = some (.slice (some ⟨bb, 0, none⟩) S2 S2) ∧ w'.cell? ⟨bs, 5, none⟩ = some (.int .i64 e0)) (go_keep)
              ((go_at_call 55; refine Calls.mono (HE.out _) ?_; rintro e w' ⟨rfl, mq, rfl⟩))
            have HS5 : Hid _ := HS4.out.drewN (1 + mq)
            generalize hw4 : w3.drewN (1 + mq) = w4 at *
            clear hw4 HE c0 c3 c5 cf5 cf2 g2
            have g2 := (HG.out.below HS5.out.bel).eof
            obtain ⟨c0, c1, c2, c3, c4, c5, c6, cf⟩ := HS5.out.sn.cells
            have cf5 := cf 5
            have cf2 := cf 2
            clear cf c0 c1 c3 c4 c6
            have hsame := eof_same ea
            have hb2 : ¬ bs = 2 := by have := HS5.out.gs; have := HG.out.g3; omega
            have hb3 : ¬ 2 = bs := by omega
            have hqm : q = m := by have := HM.out; have := HQ2.out; have := HE0.out; omega
            have HF : Hid (true = decide (dn - ri < S2 - k)) := by
              have := HM.out
              have := HE0.out
              show _ = _
              rw [eq_comm, decide_eq_true_iff]
              omega
            clear ‹_ ∧ _›
            go_wp2
            go_ret
            have hE := HE0.out
            subst hE
            subst hqm
            exact ⟨ret_bool (by rw [decide_eq_decide]; omega), HFin.out _ true HF.out ((HS5.out.setEnd (k + q : Nat)).setEof true)⟩
          · obtain rfl : q = 0 := by have := HM.out; have := HQ2.out; have := HE0.out; omega
            have e9 : splice B2 k ((D.drop ri).take 0) = B2 := by simp [splice]
            rw [e9, Nat.add_zero] at HS4
            clear e9
            obtain ⟨db, rfl⟩ := HS4.out.dataAt (by omega)
            obtain ⟨X, hX⟩ : ∃ X, X = (D.drop ri).take m := ⟨_, rfl⟩
            have HRd : Hid _ := read_some G w w3.drew bs br bb db S2 B2 dn D 0 e0 (lines + N) false ri e0 m (HS4.out.drewN 1) (by omega) hlt (by have := HM.out; have := HE0.out; omega) (by omega) (by omega) X hX
            have HX : Hid _ := hX
            have hm0 : 0 < m := by have := HM.out; have := HE0.out; omega
            have hmS : e0 + m ≤ S2 := by have := HM.out; have := HE0.out; omega
            have hwr : IntKind.i64.wrap ((e0 : Int) + (m : Int)) = (e0 : Int) + (m : Int) := wrap_id (by omega) (by omega)
            clear hX
            go_region_held3 (fun w' => w'.cell? ⟨bs, 0, none⟩ = some (.iface 54 (.pointer (some ⟨br, 0, none⟩))) ∧ w'.cell? ⟨bs, 3, none⟩ = some (.slice (some ⟨bb, 0, none⟩) S2 S2) ∧ w'.cell? ⟨bs, 5, none⟩ = some (.int .i64 e0)) (first | go_keep | exact St.three hst)
              ((go_at_call 55; refine Calls.mono HRd.out ?_; rintro e w' ⟨rfl, hst⟩))
            have HS5 : Hid _ := hst
            clear hst HRd c0 c3 c5 cf5 cf2 g2 HS4
            have g2 := (HG.out.below HS5.out.bel).eof
            obtain ⟨c0, c1, c2, c3, c4, c5, c6, cf⟩ := HS5.out.sn.cells
            have cf5 := cf 5
            clear cf c0 c1 c2 c3 c4 c6
            have hnil := nil_eof ea
            have hb2 : ¬ bs = 2 := by have := HS5.out.gs; have := HG.out.g3; omega
            have hb3 : ¬ 2 = bs := by omega
            clear ‹_ ∧ _›
            go_wp2
            go_roundg 0
            case measure => have := HQ.out; omega
            case rel =>
              refine ⟨m, rfl, by omega, .inr rfl, ?_⟩
              have hE := HE0.out
              have hXe := HX.out
              subst hE
              subst hXe
              exact HS5.out.setEnd (e0 + m : Nat)
theorem fill_at (G : Nat) (w W : World) (nb no nc : Nat) (ea : Addr) (hg : Gl G w nb no nc ea) (bs br : Nat) (ba : Option Addr) (bn : Nat) (B : List Int) (da : Option Addr) (dn : Nat) (D : List Int) (pos en ri k : Nat) (lines : Int)
    (h : St G w W bs br ba bn B da dn D pos en lines false ri) (h1 : pos ≤ en) (h2 : en ≤ bn) (hbn : bn ≤ 2097152) (hdn : dn ≤ 2097152) (hri : ri ≤ dn) (hB : ∀ x ∈ B, 0 ≤ x ∧ x < 256) (hl : -9223372036854775808 ≤ lines) (hl2 : lines + bn ≤ 9223372036854775807)
    (hk : k = en - pos) (m : Nat) (hm : m = min (dn - ri) (size2 bn k - k)) :
    Calls Tryd.prog 24 #[.pointer (some ⟨bs, 0, none⟩)] W fun e w' => e = .returned (.bool (decide (0 < m))) ∧
      ∃ ba', St G w w' bs br ba' (size2 bn k) (splice (grown (moved B pos k) bn k) k ((D.drop ri).take m)) da dn D 0 (k + m : Nat) (lines + nls (B.take pos)) (decide (dn - ri < size2 bn k - k)) (ri + m : Nat) :=
  fill_gen G w W nb no nc ea hg bs br ba bn B da dn D pos en ri k lines h h1 h2 hbn hdn hri hB hl (by
    have h6 := List.count_le_length (a := (10 : Int)) (l := B.take pos)
    have h3 := h.sn.buf.1
    have h4 : (B.take pos).length ≤ B.length := by rw [List.length_take]; omega
    unfold nls
    omega) hk m hm
end Go.Proofs.Qxb6614898aDoor
