/-
  FnDefinitionsKeyKeepsEarlierIdsAndReadsAnAddedOne: THE LAW.
-/
import Derived.Test.Qxb6614898aDoorDef
import Derived.Test.Qxb6614898aDoorMade
import Derived.Deep.DeepCutAuto
import Derived.Deep.CutBlock
namespace Go.Proofs.Qxb6614898aDoor
open Go.RowKit
set_option linter.unusedVariables false
set_option maxHeartbeats 8000000
set_option maxRecDepth 1000000

/-- An argument: nil, or a row that begins at x. -/
def Arg (k : IntKind) (w : World) (a : Option Addr) (n c : Nat) (zs : List Int) : Prop :=
  zs.length = n ∧ ((a = none ∧ n = 0 ∧ c = 0) ∨ ∃ x, a = some x ∧ ∀ i, i < n → w.cell? (x.add i) = some (.int k (zs.getD i 0)))

theorem Arg.below {k : IntKind} {w wr : World} {a : Option Addr} {n c : Nat} {zs : List Int} (h : Arg k w a n c zs) (hb : Below w.heap.size w wr) : Arg k wr a n c zs := by
  refine ⟨h.1, ?_⟩
  rcases h.2 with h2 | ⟨x, rfl, hc⟩
  · exact .inl h2
  · refine .inr ⟨x, rfl, fun i hi => ?_⟩
    have := hc i hi
    rw [hb.cell (p := x.add i) (World.block_lt_of_cell? w _ this)]
    exact this

theorem def_law (a0 a1 a2 a3 : Option Addr) (n0 c0 n1 c1 n2 c2 n3 c3 z zo zc : Nat) (ts es ids els : List Int) (w : World) (g0 : n0 ≤ 262144) (g1 : n1 ≤ 32768) (g2 : n2 ≤ 262144) (g3 : n3 ≤ 262144)
    (hT : Arg .u8 w a0 n0 c0 ts) (hE : Arg .i64 w a1 n1 c1 es) (hI : Sl .u8 w a2 n2 ids) (hL : Sl .u8 w a3 n3 els) (hI0 : a2 = none → n2 = 0 ∧ c2 = 0) (hL0 : a3 = none → n3 = 0 ∧ c3 = 0)
    (hbT : ∀ x ∈ ts, 0 ≤ x ∧ x < 256) (hbI : ∀ x ∈ ids, 0 ≤ x ∧ x < 256) (hbL : ∀ x ∈ els, 0 ≤ x ∧ x < 256)
    (hE' : Sl .i64 w a1 n1 es) (hv : validFrom n0 0 es = true) (hlast : (0 < n1 ∧ es.getD (n1 - 1) 0 = n0) ∨ (n1 = 0 ∧ n0 = 0)) (hz : hasZ ids = false)
    (hg : w.cell? ⟨0, 0, none⟩ = some (.slice (some ⟨z, zo, none⟩) 1 zc)) (hgz : w.cell? ⟨z, zo, none⟩ = some (.int .u8 0)) :
    Calls Tryd.prog 3 #[.slice a0 n0 c0, .slice a1 n1 c1, .slice a2 n2 c2, .slice a3 n3 c3] w fun e w' => e = .returned (.bool true) ∧ Below w.heap.size w w' := by
  have HV : Hid _ := valid_any a1 n1 c1 es n0 w (by omega) hE'
  rw [hv] at HV
  have HZ : Hid _ := hasz_any a2 n2 c2 ids w (by omega) hI
  rw [hz] at HZ
  have HT : Hid _ := hT
  have HE : Hid _ := hE
  have HI : Hid _ := hI
  have HL : Hid _ := hL
  have HE' : Hid _ := hE'
  have HI0 : Hid _ := hI0
  have HL0 : Hid _ := hL0
  have Hv : Hid _ := hv
  have Hlast : Hid _ := hlast
  have Hz : Hid _ := hz
  have Hg : Hid _ := hg
  have Hgz : Hid _ := hgz
  clear hT hE hI hL hE' hI0 hL0 hv hlast hz hg hgz
  go_enter Tryd.func3, Tryd.ntmps3
  go_upto_region 13 with (first | (go_at_call 6; refine (bytes6_ok _ _ _ _ _ _ _ _ _ _ _ _ _ (by omega)).mono ?_; rintro e w' ⟨rfl, rfl⟩) | (go_at_call 7; refine (Calls.mono HV.out ?_); rintro e w' ⟨rfl, rfl⟩))
  go_cut [55] (fun v wx => v = .bool false ∧ w = wx)
  case first =>
    rcases Hlast.out with ⟨hp, hl⟩ | ⟨rfl, hl⟩
    · obtain ⟨b, o, rfl, _, hc⟩ := HE'.out.2 hp
      have hcl := hc (n1 - 1) (by omega)
      rw [hl] at hcl
      clear hc hl
      go_wp2
      go_meet
      exact ⟨rfl, rfl⟩
    · clear hl
      go_wp2
      go_meet
      exact ⟨rfl, rfl⟩
  case rest =>
  obtain ⟨rfl, rfl⟩ := hcut
  go_upto_region 15 with fail
  go_cut [63] (fun v wx => v = .bool false ∧ w = wx)
  case first =>
    rcases Hlast.out with ⟨hp, hl⟩ | ⟨rfl, hl⟩
    · have hne : ((n1 : Int) == 0) = false := by rw [beq_eq_false_iff_ne]; omega
      clear hl
      go_wp2
      go_meet
      exact ⟨rfl, rfl⟩
    · obtain rfl : n0 = 0 := hl
      go_wp2
      go_meet
      exact ⟨rfl, rfl⟩
  case rest =>
  obtain ⟨rfl, rfl⟩ := hcut
  have hnn := fun (w : World) => run_neq_slice_nil_any (P := Tryd.prog) w 22 5 a0 n0 c0 0 0 Tryd.underlying22
  go_upto_if 67 with (go_at_call 8; refine (Calls.mono HZ.out ?_); rintro e w' ⟨rfl, rfl⟩)
  go_cut [0, 9] (fun t _ wx => ∃ ta, t = .slice ta n0 n0 ∧ Hid (Tx wx ta n0 n0 ts) ∧ Hid (Below w.heap.size w wx) ∧ Hid (ta = none → n0 = 0))
  case first =>
    obtain ⟨hlen, hcase⟩ := HT.out
    rcases hcase with ⟨rfl, rfl, rfl⟩ | ⟨x, rfl, hc⟩
    · go_wp2
      go_meet
      exact ⟨none, rfl, ⟨hlen, Nat.le_refl _, by omega, hbT, .inl ⟨rfl, rfl⟩⟩, Below.refl _ _, by first | exact trivial | exact fun _ => trivial | exact fun _ => rfl⟩
    · have hmk := run_mk (k := .u8) Tryd.underlying22 Tryd.info5 (by omega) n0 (by omega)
      have hcp := fun ty => run_clone (k := .u8) Tryd.underlying22 Tryd.info5 w ty x n0 c0 ts hlen hc
      have HX : Hid (Tx (w.alloc (.cells (cellsK .u8 ts).toArray 5)) (some ⟨w.heap.size, 0, none⟩) n0 n0 ts) := ⟨hlen, Nat.le_refl _, by omega, hbT, .inr ⟨w.heap.size, rfl, by simp, fun i hi => row_cell (alloc_heap _ _) i (by omega)⟩⟩
      clear hlen hc
      go_wp2
      go_meet
      exact ⟨_, rfl, HX, (Below.refl _ w).alloc (Nat.le_refl _) _, by first | exact trivial | exact fun h => by cases h⟩
  case rest =>
  obtain ⟨ta, rfl, HX, HB1, Hta⟩ := hcut
  clear hnn HT
  obtain ⟨w1, hw1⟩ : ∃ w1, w1 = wc := ⟨_, rfl⟩
  subst hw1
  have hnn := fun (w : World) => run_neq_slice_nil_any (P := Tryd.prog) w 23 3 a1 n1 c1 0 0 Tryd.underlying23
  go_upto_if 76 with fail
  have HE1 : Hid (Arg .i64 w1 a1 n1 c1 es) := Arg.below HE.out HB1.out
  go_cut [1, 10] (fun t _ wx => ∃ ea, t = .slice ea n1 n1 ∧ Hid (En wx ea n1 es) ∧ Hid (Below w1.heap.size w1 wx) ∧ Hid (ea = none → n1 = 0))
  case first =>
    obtain ⟨hlen, hcase⟩ := HE1.out
    rcases hcase with ⟨rfl, rfl, rfl⟩ | ⟨x, rfl, hc⟩
    · go_wp2
      go_meet
      exact ⟨none, rfl, ⟨hlen, fun h => absurd h (by omega)⟩, Below.refl _ _, by first | exact trivial | exact fun _ => trivial | exact fun _ => rfl⟩
    · have hmk := run_mk (k := .i64) Tryd.underlying23 Tryd.info3 (by omega) n1 (by omega)
      have hcp := fun ty => run_clone (k := .i64) Tryd.underlying23 Tryd.info3 w1 ty x n1 c1 es hlen hc
      have HX : Hid (En (w1.alloc (.cells (cellsK .i64 es).toArray 3)) (some ⟨w1.heap.size, 0, none⟩) n1 es) := ⟨hlen, fun _ => ⟨w1.heap.size, rfl, by simp, fun i hi => row_cell (alloc_heap _ _) i (by omega)⟩⟩
      clear hlen hc
      go_wp2
      go_meet
      exact ⟨_, rfl, HX, (Below.refl _ w1).alloc (Nat.le_refl _) _, by first | exact trivial | exact fun h => by cases h⟩
  case rest =>
  obtain ⟨ea, rfl, HY, HB2, Hea⟩ := hcut
  clear hnn HE HE1
  obtain ⟨w2, hw2⟩ : ∃ w2, w2 = wc := ⟨_, rfl⟩
  subst hw2
  go_upto_region 28 with fail
  obtain ⟨i0, hi, hz0, hz1, hz2⟩ := info_parts Tryd.info5
  have HB : Hid (Below w.heap.size w w2) := HB1.out.trans (HB2.out.mono HB1.out.size)
  have HX2 : Hid (Tx w2 ta n0 n0 ts) := HX.out.below (Nat.le_refl _) HB2.out
  have HI2 : Hid (Sl .u8 w2 a2 n2 ids) := Sl.below HI.out (Nat.le_refl _) HB.out
  have HL2 : Hid (Sl .u8 w2 a3 n3 els) := Sl.below HL.out (Nat.le_refl _) HB.out
  have hs2 : Hid (w.heap.size ≤ w2.heap.size) := HB.out.size
  clear HX HI HL HB1 HB2
  go_wp2_with (at_make; refine wpList_make_own _ rfl _ _ 22 rfl w2.heap.size 5 i0 (.int .u8 0) 1 Tryd.underlying22 hi hz0 hz1 _ _ _ (n0 + n2 + 1 + n3) rfl rfl (by omega) ?b2 ?b3 (Nat.le_refl _) ?_)
  case b2 => rw [hz2]; omega
  case b3 => unfold maxLen; omega
  intro w3 hown0 hgrow0
  have HJ0 : Hid (Jn w2.heap.size (n0 + n2 + 1 + n3) w2 [] w3) := ⟨hown0, (Below.refl _ _).grown hgrow0 (Nat.le_refl _) (fun k h => by cases h), (World.ownsRow.lt hown0 w2.heap.size rfl).2⟩
  clear hown0 hgrow0
  have o0 := Jn.own HJ0.out 0 rfl
  have HX3 : Hid (Tx w3 ta n0 n0 ts) := HX2.out.below (Nat.le_refl _) HJ0.out.2.1
  go_wp2_with (at_builtin; refine wpList_append_fits_any _ rfl (.tmp 96) (.tmp 97) 22 rfl w2.heap.size 5 i0 1 Tryd.underlying22 hi hz1 w2.heap.size 0 (n0 + n2 + 1 + n3) _ rfl o0 ta n0 n0 (cellsK .u8 ts) rfl ?a1 ?a2 ?a3 (cellsK_one _ _) (by omega) ?_)
  case a1 => have := HX3.out.1; simp [cellsK]; omega
  case a2 => intro h; have := Hta.out h; exact ⟨this, this⟩
  case a3 => exact Sl.news (Tx.sl HX3.out)
  intro w4 hown1 hgrow1
  have HJ1 : Hid (Jn w2.heap.size (n0 + n2 + 1 + n3) w2 ts w4) := Jn.app (xs := []) HJ0.out (Below.refl _ _) (by have := HX3.out.1; simpa using this) hown1 hgrow1
  have Hl1 : Hid (ts.length = n0) := HX3.out.1
  clear hown1 hgrow1 o0 HJ0 HX3
  have o1 := Jn.own HJ1.out n0 Hl1.out
  have HI3 : Hid (Sl .u8 w4 a2 n2 ids) := Sl.below HI2.out (Nat.le_refl _) HJ1.out.2.1
  go_wp2_with (at_builtin; refine wpList_append_fits_any _ rfl (.tmp 99) (.tmp 100) 22 rfl w2.heap.size 5 i0 1 Tryd.underlying22 hi hz1 w2.heap.size n0 (n0 + n2 + 1 + n3) _ rfl o1 a2 n2 c2 (cellsK .u8 ids) rfl ?b1 (fun h => HI0.out h) ?b3 (cellsK_one _ _) (by omega) ?_)
  case b1 => have := HI3.out.1; simp [cellsK]; omega
  case b3 => exact Sl.news HI3.out
  intro w5 hown1 hgrow1
  have HJ2 : Hid (Jn w2.heap.size (n0 + n2 + 1 + n3) w2 (ts ++ ids) w5) := Jn.app HJ1.out (Below.refl _ _) (by have := HI3.out.1; have := Hl1.out; simp; omega) hown1 hgrow1
  have Hl2 : Hid ((ts ++ ids).length = n0 + n2) := by show _ = _; rw [List.length_append, Hl1.out, HI3.out.1]
  clear hown1 hgrow1 o1 HJ1 HI3
  have o2 := Jn.own HJ2.out (n0 + n2) Hl2.out
  go_wp2_with (at_builtin; refine wpList_append_fits _ rfl (.tmp 102) (.tmp 103) 22 rfl w2.heap.size 5 i0 1 Tryd.underlying22 hi hz1 w2.heap.size (n0 + n2) (n0 + n2 + 1 + n3) _ rfl (o2.alloc _) ⟨w5.heap.size, 0, none⟩ 1 1 (cellsK .u8 [0]) rfl rfl ?e1 (cellsK_one _ _) (by omega) ?_)
  case e1 => intro t u ht; match t, ht with | 0, ht => simp [cellsK] at ht; subst ht; simp [Addr.add]
  intro w6 hown1 hgrow1
  have HJ3 : Hid (Jn w2.heap.size (n0 + n2 + 1 + n3) w2 (ts ++ ids ++ [0]) w6) := Jn.app HJ2.out ((Below.refl _ _).alloc (by have := HJ2.out.2.2; omega) _) (by rw [List.length_append, Hl2.out]; rfl) hown1 hgrow1
  have Hl3 : Hid ((ts ++ ids ++ [0]).length = n0 + n2 + 1) := by show _ = _; rw [List.length_append, Hl2.out]; rfl
  clear hown1 hgrow1 o2 HJ2
  obtain ⟨X3, hX3⟩ : ∃ X3, ts ++ ids ++ [0] = X3 := ⟨_, rfl⟩
  rw [hX3] at HJ3 Hl3
  have HX3 : Hid _ := hX3
  clear hX3
  have o3 := Jn.own HJ3.out (n0 + n2 + 1) Hl3.out
  have HL3 : Hid (Sl .u8 w6 a3 n3 els) := Sl.below HL2.out (Nat.le_refl _) HJ3.out.2.1
  go_wp2_with (at_builtin; refine wpList_append_fits_any _ rfl (.tmp 105) (.tmp 106) 22 rfl w2.heap.size 5 i0 1 Tryd.underlying22 hi hz1 w2.heap.size (n0 + n2 + 1) (n0 + n2 + 1 + n3) _ rfl o3 a3 n3 c3 (cellsK .u8 els) rfl ?f1 (fun h => HL0.out h) ?f3 (cellsK_one _ _) (by omega) ?_)
  case f1 => have := HL3.out.1; simp [cellsK]; omega
  case f3 => exact Sl.news HL3.out
  intro w7 hown1 hgrow1
  have HJ4 : Hid (Jn w2.heap.size (n0 + n2 + 1 + n3) w2 (X3 ++ els) w7) := Jn.app HJ3.out (Below.refl _ _) (by rw [List.length_append, Hl3.out, HL3.out.1]) hown1 hgrow1
  have Hl4 : Hid ((X3 ++ els).length = n0 + n2 + 1 + n3) := by show _ = _; rw [List.length_append, Hl3.out, HL3.out.1]
  clear hown1 hgrow1 o3 HJ3 HL3
  obtain ⟨X4, hX4⟩ : ∃ X4, X3 ++ els = X4 := ⟨_, rfl⟩
  rw [hX4] at HJ4 Hl4
  have HX4 : Hid _ := hX4
  clear hX4
  go_upto_region 33 with fail
  have HY7 : Hid (En w7 ea n1 es) := En.below HY.out (Nat.le_refl _) HJ4.out.2.1
  obtain ⟨W8, W9, hmk2, hcp2, hB9, hs9, hc9, hc9n, hf9⟩ := mk_ends w7 ea n1 es (by omega) HY7.out
  have HB9 : Hid _ := hB9
  have Hs9 : Hid _ := hs9
  have Hc9 : Hid _ := hc9
  clear hB9 hs9 hc9
  go_wp2_with fail
  have HA : Hid (Below w7.heap.size w7 (W9.setCell ⟨w7.heap.size, n1, none⟩ (.int .i64 ((n0 : Int) + n2 + 1 + n3)))) := HB9.out.setCell (Nat.le_refl _) _
  have HE2 : Hid (En (W9.setCell ⟨w7.heap.size, n1, none⟩ (.int .i64 ((n0 : Int) + n2 + 1 + n3))) (some ⟨w7.heap.size, 0, none⟩) (n1 + 1) (es ++ [(n0 : Int) + n2 + 1 + n3])) := ends2_row HY7.out.1 Hs9.out Hc9.out hc9n
  clear hmk2 hcp2 hc9n hf9 HB9 Hs9 Hc9
  generalize W9.setCell ⟨w7.heap.size, n1, none⟩ (.int .i64 ((n0 : Int) + n2 + 1 + n3)) = WA at *
  clear W8 W9
  refine (newdefs _ _ ta ea n0 n0 n1 n1 rfl rfl _).mono ?_
  rintro e WB ⟨rfl, hb1, hs1, ht1, he1⟩
  have Hb1 : Hid _ := hb1
  have Hs1 : Hid _ := hs1
  have Ht1 : Hid _ := ht1
  have He1 : Hid _ := he1
  clear hb1 hs1 ht1 he1
  go_wp2_with fail
  refine (newdefs _ _ (some ⟨w2.heap.size, 0, none⟩) (some ⟨w7.heap.size, 0, none⟩) (n0 + n2 + 1 + n3) (n0 + n2 + 1 + n3) (n1 + 1) (n1 + 1) rfl rfl _).mono ?_
  rintro e WC ⟨rfl, hb2, hs2', ht2, he2⟩
  have hAC : Below WA.heap.size WA WC := Hb1.out.trans (hb2.mono Hb1.out.size)
  have h7C : Below w7.heap.size w7 WC := HA.out.trans (hAC.mono HA.out.size)
  have h2C : Below w2.heap.size w2 WC := HJ4.out.2.1.trans (h7C.mono HJ4.out.2.1.size)
  have h0C : Below w.heap.size w WC := HB.out.trans (h2C.mono HB.out.size)
  have hG := cell_below h0C (Nat.le_refl _) Hg.out
  have hGz := cell_below h0C (Nat.le_refl _) Hgz.out
  have hX4b : ∀ x ∈ X4, 0 ≤ x ∧ x < 256 := by
    intro x hx
    rw [← HX4.out, ← HX3.out] at hx
    simp only [List.mem_append, List.mem_singleton] at hx
    rcases hx with ((hx | hx) | hx) | hx
    · exact hbT x hx
    · exact hbI x hx
    · subst hx; omega
    · exact hbL x hx
  have D1 : Hid (DefAt WC WA.heap.size z zo zc ts es) := ⟨ta, n0, n0, ea, n1, HX2.out.below (Nat.le_refl _) h2C, HY.out.below (Nat.le_refl _) h2C, by omega, cell_below hb2 (Nat.le_refl _) Ht1.out, cell_below hb2 (Nat.le_refl _) He1.out, hG, hGz⟩
  have D2 : Hid (DefAt WC WB.heap.size z zo zc X4 (es ++ [(n0 : Int) + n2 + 1 + n3])) := ⟨some ⟨w2.heap.size, 0, none⟩, n0 + n2 + 1 + n3, n0 + n2 + 1 + n3, some ⟨w7.heap.size, 0, none⟩, n1 + 1, ⟨Hl4.out, Nat.le_refl _, by omega, hX4b, .inr ⟨w2.heap.size, rfl, by have := HJ4.out.2.2; have := h7C.size; omega, fun i hi => by
      have := HJ4.out.cell i (by rw [Hl4.out]; exact hi)
      exact cell_below h7C (Nat.le_refl _) this⟩⟩, HE2.out.below (Nat.le_refl _) hAC, by omega, ht2, he2, hG, hGz⟩
  have HIC : Hid (Sl .u8 WC a2 n2 ids) := Sl.below HI2.out (Nat.le_refl _) h2C
  have HLC : Hid (Sl .u8 WC a3 n3 els) := Sl.below HL2.out (Nat.le_refl _) h2C
  have HBC : Hid (Below w.heap.size w WC) := h0C
  have HXX : Hid (X4 = ts ++ ids ++ [0] ++ els) := by show _ = _; rw [← HX4.out, ← HX3.out]
  have Hes : Hid (es.length = n1) := HY.out.1
  clear hAC h7C h2C h0C hG hGz hX4b hb2 hs2' ht2 he2 Hb1 Hs1 Ht1 He1 HA HE2 HJ4 HB HX2 HY HY7 HI2 HL2 HX3 HX4 Hg Hgz hi hz0 hz1 hz2 HV HZ hbT hbI hbL HI0 HL0 HE' Hl2 Hl3 hs2
  generalize WA.heap.size = d1 at *
  generalize WB.heap.size = d2 at *
  go_wp2
  go_loopw [16] (fun i wr => ∃ j : Nat, j ≤ n1 ∧ i = .int .i64 j ∧ ∃ m, wr = WC.drewN m) (fun i _ => n1 - (intOf i).toNat)
  case atStart => exact ⟨0, Nat.zero_le _, rfl, 0, rfl⟩
  case round =>
    obtain ⟨j, hj, rfl, m, rfl⟩ := hrel
    by_cases hlt : j < n1
    · obtain ⟨ps, pe, p1, p2, p3, p4, p5⟩ := places n0 es Hv.out j (by have := Hes.out; omega)
      have hjl : j < es.length := by have := Hes.out; omega
      have HP : Hid (_ ∧ _ ∧ _ ∧ _ ∧ _) := ⟨p1, p2, p3, p4, p5⟩
      clear p1 p2 p3 p4 p5
      go_wp2_with fail
      obtain ⟨x1, k1, y1, x2, k2, y2, s1, s2, b1, b2, hC⟩ := D1.out.at m j ps pe hjl HP.out.1 (by have := HP.out.2.1; have := Hl1.out; omega) HP.out.2.2.1 HP.out.2.2.2.1 HP.out.2.2.2.2
      refine (Calls.mono (key_of hC) ?_)
      rintro e w' ⟨rfl, m1, rfl⟩
      have S1 : Hid _ := s1
      clear s1 s2 hC
      rw [World.drewN_drewN]
      go_wp2_with fail
      obtain ⟨x3, k3, y3, x4, k4, y4, s3, s4, b3, b4, hC⟩ := D2.out.at (m + m1) j ps pe (by rw [List.length_append]; simp; omega) HP.out.1 (by rw [HXX.out]; have := HP.out.2.1; have := Hl1.out; simp; omega) (fun h => by rw [getD_app _ _ _ (by omega)]; exact HP.out.2.2.1 h) HP.out.2.2.2.1 (by rw [getD_app _ _ _ hjl]; exact HP.out.2.2.2.2)
      refine (Calls.mono (key_of hC) ?_)
      rintro e w' ⟨rfl, m2, rfl⟩
      have S3 : Hid _ := s3
      clear s3 s4 hC
      rw [World.drewN_drewN]
      go_wp2_with fail
      refine (eq_any _ _ k1 y1 k3 y3 _ _ (WC.drewN (m + m1 + m2)) (by omega) (Sl.drewN S1.out _) (Sl.drewN S3.out _)).mono ?_
      rintro e w' ⟨rfl, m3, rfl⟩
      have hsame : (idOf ((ts.take pe).drop ps) == idOf ((X4.take pe).drop ps)) = true := by
        rw [HXX.out, List.append_assoc, List.append_assoc, sub_same _ _ _ _ (by have := HP.out.2.1; have := Hl1.out; omega)]
        exact beq_self_eq_true _
      rw [hsame, World.drewN_drewN]
      clear hsame S1 S3 HP
      go_wp2
      go_roundw
      case rel => exact ⟨j + 1, by omega, by go_num, _, rfl⟩
      case measure => simp [intOf]; omega
    · obtain rfl : j = n1 := by omega
      have hlen : X4.length = n0 + n2 + 1 + n3 := Hl4.out
      have hq := fun m => D2.out.at m j n0 (n0 + n2 + 1 + n3) (by rw [List.length_append, Hes.out]; simp) (by omega) (by omega)
        (fun h => by rw [getD_app _ _ _ (by have := Hes.out; omega)]; rcases Hlast.out with ⟨_, h'⟩ | ⟨h', _⟩; exact h'; omega)
        (fun h => by rcases Hlast.out with ⟨h', _⟩ | ⟨_, h'⟩; omega; exact h') (by have := getD_new es ((n0 : Int) + n2 + 1 + n3); rw [Hes.out] at this; rw [this]; simp)
      have hsub : (X4.take (n0 + n2 + 1 + n3)).drop n0 = ids ++ ([0] ++ els) := by
        have := sub_new ts ids els
        rw [← HXX.out, Hl1.out, HIC.out.1, HLC.out.1] at this
        exact this
      rw [hsub, (id_new ids els Hz.out).1, (id_new ids els Hz.out).2] at hq
      have HQ : Hid _ := hq
      clear hq hsub hlen D1 D2 HXX
      go_wp2_with fail
      obtain ⟨x1, k1, y1, x2, k2, y2, s1, s2, b1, b2, hC⟩ := HQ.out m
      refine (Calls.mono (defat_of hC) ?_)
      rintro e w' ⟨rfl, m1, rfl⟩
      have S1 : Hid _ := s1
      have S2 : Hid _ := s2
      clear s1 s2 hC
      rw [World.drewN_drewN]
      go_wp2_with fail
      obtain ⟨x3, k3, y3, x4, k4, y4, s3, s4, b3, b4, hC⟩ := HQ.out (m + m1)
      refine (Calls.mono (key_of hC) ?_)
      rintro e w' ⟨rfl, m2, rfl⟩
      have S3 : Hid _ := s3
      clear s3 s4 hC
      rw [World.drewN_drewN]
      go_wp2_with fail
      refine (eq_any _ _ k3 y3 n2 c2 _ _ (WC.drewN (m + m1 + m2)) (by omega) (Sl.drewN S3.out _) (Sl.drewN HIC.out _)).mono ?_
      rintro e w' ⟨rfl, m3, rfl⟩
      rw [beq_self_eq_true, World.drewN_drewN]
      go_wp2_with fail
      refine (eq_any _ _ k1 y1 n2 c2 _ _ (WC.drewN (m + m1 + m2 + m3)) (by omega) (Sl.drewN S1.out _) (Sl.drewN HIC.out _)).mono ?_
      rintro e w' ⟨rfl, m4, rfl⟩
      rw [beq_self_eq_true, World.drewN_drewN]
      go_wp2_with fail
      refine (eq_any _ _ k2 y2 n3 c3 _ _ (WC.drewN (m + m1 + m2 + m3 + m4)) (by omega) (Sl.drewN S2.out _) (Sl.drewN HLC.out _)).mono ?_
      rintro e w' ⟨rfl, m5, rfl⟩
      rw [beq_self_eq_true, World.drewN_drewN]
      go_wp2
      go_ret
      exact ⟨rfl, below_drewN HBC.out _⟩
end Go.Proofs.Qxb6614898aDoor
