/-
  FnDefinitionsKeyKeepsEarlierIdsAndReadsAnAddedOne: THE ROW, out of the walks; THE CARD, out of the row and the given tie.
-/
import Derived.Test.Qxb6614898aDoorDefLaw
import Derived.Test.Qxb6614898aDoorTie
import Derived.Test.Qxb6614898aDoorCards
import Derived.ProofKit
import Derived.OpenShut
import Derived.ChangeOld
import Derived.ChangeVars
import Derived.LaidMore
import Derived.Stop.Joined
import Derived.SevenTiedAt
namespace Go.Proofs.Qxb6614898aDoor.fnDefinitions
open Go.ChangeShapes Go.WideShapes Go.ChangeAt Go.RowKit
set_option linter.unusedVariables false
set_option maxRecDepth 100000

theorem own : ownKnob Tryd.prog.godebug = none := by kernel_rfl
theorem laidOut : laidOutB Tryd.prog = true := by kernel_rfl
/-- The listed variable's name, off the given specification. -/
def zname : String := Rows.fnDefinitionsKeyKeepsEarlierIdsAndReadsAnAddedOneSpec.vars.headD ""
theorem gZero : Tryd.prog.globalNamed zname = some 0 := by kernel_rfl
theorem tZero : (Tryd.prog.globals[0]?).map (·.type) = some 22 := by kernel_rfl
theorem cells5 : Tryd.prog.cellsOf 5 = 1 := by kernel_rfl
theorem cells3 : Tryd.prog.cellsOf 3 = 1 := by kernel_rfl

/-- The door's own heap meets the condition: three closed facts. -/
theorem door_met (os : Os) (args : Array Value) : laidMetH Tryd.prog Rows.fnDefinitionsKeyKeepsEarlierIdsAndReadsAnAddedOneRow.laid ((World.doorLaid Tryd.prog 57 os).forCall (fun _ _ => 0) ⟨#[], args, []⟩).memory :=
  laidMetH_of_parts3 (fuel := 8) (laidMet_of_run' 8 (by kernel_rfl) (by kernel_rfl)) (by kernel_rfl) (by kernel_rfl)

/-- WHAT THE CONDITION GIVES THE WALKS: the variable's cell, and the zero byte behind it. -/
theorem of_laid {W : World} (h : laidMetH Tryd.prog Rows.fnDefinitionsKeyKeepsEarlierIdsAndReadsAnAddedOneRow.laid W) : ∃ z zo zc, W.cell? ⟨0, 0, none⟩ = some (.slice (some ⟨z, zo, none⟩) 1 zc) ∧ W.cell? ⟨z, zo, none⟩ = some (.int .u8 0) := by
  rw [MakeChecks.laidMetH_plain _ _ _ (by kernel_rfl)] at h
  obtain ⟨ps, ⟨g0, t0, cs0, f0, p0, q0, hg0, ht0, hv0, hd0, _⟩, _, _⟩ := h
  obtain rfl := Option.some.inj (gZero.symm.trans hg0)
  obtain rfl := Option.some.inj (tZero.symm.trans ht0)
  rcases open_ints Tryd.underlying22 Tryd.underlying5 cells5 hd0 with ⟨_, hx⟩ | ⟨a, len, cap, zs, hcs, _, hl, hm, hz, hx, hcell, hwz⟩
  · simp [Rows.laid_example_com_quorumwatch_quorumwatch_internal_cib_zero] at hx
  · simp only [Prod.mk.injEq, Rows.laid_example_com_quorumwatch_quorumwatch_internal_cib_zero, DataW.slice.injEq] at hx
    obtain ⟨⟨h1, h2⟩, _⟩ := hx
    have hz' : zs.length = cap := by simpa using hz
    have hl1 : len = 1 := by
      have hlen := congrArg List.length h1
      simp only [lits, List.length_map, List.length_take, List.length_cons, List.length_nil] at hlen
      omega
    have h0 : zs.getD 0 0 = 0 := by
      subst hl1
      cases zs with
      | nil => simp at hz'; omega
      | cons x r =>
        simp [lits] at h1
        simpa using h1.symm
    have hzl : 0 < zs.length := by omega
    have hc0 := hcell 0 hzl
    obtain ⟨b, o, sp⟩ := a
    have hsp : sp = none := by simpa [Addr.add] using World.cell?_spot hc0
    subst hsp
    refine ⟨b, o, cap, ?_, ?_⟩
    · have := World.var?_cell hg0 hv0 0
      rw [Array.eq_one_of_toList hcs] at this
      rw [← hl1]
      simpa using this
    · rw [h0] at hc0
      simpa [Addr.add] using hc0

/-- WHAT THE WALK IS TOLD OF A SLICE OF INTEGERS THAT CAME IN. -/
def IsRow (k : IntKind) (w : World) (a : Option Addr) (len cap : Nat) (zs : List Int) : Prop :=
  (a = none ∧ len = 0 ∧ cap = 0 ∧ zs = []) ∨
  ∃ x, a = some x ∧ len ≤ cap ∧ cap ≤ maxLen ∧ zs.length = cap ∧ (∀ i, i < zs.length → w.cell? (x.add i) = some (.int k (zs.getD i 0))) ∧ ∀ n ∈ zs, (Lit.int k n).wf = true
theorem IsRow.arg {k : IntKind} {w : World} {a : Option Addr} {len cap : Nat} {zs : List Int} (h : IsRow k w a len cap zs) : Arg k w a len cap (zs.take len) := by
  rcases h with ⟨rfl, rfl, rfl, rfl⟩ | ⟨x, rfl, hl, hm, hz, hcell, hwz⟩
  · exact ⟨rfl, .inl ⟨rfl, rfl, rfl⟩⟩
  · refine ⟨by simp; omega, .inr ⟨x, rfl, fun i hi => ?_⟩⟩
    rw [getD_take zs len i hi]
    exact hcell i (by omega)
theorem IsRow.sl {k : IntKind} {w : World} {a : Option Addr} {len cap : Nat} {zs : List Int} (h : IsRow k w a len cap zs) : Sl k w a len (zs.take len) ∧ (a = none → len = 0 ∧ cap = 0) ∧ len ≤ maxLen := by
  rcases h with ⟨rfl, rfl, rfl, rfl⟩ | ⟨x, rfl, hl, hm, hz, hcell, hwz⟩
  · exact ⟨Sl.nil _ _ _, fun _ => ⟨rfl, rfl⟩, by omega⟩
  · refine ⟨⟨by simp; omega, fun h => ?_⟩, (fun h => by cases h), by omega⟩
    obtain ⟨b, o, sp⟩ := x
    have hsp : sp = none := by simpa [Addr.add] using World.cell?_spot (hcell 0 (by omega))
    subst hsp
    have h0 := hcell 0 (by omega)
    refine ⟨b, o, rfl, World.block_lt_of_cell? w ⟨b, o + 0, none⟩ (by simpa [Addr.add] using h0), fun i hi => ?_⟩
    rw [getD_take zs len i hi]
    have := hcell i (by omega)
    rwa [Addr.add_lit] at this
theorem IsRow.bytes {w : World} {a : Option Addr} {len cap : Nat} {zs : List Int} (h : IsRow .u8 w a len cap zs) : ∀ x ∈ zs.take len, 0 ≤ x ∧ x < 256 := by
  rcases h with ⟨rfl, rfl, rfl, rfl⟩ | ⟨x, rfl, hl, hm, hz, hcell, hwz⟩
  · intro x hx; simp at hx
  · intro y hy
    have := bounds_u8 (hwz y (List.mem_of_mem_take hy))
    omega

theorem walk (a0 : Option Addr) (len0 cap0 : Nat) (z0 : List Int) (a1 : Option Addr) (len1 cap1 : Nat) (z1 : List Int) (a2 : Option Addr) (len2 cap2 : Nat) (z2 : List Int) (a3 : Option Addr) (len3 cap3 : Nat) (z3 : List Int) (z zo zc : Nat) (w : World)
    (w0 : IsRow .u8 w a0 len0 cap0 z0) (w1 : IsRow .i64 w a1 len1 cap1 z1) (w2 : IsRow .u8 w a2 len2 cap2 z2) (w3 : IsRow .u8 w a3 len3 cap3 z3)
    (hg : w.cell? ⟨0, 0, none⟩ = some (.slice (some ⟨z, zo, none⟩) 1 zc)) (hgz : w.cell? ⟨z, zo, none⟩ = some (.int .u8 0)) :
    Calls Tryd.prog 3 #[.slice a0 len0 cap0, .slice a1 len1 cap1, .slice a2 len2 cap2, .slice a3 len3 cap3] w fun e w' => e = .returned (.bool true) ∧ Below w.heap.size w w' := by
  obtain ⟨s0, e0, m0⟩ := w0.sl
  obtain ⟨s1, e1, m1⟩ := w1.sl
  obtain ⟨s2, e2, m2⟩ := w2.sl
  obtain ⟨s3, e3, m3⟩ := w3.sl
  by_cases hs : 1048576 < len0 + len1 + len2 + len3
  · exact def_long a0 a1 a2 a3 len0 cap0 len1 cap1 len2 cap2 len3 cap3 w m0 m1 m2 m3 hs
  by_cases hx : 262144 < len0 ∨ 32768 < len1 ∨ 262144 < len2 ∨ 262144 < len3
  · exact def_each a0 a1 a2 a3 len0 cap0 len1 cap1 len2 cap2 len3 cap3 w (by omega) hx
  cases hv : validFrom len0 0 (z1.take len1) with
  | false => exact def_ends a0 a1 a2 a3 len0 cap0 len1 cap1 len2 cap2 len3 cap3 _ w (by omega) (by omega) (by omega) (by omega) s1 hv
  | true =>
    by_cases hl : (0 < len1 ∧ (z1.take len1).getD (len1 - 1) 0 ≠ len0) ∨ (len1 = 0 ∧ len0 ≠ 0)
    · exact def_last a0 a1 a2 a3 len0 cap0 len1 cap1 len2 cap2 len3 cap3 _ w (by omega) (by omega) (by omega) (by omega) s1 hv hl
    · have hl' : (0 < len1 ∧ (z1.take len1).getD (len1 - 1) 0 = len0) ∨ (len1 = 0 ∧ len0 = 0) := by
        by_cases h0 : len1 = 0
        · exact .inr ⟨h0, Classical.byContradiction fun h => hl (.inr ⟨h0, h⟩)⟩
        · exact .inl ⟨by omega, Classical.byContradiction fun h => hl (.inl ⟨by omega, h⟩)⟩
      cases hz : hasZ (z2.take len2) with
      | true => exact def_zero a0 a1 a2 a3 len0 cap0 len1 cap1 len2 cap2 len3 cap3 _ _ w (by omega) (by omega) (by omega) (by omega) s1 hv s2 hz hl'
      | false => exact def_law a0 a1 a2 a3 len0 cap0 len1 cap1 len2 cap2 len3 cap3 z zo zc _ _ _ _ w (by omega) (by omega) (by omega) (by omega) w0.arg w1.arg s2 s3 e2 e3 w0.bytes w2.bytes w3.bytes s1 hv hl' hz hg hgz

theorem open_row {H : Type} {enc : TypeId × Value → H} {t e : TypeId} {k : IntKind} {W : World} {a : Option Addr} {len cap : Nat} {d : DataW H} {p : List MemPlace} (ht : Tryd.prog.underlying t = some (.slice e)) (he : Tryd.prog.underlying e = some (.int k)) (hc : Tryd.prog.cellsOf e = 1)
    (h : DataW.Trod enc Tryd.prog W 0 (fun _ => true) true t (.slice a len cap) d p) : ∃ zs, IsRow k W a len cap zs := by
  obtain ⟨fuel, hf⟩ := h
  rcases open_ints ht he hc hf with ⟨hcs, _⟩ | ⟨x, l, c, zs, hcs, _, hl, hm, hz, _, hcell, hwz⟩
  · simp [Value.cells] at hcs
    obtain ⟨rfl, rfl, rfl⟩ := hcs
    exact ⟨[], .inl ⟨rfl, rfl, rfl, rfl⟩⟩
  · simp [Value.cells] at hcs
    obtain ⟨rfl, rfl, rfl⟩ := hcs
    exact ⟨zs, .inr ⟨_, rfl, hl, hm, by simpa using hz, hcell, hwz⟩⟩

theorem lifted (os : Os) (started : os.Started) (H : Type) (enc : TypeId × Value → H) :
    ReturnsInHanded {} Tryd.checked os 3 .any (fun w args => (Rows.fnDefinitionsKeyKeepsEarlierIdsAndReadsAnAddedOneSpec.pre enc Tryd.prog Tryd.f3 [] false w args ∧ laidMetH Tryd.prog Rows.fnDefinitionsKeyKeepsEarlierIdsAndReadsAnAddedOneRow.laid w) ∧ sizedMet enc Tryd.prog Tryd.f3 (OpenSpec.ofChange Rows.fnDefinitionsKeyKeepsEarlierIdsAndReadsAnAddedOneSpec) false w args)
      (Rows.fnDefinitionsKeyKeepsEarlierIdsAndReadsAnAddedOneSpec.post enc Tryd.prog Tryd.f3 false true false false) := by
  refine returnsInHanded_of_change_and (C := Tryd.checked) (X := fun w _ => laidMetH Tryd.prog Rows.fnDefinitionsKeyKeepsEarlierIdsAndReadsAnAddedOneRow.laid w) (fun _ _ _ hh h => h.of_heap hh) own started (by kernel_rfl) Tryd.func3
    (ChangeSpec.witness_shaped (enc := enc) (C := Tryd.checked) (os := os) (X := fun w _ => laidMetH Tryd.prog Rows.fnDefinitionsKeyKeepsEarlierIdsAndReadsAnAddedOneRow.laid w) false (World.doorLaid Tryd.prog 57 os) #[.slice none 0 0, .slice none 0 0, .slice none 0 0, .slice none 0 0] 8 rfl (World.shaped_of_RefB (by kernel_rfl) (by kernel_rfl)) (by kernel_rfl) (by kernel_rfl) (by kernel_rfl) (door_met os _)) ?_
  intro W base args ds gs before hval0 hW _ _ hL _
  have hval : ∀ (j : Nat) t v, Tryd.f3.params[j]? = some t → args[j]? = some v → Value.okWide Tryd.prog W .any base t v := hval0
  have hW' := hW
  obtain ⟨p, q, hA0, hV0, rfl, hfz, hnd⟩ := hW
  have hA : DataW.TrodAll enc Tryd.prog W 0 (fun _ => true) true Tryd.f3.params.toList args.toList ds p := hA0
  have hV : DataW.TrodVars enc Tryd.prog W (fun _ => true) [zname] gs q := hV0
  rw [Tryd.params3] at hA hval
  obtain ⟨v0, vs0, d0, ds0, p0, q0, hargs, rfl, rfl, h0, r0⟩ := trodAll_cons hA
  obtain ⟨v1, vs1, d1, ds1, p1, q1, rfl, rfl, rfl, h1, r1⟩ := trodAll_cons r0
  obtain ⟨v2, vs2, d2, ds2, p2, q2, rfl, rfl, rfl, h2, r2⟩ := trodAll_cons r1
  obtain ⟨v3, vs3, d3, ds3, p3, q3, rfl, rfl, rfl, h3, r3⟩ := trodAll_cons r2
  obtain ⟨rfl, rfl, rfl⟩ := trodAll_nil r3
  obtain rfl : args = #[v0, v1, v2, v3] := by cases args; simp_all
  obtain ⟨g, t, cs, fuel, d, p', rfl, hg, ht, hvar, hd, rfl⟩ := trodVars_one hV
  obtain rfl := Option.some.inj (gZero.symm.trans hg)
  obtain rfl := Option.some.inj (tZero.symm.trans ht)
  obtain ⟨z, zo, zc, hgc, hgz⟩ := of_laid hL
  obtain ⟨a0, len0, cap0, rfl⟩ := okWide_slice Tryd.underlying22 (hval 0 22 v0 rfl rfl)
  obtain ⟨a1, len1, cap1, rfl⟩ := okWide_slice Tryd.underlying23 (hval 1 23 v1 rfl rfl)
  obtain ⟨a2, len2, cap2, rfl⟩ := okWide_slice Tryd.underlying22 (hval 2 22 v2 rfl rfl)
  obtain ⟨a3, len3, cap3, rfl⟩ := okWide_slice Tryd.underlying22 (hval 3 22 v3 rfl rfl)
  have lt0 : ∀ x ∈ p0, x.block < W.heap.size := by obtain ⟨m, hm⟩ := h0; exact DataW.trod_lt m _ _ _ hm
  have lt1 : ∀ x ∈ p1, x.block < W.heap.size := by obtain ⟨m, hm⟩ := h1; exact DataW.trod_lt m _ _ _ hm
  have lt2 : ∀ x ∈ p2, x.block < W.heap.size := by obtain ⟨m, hm⟩ := h2; exact DataW.trod_lt m _ _ _ hm
  have lt3 : ∀ x ∈ p3, x.block < W.heap.size := by obtain ⟨m, hm⟩ := h3; exact DataW.trod_lt m _ _ _ hm
  have ltv : ∀ x ∈ p', x.block < W.heap.size := DataW.trod_lt fuel _ _ _ hd
  obtain ⟨z0, w0⟩ := open_row Tryd.underlying22 Tryd.underlying5 cells5 h0
  obtain ⟨z1, w1⟩ := open_row Tryd.underlying23 Tryd.underlying3 cells3 h1
  obtain ⟨z2, w2⟩ := open_row Tryd.underlying22 Tryd.underlying5 cells5 h2
  obtain ⟨z3, w3⟩ := open_row Tryd.underlying22 Tryd.underlying5 cells5 h3
  have hcs' : cs = #[.slice (some ⟨z, zo, none⟩) 1 zc] := by
    have hv0 := World.var?_cell hg hvar 0
    rw [hgc] at hv0
    have h1 : cs.toList.length = 1 := by
      rcases open_ints Tryd.underlying22 Tryd.underlying5 cells5 hd with ⟨hcs, _⟩ | ⟨_, _, _, _, hcs, _⟩ <;> rw [hcs] <;> rfl
    obtain ⟨l⟩ := cs
    match l, h1 with
    | [c], _ => simp at hv0; rw [hv0]
  subst hcs'
  have h0lt : 0 < W.heap.size := World.block_lt_of_cell? W _ hgc
  clear hA0 hval0 hV0 hA hV
  refine (walk a0 len0 cap0 z0 a1 len1 cap1 z1 a2 len2 cap2 z2 a3 len3 cap3 z3 z zo zc W w0 w1 w2 w3 hgc hgz).mono fun e W' ⟨he, bel⟩ => ?_
  subst he
  obtain ⟨fuel', hd'⟩ := Below.trod laidOut (by kernel_rfl) (of_decide_eq_true (by kernel_rfl)) (v := .slice (some ⟨z, zo, none⟩) 1 zc) (⟨fuel, by simpa [Value.cells] using hd⟩ : DataW.Trod enc Tryd.prog W 0 (fun _ => true) true 22 (.slice (some ⟨z, zo, none⟩) 1 zc) d p') bel ltv
  have hv' := trodVars_mk1 (enc := enc) (spare := fun b => decide (b < W.heap.size)) hg ht (var?_below bel hg h0lt hvar) (by simpa [Value.cells] using hd')
  exact ⟨_, rfl, _, _, _, [], _, _, hW', trodAll_mk1 (shut_bool Tryd.underlying4 _), (trodAll_cons_mk (Below.trod laidOut (by kernel_rfl) (of_decide_eq_true (by kernel_rfl)) h0 bel lt0) (trodAll_cons_mk (Below.trod laidOut (by kernel_rfl) (of_decide_eq_true (by kernel_rfl)) h1 bel lt1) (trodAll_cons_mk (Below.trod laidOut (by kernel_rfl) (of_decide_eq_true (by kernel_rfl)) h2 bel lt2) (trodAll_cons_mk (Below.trod laidOut (by kernel_rfl) (of_decide_eq_true (by kernel_rfl)) h3 bel lt3) trodAll_mk0)))), hv', bel.frame _, fun h => by cases h⟩

theorem over : Rows.fnDefinitionsKeyKeepsEarlierIdsAndReadsAnAddedOneRow.holds Tryd.pinned (OpenSpec.ofChange Rows.fnDefinitionsKeyKeepsEarlierIdsAndReadsAnAddedOneSpec) :=
  OpenClaim.holds_of_wide 3 Tryd.f3 rfl rfl rfl rfl rfl rfl rfl ⟨rfl, rfl, rfl, rfl, rfl⟩ rfl rfl rfl rfl rfl (by kernel_rfl) Tryd.func3 (by kernel_rfl)
    (of_decide_eq_true (by kernel_rfl)) (by unfold Func.isWrapper; first | (rw [if_pos (by decide +kernel)]; kernel_rfl) | (rw [if_neg (by decide +kernel)]; exact ⟨rfl, rfl⟩))
    (fun os started H enc _ => lifted os started H enc)

/-- THE CARD. -/
theorem proved : Rows.FnDefinitionsKeyKeepsEarlierIdsAndReadsAnAddedOneCardSaid :=
  Claim7.holds_tied_plain_at .later [] [.widerDeep] true (true, "d93f0abe0a2e6a19ee47094faf30bf8bde1c9b876061329bc4aada7f2c1470ef") true
    over (fun _ h => by cases h) (by kernel_rfl) (fun _ h => by cases h) fnDefinitionsKeyKeepsEarlierIdsAndReadsAnAddedOne_row_tie rfl ⟨rfl, rfl⟩ (by kernel_rfl) rfl
    (fun f fn hf hfn => by
      obtain rfl : f = 3 := Option.some.inj ((show Tryd.prog.funcNamed Rows.fnDefinitionsKeyKeepsEarlierIdsAndReadsAnAddedOneRow.func = some 3 by kernel_rfl).symm.trans hf) |>.symm
      obtain rfl : fn = Tryd.f3 := (Option.some.inj (Tryd.func3.symm.trans hfn)).symm
      exact ⟨by kernel_rfl, fun j t ht => by
        rw [Tryd.params3] at ht
        have hm : t ∈ [22, 23, 22, 22] := by simpa using Array.mem_of_getElem? ht
        have hall : ([22, 23, 22, 22].all fun u => !Tryd.prog.wantsStandIn u) = true := by kernel_rfl
        exact (show Tryd.prog.wantsStandIn t = false by simpa using List.all_eq_true.1 hall t hm)⟩)
    (by kernel_rfl)
end Go.Proofs.Qxb6614898aDoor.fnDefinitions
