/-
  FnScannerFillUntilDoneDeliversKeptBytesThenTheWholeInput: THE ROW, out of the walks; THE CARD, out of the row and the given tie.
-/
import Derived.Test.Qxb6614898aDoorScanQ
import Derived.Test.Qxb6614898aDoorScanR
import Derived.Test.Qxb6614898aDoorTie
import Derived.Test.Qxb6614898aDoorCards
import Derived.SevenTiedAt
namespace Go.Proofs.Qxb6614898aDoor.fnDrain
open Go.ChangeShapes Go.WideShapes Go.ChangeAt Go.RowKit
set_option linter.unusedVariables false
set_option maxRecDepth 100000

theorem walk (a0 : Option Addr) (n0 c0 : Nat) (z0 : List Int) (pos en lines : Int) (eof : Bool) (a1 : Option Addr) (n1 c1 : Nat) (z1 : List Int) (nb no nc : Nat) (ea : Addr) (w : World) (u0 : SRow w a0 n0 c0 z0) (u1 : SRow w a1 n1 c1 z1) (hl : -9223372036854775808 ≤ lines) (hg : Gl w.heap.size w nb no nc ea) :
    Calls Tryd.prog 5 #[.slice a0 n0 c0, .int .i64 pos, .int .i64 en, .int .i64 lines, .bool eof, .slice a1 n1 c1] w fun e w' => e = .returned (.bool true) ∧ Below w.heap.size w w' := by
  obtain ⟨s0, e0, m0⟩ := u0.sl
  obtain ⟨s1, e1, m1⟩ := u1.sl
  by_cases hs : 1048576 < n0 + n1
  · exact dr_long a0 a1 n0 c0 n1 c1 pos en lines eof w m0 m1 hs
  by_cases hx : 524288 < n0 ∨ 524288 < n1
  · exact dr_each a0 a1 n0 c0 n1 c1 pos en lines eof w (by omega) hx
  by_cases ho : pos < 0 ∨ en < pos ∨ (n0 : Int) < en ∨ 9223372036854775807 - (n0 : Int) < lines
  · exact dr_out a0 a1 n0 c0 n1 c1 pos en lines eof w (by omega) (by omega) ho
  cases eof with
  | true => exact dr_done a0 a1 n0 c0 n1 c1 _ _ w pos en lines (by omega) (by omega) (by omega) (by omega) (by omega) (by omega) u0.arg u1.arg s0
  | false =>
    obtain ⟨p, rfl⟩ : ∃ p : Nat, pos = p := ⟨pos.toNat, by omega⟩
    obtain ⟨e, rfl⟩ : ∃ e : Nat, en = e := ⟨en.toNat, by omega⟩
    exact dr_law a0 a1 n0 c0 n1 c1 _ _ w nb no nc ea hg p e lines (by omega) (by omega) e0 (by omega) (by omega) hl (by omega) u0.arg u1.arg s0 s1 u0.bytes u1.bytes


theorem lifted (os : Os) (started : os.Started) (H : Type) (enc : TypeId × Value → H) :
    ReturnsInHanded {} Tryd.checked os 5 .any (fun w args => (Rows.fnScannerFillUntilDoneDeliversKeptBytesThenTheWholeInputSpec.pre enc Tryd.prog Tryd.f5 [] false w args ∧ laidMetH Tryd.prog Rows.fnScannerFillUntilDoneDeliversKeptBytesThenTheWholeInputRow.laid w) ∧ sizedMet enc Tryd.prog Tryd.f5 (OpenSpec.ofChange Rows.fnScannerFillUntilDoneDeliversKeptBytesThenTheWholeInputSpec) false w args)
      (Rows.fnScannerFillUntilDoneDeliversKeptBytesThenTheWholeInputSpec.post enc Tryd.prog Tryd.f5 false true false false) := by
  refine returnsInHanded_of_change_and (C := Tryd.checked) (X := fun w _ => laidMetH Tryd.prog Rows.fnScannerFillUntilDoneDeliversKeptBytesThenTheWholeInputRow.laid w) (fun _ _ _ hh h => h.of_heap hh) sOwn started (by kernel_rfl) Tryd.func5
    (ChangeSpec.witness_shaped (enc := enc) (C := Tryd.checked) (os := os) (X := fun w _ => laidMetH Tryd.prog Rows.fnScannerFillUntilDoneDeliversKeptBytesThenTheWholeInputRow.laid w) false (World.doorLaid Tryd.prog 57 os) #[.slice none 0 0, .int .i64 0, .int .i64 0, .int .i64 0, .bool false, .slice none 0 0] 8 rfl (World.shaped_of_RefB (by kernel_rfl) (by kernel_rfl)) (by kernel_rfl) (by kernel_rfl) (by kernel_rfl) (sDoor_met os _)) ?_
  intro W base args ds gs before hval0 hW _ _ hL _
  have hval : ∀ (j : Nat) t v, Tryd.f5.params[j]? = some t → args[j]? = some v → Value.okWide Tryd.prog W .any base t v := hval0
  have hW' := hW
  obtain ⟨p, q, hA0, hV0, rfl, hfz, hnd⟩ := hW
  have hA : DataW.TrodAll enc Tryd.prog W 0 (fun _ => true) true Tryd.f5.params.toList args.toList ds p := hA0
  have hV : DataW.TrodVars enc Tryd.prog W (fun _ => true) [nlName] gs q := hV0
  rw [Tryd.params5] at hA hval
  obtain ⟨v0, vs0, d0, ds0, p0, q0, hargs, rfl, rfl, h0, r0⟩ := trodAll_cons hA
  obtain ⟨v1, vs1, d1, ds1, p1, q1, rfl, rfl, rfl, h1, r1⟩ := trodAll_cons r0
  obtain ⟨v2, vs2, d2, ds2, p2, q2, rfl, rfl, rfl, h2, r2⟩ := trodAll_cons r1
  obtain ⟨v3, vs3, d3, ds3, p3, q3, rfl, rfl, rfl, h3, r3⟩ := trodAll_cons r2
  obtain ⟨v4, vs4, d4, ds4, p4, q4, rfl, rfl, rfl, h4, r4⟩ := trodAll_cons r3
  obtain ⟨v5, vs5, d5, ds5, p5, q5, rfl, rfl, rfl, h5, r5⟩ := trodAll_cons r4
  obtain ⟨rfl, rfl, rfl⟩ := trodAll_nil r5
  obtain rfl : args = #[v0, v1, v2, v3, v4, v5] := by cases args; simp_all
  obtain ⟨g, t, cs, fuel, d, p', rfl, hg, ht, hvar, hd, rfl⟩ := trodVars_one hV
  obtain rfl := Option.some.inj (gNl.symm.trans hg)
  obtain rfl := Option.some.inj (tNl.symm.trans ht)
  obtain ⟨nb, no, nc, ea, hGl⟩ := sOf_laid hL
  obtain ⟨a0, len0, cap0, rfl⟩ := okWide_slice Tryd.underlying22 (hval 0 22 v0 rfl rfl)
  have h1k := h1
  have h2k := h2
  have h3k := h3
  obtain ⟨x1, rfl, _, _, w1⟩ := open_int Tryd.underlying3 (hval 1 3 v1 rfl rfl) h1k
  obtain ⟨x2, rfl, _, _, w2⟩ := open_int Tryd.underlying3 (hval 2 3 v2 rfl rfl) h2k
  obtain ⟨x3, rfl, _, _, w3⟩ := open_int Tryd.underlying3 (hval 3 3 v3 rfl rfl) h3k
  obtain ⟨x4, rfl⟩ := okWide_bool Tryd.underlying4 (hval 4 4 v4 rfl rfl)
  obtain ⟨a5, len5, cap5, rfl⟩ := okWide_slice Tryd.underlying22 (hval 5 22 v5 rfl rfl)
  have lt0 : ∀ x ∈ p0, x.block < W.heap.size := by obtain ⟨m, hm⟩ := h0; exact DataW.trod_lt m _ _ _ hm
  have lt1 : ∀ x ∈ p1, x.block < W.heap.size := by obtain ⟨m, hm⟩ := h1; exact DataW.trod_lt m _ _ _ hm
  have lt2 : ∀ x ∈ p2, x.block < W.heap.size := by obtain ⟨m, hm⟩ := h2; exact DataW.trod_lt m _ _ _ hm
  have lt3 : ∀ x ∈ p3, x.block < W.heap.size := by obtain ⟨m, hm⟩ := h3; exact DataW.trod_lt m _ _ _ hm
  have lt4 : ∀ x ∈ p4, x.block < W.heap.size := by obtain ⟨m, hm⟩ := h4; exact DataW.trod_lt m _ _ _ hm
  have lt5 : ∀ x ∈ p5, x.block < W.heap.size := by obtain ⟨m, hm⟩ := h5; exact DataW.trod_lt m _ _ _ hm
  have ltv : ∀ x ∈ p', x.block < W.heap.size := DataW.trod_lt fuel _ _ _ hd
  obtain ⟨z0, u0⟩ := sOpen_row h0
  obtain ⟨z5, u5⟩ := sOpen_row h5
  have hcs' : cs = #[.slice (some ⟨nb, no, none⟩) 1 nc] := by
    have hv0 := World.var?_cell hg hvar 0
    rw [hGl.nl] at hv0
    have h1 : cs.toList.length = 1 := by
      rcases open_ints Tryd.underlying22 Tryd.underlying5 sCells5 hd with ⟨hcs, _⟩ | ⟨_, _, _, _, hcs, _⟩ <;> rw [hcs] <;> rfl
    obtain ⟨l⟩ := cs
    match l, h1 with
    | [c], _ => simp at hv0; rw [hv0]
  subst hcs'
  have h1lt : 1 < W.heap.size := World.block_lt_of_cell? W _ hGl.nl
  clear hA0 hval0 hV0 hA hV
  refine (walk a0 len0 cap0 z0 x1 x2 x3 x4 a5 len5 cap5 z5 nb no nc ea W u0 u5 (bounds_i64 w3).1 hGl).mono fun e W' ⟨he, bel⟩ => ?_
  subst he
  obtain ⟨fuel', hd'⟩ := Below.trod sLaidOut (by kernel_rfl) (of_decide_eq_true (by kernel_rfl)) (v := .slice (some ⟨nb, no, none⟩) 1 nc) (⟨fuel, by simpa [Value.cells] using hd⟩ : DataW.Trod enc Tryd.prog W 0 (fun _ => true) true 22 (.slice (some ⟨nb, no, none⟩) 1 nc) d p') bel ltv
  have hv' := trodVars_mk1 (enc := enc) (spare := fun b => decide (b < W.heap.size)) hg ht (var?_below bel hg h1lt hvar) (by simpa [Value.cells] using hd')
  exact ⟨_, rfl, _, _, _, [], _, _, hW', trodAll_mk1 (shut_bool Tryd.underlying4 _), (trodAll_cons_mk (Below.trod sLaidOut (by kernel_rfl) (of_decide_eq_true (by kernel_rfl)) h0 bel lt0) (trodAll_cons_mk (Below.trod sLaidOut (by kernel_rfl) (of_decide_eq_true (by kernel_rfl)) h1 bel lt1) (trodAll_cons_mk (Below.trod sLaidOut (by kernel_rfl) (of_decide_eq_true (by kernel_rfl)) h2 bel lt2) (trodAll_cons_mk (Below.trod sLaidOut (by kernel_rfl) (of_decide_eq_true (by kernel_rfl)) h3 bel lt3) (trodAll_cons_mk (Below.trod sLaidOut (by kernel_rfl) (of_decide_eq_true (by kernel_rfl)) h4 bel lt4) (trodAll_cons_mk (Below.trod sLaidOut (by kernel_rfl) (of_decide_eq_true (by kernel_rfl)) h5 bel lt5) trodAll_mk0)))))), hv', bel.frame _, fun h => by cases h⟩

theorem over : Rows.fnScannerFillUntilDoneDeliversKeptBytesThenTheWholeInputRow.holds Tryd.pinned (OpenSpec.ofChange Rows.fnScannerFillUntilDoneDeliversKeptBytesThenTheWholeInputSpec) :=
  OpenClaim.holds_of_wide 5 Tryd.f5 rfl rfl rfl rfl rfl rfl rfl ⟨rfl, rfl, rfl, rfl, rfl⟩ rfl rfl rfl rfl rfl (by kernel_rfl) Tryd.func5 (by kernel_rfl)
    (of_decide_eq_true (by kernel_rfl)) (by unfold Func.isWrapper; first | (rw [if_pos (by decide +kernel)]; kernel_rfl) | (rw [if_neg (by decide +kernel)]; exact ⟨rfl, rfl⟩))
    (fun os started H enc _ => lifted os started H enc)

/-- THE CARD. -/
theorem proved : Rows.FnScannerFillUntilDoneDeliversKeptBytesThenTheWholeInputCardSaid :=
  Claim7.holds_tied_plain_at .later [] [.sentinel, .sentinel, .widerDeep] true (true, "d93f0abe0a2e6a19ee47094faf30bf8bde1c9b876061329bc4aada7f2c1470ef") true
    over (fun _ h => by cases h) (by kernel_rfl) (fun _ h => by cases h) fnScannerFillUntilDoneDeliversKeptBytesThenTheWholeInput_row_tie rfl ⟨rfl, rfl⟩ (by kernel_rfl) rfl
    (fun f fn hf hfn => by
      obtain rfl : f = 5 := Option.some.inj ((show Tryd.prog.funcNamed Rows.fnScannerFillUntilDoneDeliversKeptBytesThenTheWholeInputRow.func = some 5 by kernel_rfl).symm.trans hf) |>.symm
      obtain rfl : fn = Tryd.f5 := (Option.some.inj (Tryd.func5.symm.trans hfn)).symm
      exact ⟨by kernel_rfl, fun j t ht => by
        rw [Tryd.params5] at ht
        have hm : t ∈ [22, 3, 3, 3, 4, 22] := by simpa using Array.mem_of_getElem? ht
        have hall : ([22, 3, 3, 3, 4, 22].all fun u => !Tryd.prog.wantsStandIn u) = true := by kernel_rfl
        exact (show Tryd.prog.wantsStandIn t = false by simpa using List.all_eq_true.1 hall t hm)⟩)
    (by kernel_rfl)
end Go.Proofs.Qxb6614898aDoor.fnDrain
