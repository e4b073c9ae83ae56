/-
  THE TWO SCANNER ROWS: what their condition on the listed variables gives the walks; how an argument reads.
-/
import Derived.Test.Qxb6614898aDoorScanL
import Derived.ProofKit
import Derived.OpenShut
import Derived.ChangeOld
import Derived.ChangeVars
import Derived.LaidMore
import Derived.LaidLaws
import Derived.Stop.Joined
import Derived.Stop.LaidErr
namespace Go.Proofs.Qxb6614898aDoor
open Go.ChangeShapes Go.WideShapes Go.ChangeAt Go.RowKit
set_option linter.unusedVariables false
set_option maxRecDepth 100000

theorem sOwn : ownKnob Tryd.prog.godebug = none := by kernel_rfl
theorem sLaidOut : laidOutB Tryd.prog = true := by kernel_rfl
/-- The listed variable's name, off the given specification. -/
def nlName : String := Rows.fnScannerFillMatchesClosedFormSpec.vars.headD ""
theorem gNl : Tryd.prog.globalNamed nlName = some 1 := by kernel_rfl
theorem tNl : (Tryd.prog.globals[1]?).map (·.type) = some 22 := by kernel_rfl
theorem gEOF : Tryd.prog.globalNamed "io.EOF" = some 2 := by kernel_rfl
theorem tEOF : (Tryd.prog.globals[2]?).map (·.type) = some 39 := by kernel_rfl
theorem gNoP : Tryd.prog.globalNamed "io.ErrNoProgress" = some 3 := by kernel_rfl
theorem tNoP : (Tryd.prog.globals[3]?).map (·.type) = some 39 := by kernel_rfl
theorem sCells5 : Tryd.prog.cellsOf 5 = 1 := by kernel_rfl
theorem sCells101 : Tryd.prog.cellsOf 101 = 1 := by kernel_rfl
theorem sCells9 : Tryd.prog.cellsOf 9 = 1 := by kernel_rfl
/-- The name of the type behind io.EOF, off the given row. -/
def errName : String := match (Rows.laid_io_EOF : DataW Unit) with
  | .iface nm _ => nm
  | _ => ""
theorem row78 (u : TypeId) (h : Tryd.prog.typeName? 3 u = some errName) : u = 78 :=
  typeName_ptr_named (nm := "errors.errorString") (by
    generalize hx : (_ ++ "errors.errorString" : String) = x
    obtain rfl : x = errName := hx.symm.trans (by decide)
    kernel_rfl) (by kernel_rfl) (by decide) u (h.trans (by decide))

/-- The door's own heap meets the condition. -/
theorem sDoor_met (os : Os) (args : Array Value) : laidMetH Tryd.prog Rows.fnScannerFillMatchesClosedFormRow.laid ((World.doorLaid Tryd.prog 57 os).forCall (fun _ _ => 0) ⟨#[], args, []⟩).memory :=
  laidMetH_of_parts3 (fuel := 8) (laidMet_of_run' 8 (by kernel_rfl) (by kernel_rfl)) (by kernel_rfl) (by kernel_rfl)

/-- WHAT THE CONDITION GIVES THE WALKS. -/
theorem sOf_laid {W : World} (h : laidMetH Tryd.prog Rows.fnScannerFillMatchesClosedFormRow.laid W) : ∃ nb no nc ea, Gl W.heap.size W nb no nc ea := by
  rw [MakeChecks.laidMetH_plain _ _ _ (by kernel_rfl)] at h
  have h0 : laidMet Tryd.prog Rows.fnScannerFillMatchesClosedFormRow.laid W := h
  obtain ⟨ea, _, hv1, _, _, _⟩ := laid_sentinel h0 gEOF tEOF Tryd.underlying39 row78 Tryd.underlying78 Tryd.underlying101 rfl rfl Tryd.underlying9 sCells101 sCells9
  obtain ⟨na, _, hv2, _, _, _⟩ := laid_sentinel h0.tail gNoP tNoP Tryd.underlying39 row78 Tryd.underlying78 Tryd.underlying101 rfl rfl Tryd.underlying9 sCells101 sCells9
  have hc2 : W.cell? ⟨2, 0, none⟩ = some (.iface 78 (.pointer (some ea))) := by simpa using World.var?_cell gEOF hv1 0
  have hc3 : W.cell? ⟨3, 0, none⟩ = some (.iface 78 (.pointer (some na))) := by simpa using World.var?_cell gNoP hv2 0
  obtain ⟨ps, ⟨g0, t0, cs0, f0, p0, q0, hg0, ht0, hv0, hd0, _⟩, _, _⟩ := h0.tail.tail
  obtain rfl := Option.some.inj (gNl.symm.trans hg0)
  obtain rfl := Option.some.inj (tNl.symm.trans ht0)
  rcases open_ints Tryd.underlying22 Tryd.underlying5 sCells5 hd0 with ⟨_, hx⟩ | ⟨a, len, cap, zs, hcs, _, hl, hm, hz, hx, hcell, hwz⟩
  · simp [Rows.laid_example_com_quorumwatch_quorumwatch_internal_cib_newline] at hx
  · simp only [Prod.mk.injEq, Rows.laid_example_com_quorumwatch_quorumwatch_internal_cib_newline, DataW.slice.injEq] at hx
    obtain ⟨⟨h1, h2⟩, _⟩ := hx
    have hz' : zs.length = cap := by simpa using hz
    have hl1 : len = 1 := by
      have hlen := congrArg List.length h1
      simp only [lits, List.length_map, List.length_take, List.length_cons, List.length_nil] at hlen
      omega
    have h0 : zs.getD 0 0 = 10 := by
      subst hl1
      cases zs with
      | nil => simp at hz'; omega
      | cons x r =>
        simp [lits] at h1
        simpa using h1.symm
    have hzl : 0 < zs.length := by omega
    have hc0 := hcell 0 hzl
    obtain ⟨b, o, sp⟩ := a
    have hsp : sp = none := by simpa [Addr.add] using World.cell?_spot hc0
    subst hsp
    have hc0' : W.cell? ⟨b, o, none⟩ = some (.int .u8 10) := by
      rw [h0] at hc0
      simpa [Addr.add] using hc0
    refine ⟨b, o, cap, ea, World.block_lt_of_cell? W ⟨3, 0, none⟩ hc3, World.block_lt_of_cell? W ⟨b, o, none⟩ hc0', ?_, hc0', hc2⟩
    have := World.var?_cell hg0 hv0 0
    rw [Array.eq_one_of_toList hcs, hl1] at this
    simpa using this

/-- WHAT THE WALK IS TOLD OF A SLICE OF BYTES THAT CAME IN. -/
def SRow (w : World) (a : Option Addr) (len cap : Nat) (zs : List Int) : Prop :=
  (a = none ∧ len = 0 ∧ cap = 0 ∧ zs = []) ∨
  ∃ x, a = some x ∧ len ≤ cap ∧ cap ≤ maxLen ∧ zs.length = cap ∧ (∀ i, i < zs.length → w.cell? (x.add i) = some (.int .u8 (zs.getD i 0))) ∧ ∀ n ∈ zs, (Lit.int .u8 n).wf = true
theorem SRow.arg {w : World} {a : Option Addr} {len cap : Nat} {zs : List Int} (h : SRow w a len cap zs) : Arg .u8 w a len cap (zs.take len) := by
  rcases h with ⟨rfl, rfl, rfl, rfl⟩ | ⟨x, rfl, hl, hm, hz, hcell, hwz⟩
  · exact ⟨rfl, .inl ⟨rfl, rfl, rfl⟩⟩
  · refine ⟨by simp; omega, .inr ⟨x, rfl, fun i hi => ?_⟩⟩
    rw [getD_take zs len i hi]
    exact hcell i (by omega)
theorem SRow.sl {w : World} {a : Option Addr} {len cap : Nat} {zs : List Int} (h : SRow w a len cap zs) : Sl .u8 w a len (zs.take len) ∧ len ≤ cap ∧ len ≤ maxLen := by
  rcases h with ⟨rfl, rfl, rfl, rfl⟩ | ⟨x, rfl, hl, hm, hz, hcell, hwz⟩
  · exact ⟨Sl.nil _ _ _, Nat.le_refl _, by omega⟩
  · refine ⟨⟨by simp; omega, fun h => ?_⟩, hl, by omega⟩
    obtain ⟨b, o, sp⟩ := x
    have hsp : sp = none := by simpa [Addr.add] using World.cell?_spot (hcell 0 (by omega))
    subst hsp
    have h0 := hcell 0 (by omega)
    refine ⟨b, o, rfl, World.block_lt_of_cell? w ⟨b, o + 0, none⟩ (by simpa [Addr.add] using h0), fun i hi => ?_⟩
    rw [getD_take zs len i hi]
    have := hcell i (by omega)
    rwa [Addr.add_lit] at this
theorem SRow.bytes {w : World} {a : Option Addr} {len cap : Nat} {zs : List Int} (h : SRow w a len cap zs) : ∀ x ∈ zs.take len, 0 ≤ x ∧ x < 256 := by
  rcases h with ⟨rfl, rfl, rfl, rfl⟩ | ⟨x, rfl, hl, hm, hz, hcell, hwz⟩
  · intro x hx; simp at hx
  · intro y hy
    have := bounds_u8 (hwz y (List.mem_of_mem_take hy))
    omega
theorem sOpen_row {H : Type} {enc : TypeId × Value → H} {W : World} {a : Option Addr} {len cap : Nat} {d : DataW H} {p : List MemPlace}
    (h : DataW.Trod enc Tryd.prog W 0 (fun _ => true) true 22 (.slice a len cap) d p) : ∃ zs, SRow W a len cap zs := by
  obtain ⟨fuel, hf⟩ := h
  rcases open_ints Tryd.underlying22 Tryd.underlying5 sCells5 hf with ⟨hcs, _⟩ | ⟨x, l, c, zs, hcs, _, hl, hm, hz, _, hcell, hwz⟩
  · simp [Value.cells] at hcs
    obtain ⟨rfl, rfl, rfl⟩ := hcs
    exact ⟨[], .inl ⟨rfl, rfl, rfl, rfl⟩⟩
  · simp [Value.cells] at hcs
    obtain ⟨rfl, rfl, rfl⟩ := hcs
    exact ⟨zs, .inr ⟨_, rfl, hl, hm, by simpa using hz, hcell, hwz⟩⟩
end Go.Proofs.Qxb6614898aDoor
