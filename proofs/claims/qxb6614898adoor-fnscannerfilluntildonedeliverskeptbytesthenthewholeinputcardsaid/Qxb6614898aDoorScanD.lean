/-
  (*scanner).fill: what its walk leans on.
-/
import Derived.Test.Qxb6614898aDoorScanB
import Derived.BigRegion
import Derived.StillTailTactics
namespace Go.Proofs.Qxb6614898aDoor
open Go.RowKit Go.Joins
set_option linter.unusedVariables false
set_option maxHeartbeats 8000000
set_option maxRecDepth 1000000

/-- THE THREE LISTED VARIABLES: one newline; io.EOF, a pointer behind an interface. -/
structure Gl (G : Nat) (w : World) (nb no nc : Nat) (ea : Addr) : Prop where
  g3 : 3 < G
  gn : nb < G
  nl : w.cell? ⟨1, 0, none⟩ = some (.slice (some ⟨nb, no, none⟩) 1 nc)
  c10 : w.cell? ⟨nb, no, none⟩ = some (.int .u8 10)
  eof : w.cell? ⟨2, 0, none⟩ = some (.iface 78 (.pointer (some ea)))
theorem Gl.below {G : Nat} {w W : World} {nb no nc : Nat} {ea : Addr} (h : Gl G w nb no nc ea) (hb : Below G w W) : Gl G W nb no nc ea :=
  ⟨h.g3, h.gn, by rw [hb.cell (p := ⟨1, 0, none⟩) (by have := h.g3; show 1 < G; omega)]; exact h.nl, by rw [hb.cell (p := ⟨nb, no, none⟩) h.gn]; exact h.c10, by rw [hb.cell (p := ⟨2, 0, none⟩) (by have := h.g3; show 2 < G; omega)]; exact h.eof⟩

theorem fill_done (W : World) (bs br : Nat) (ba : Option Addr) (bn : Nat) (B : List Int) (da : Option Addr) (dn : Nat) (D : List Int) (pos en lines : Int) (ri : Int) (h : Sn W bs br ba bn B da dn D pos en lines true ri) :
    Calls Tryd.prog 24 #[.pointer (some ⟨bs, 0, none⟩)] W fun e w' => e = .returned (.bool false) ∧ W = w' := by
  obtain ⟨c0, c1, c2, c3, c4, c5, c6, cf⟩ := h.cells
  clear h c0 cf
  go_enter Tryd.func24, Tryd.ntmps24
  go_wp2
  go_ret
  exact ⟨rfl, rfl⟩

/-- THE BUFFER BEHIND THE MOVE TO THE FRONT; BEHIND THE DOUBLING; BEHIND THE READ. -/
def moved (B : List Int) (pos k : Nat) : List Int := splice B 0 ((B.drop pos).take k)
def size2 (bn k : Nat) : Nat := if bn / 2 < k then 2 * bn else bn
def grown (B : List Int) (bn k : Nat) : List Int := if bn / 2 < k then splice (List.replicate (2 * bn) 0) 0 (B.take k) else B

theorem wrap_id {n : Int} (h1 : -9223372036854775808 ≤ n) (h2 : n ≤ 9223372036854775807) : IntKind.i64.wrap n = n := by
  have h : ∀ m : Int, IntKind.i64.wrap m = if 9223372036854775808 ≤ m % 18446744073709551616 then m % 18446744073709551616 - 18446744073709551616 else m % 18446744073709551616 := fun m => by
    simp [IntKind.wrap, IntKind.bits, IntKind.signed]
  rw [h]
  split <;> omega
theorem info78 : (Tryd.prog.info? 78).map (·.comparable) = some true := by kernel_rfl
theorem info101 : (Tryd.prog.info? 101).isSome = true := by kernel_rfl
theorem eof_same (ea : Addr) (w : World) : (binOp .eql 39 (.iface 78 (.pointer (some ea))) (.iface 78 (.pointer (some ea)))).run Tryd.prog w = .ok (.bool true) w := by
  obtain ⟨i, hi, hc⟩ : ∃ i, Tryd.prog.info? 78 = some i ∧ i.comparable = true := by
    have h := info78
    cases hx : Tryd.prog.info? 78 with
    | none => rw [hx] at h; cases h
    | some i => rw [hx] at h; exact ⟨i, rfl, by simpa using h⟩
  obtain ⟨j, hj⟩ := Option.isSome_iff_exists.1 info101
  exact run_eql_iface_ptr_same w ea Tryd.underlying39 Tryd.underlying78 hi hc hj
theorem nil_eof (ea : Addr) (w : World) : (binOp .eql 39 .nilIface (.iface 78 (.pointer (some ea)))).run Tryd.prog w = .ok (.bool false) w :=
  run_eql_iface_nil_left w 78 _ Tryd.underlying39
theorem meth_read (br : Nat) (w : World) : (method 210 54 (.pointer (some ⟨br, 0, none⟩)) "Read").run Tryd.prog w = .ok (55, .pointer (some ⟨br, 0, none⟩)) w := by kernel_rfl
theorem moved_zero (B : List Int) (k : Nat) (h : k ≤ B.length) : moved B 0 k = B := by
  unfold moved splice
  simp [Nat.min_eq_left h]
theorem St.bufAt {G : Nat} {w W : World} {bs br : Nat} {ba : Option Addr} {bn : Nat} {B : List Int} {da : Option Addr} {dn : Nat} {D : List Int} {pos en lines : Int} {eof : Bool} {ri : Int} (h : St G w W bs br ba bn B da dn D pos en lines eof ri) (hb : 0 < bn) : ∃ bb : Nat, ba = Option.some ⟨bb, 0, none⟩ := by
  rcases h.sn.buf.2 with ⟨_, h4⟩ | ⟨b, h3, h4⟩
  · omega
  · exact ⟨b, h3⟩
theorem St.dataAt {G : Nat} {w W : World} {bs br : Nat} {ba : Option Addr} {bn : Nat} {B : List Int} {da : Option Addr} {dn : Nat} {D : List Int} {pos en lines : Int} {eof : Bool} {ri : Int} (h : St G w W bs br ba bn B da dn D pos en lines eof ri) (hb : 0 < dn) : ∃ bb : Nat, da = Option.some ⟨bb, 0, none⟩ := by
  rcases h.sn.dat.2 with ⟨_, h4⟩ | ⟨b, h3, h4⟩
  · omega
  · exact ⟨b, h3⟩

theorem St.alloc {G : Nat} {w W : World} {bs br : Nat} {ba : Option Addr} {bn : Nat} {B : List Int} {da : Option Addr} {dn : Nat} {D : List Int} {pos en lines : Int} {eof : Bool} {ri : Int} (h : St G w W bs br ba bn B da dn D pos en lines eof ri) (o : Obj) : St G w (W.alloc o) bs br ba bn B da dn D pos en lines eof ri := by
  obtain ⟨_, hs⟩ := h.sn.sc
  have hlt : bs < W.heap.size := (Array.getElem?_eq_some_iff.1 hs).1
  exact ⟨h.sn.alloc o, h.bel.alloc (Nat.le_trans h.gs (Nat.le_of_lt hlt)) o, h.gs, h.gr, h.gb, h.gd⟩
/-- The buffer set to a new block's row. -/
theorem St.newBuf {G : Nat} {w W : World} {bs br : Nat} {ba : Option Addr} {bn : Nat} {B : List Int} {da : Option Addr} {dn : Nat} {D : List Int} {pos en lines : Int} {eof : Bool} {ri : Int} (h : St G w W bs br ba bn B da dn D pos en lines eof ri) (bn' : Nat) (B' : List Int) (hl : B'.length = bn') :
    St G w ((W.alloc (.cells (cellsK .u8 B').toArray 5)).setCell ⟨bs, 3, none⟩ (.slice (Option.some ⟨W.heap.size, 0, none⟩) bn' bn')) bs br (Option.some ⟨W.heap.size, 0, none⟩) bn' B' da dn D pos en lines eof ri := by
  obtain ⟨_, hs⟩ := h.sn.sc
  have hlt : bs < W.heap.size := (Array.getElem?_eq_some_iff.1 hs).1
  have ha := h.alloc (.cells (cellsK .u8 B').toArray 5)
  have hG : G ≤ W.heap.size := Nat.le_trans h.gs (Nat.le_of_lt hlt)
  refine ⟨ha.sn.setBuf (Option.some ⟨W.heap.size, 0, none⟩) bn' B' ⟨hl, .inr ⟨_, rfl, alloc_heap _ _⟩⟩ ?_, ha.bel.setCell h.gs _, h.gs, h.gr, fun x hx => ?_, h.gd⟩
  · intro x y hx hy
    obtain rfl := Option.some.inj hx
    rcases h.sn.dat.2 with ⟨h1, _⟩ | ⟨b, h1, h2⟩
    · rw [h1] at hy; cases hy
    · rw [h1] at hy
      obtain rfl := Option.some.inj hy
      have : b < W.heap.size := (Array.getElem?_eq_some_iff.1 h2).1
      show W.heap.size ≠ b
      omega
  · obtain rfl := Option.some.inj hx
    exact hG

theorem St.three {G : Nat} {w W : World} {bs br : Nat} {ba : Option Addr} {bn : Nat} {B : List Int} {da : Option Addr} {dn : Nat} {D : List Int} {pos en lines : Int} {eof : Bool} {ri : Int} (h : St G w W bs br ba bn B da dn D pos en lines eof ri) :
    W.cell? ⟨bs, 0, none⟩ = some (.iface 54 (.pointer (some ⟨br, 0, none⟩))) ∧ W.cell? ⟨bs, 3, none⟩ = some (.slice ba bn bn) ∧ W.cell? ⟨bs, 5, none⟩ = some (.int .i64 en) :=
  ⟨h.sn.cells.1, h.sn.cells.2.2.2.1, h.sn.cells.2.2.2.2.2.1⟩
end Go.Proofs.Qxb6614898aDoor
