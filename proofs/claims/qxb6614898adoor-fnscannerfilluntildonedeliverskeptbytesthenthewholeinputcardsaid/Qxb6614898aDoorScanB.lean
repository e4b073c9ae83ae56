/-
  (*bytes.Reader).Read INTO THE SCANNER's BUFFER.
-/
import Derived.Test.Qxb6614898aDoorScanA
import Derived.Deep.RegionHeld3
import Derived.Deep.DeepCutAuto
import Derived.Deep.CutBlock
import Derived.LaidEql
namespace Go.Proofs.Qxb6614898aDoor
open Go.RowKit Go.Joins
set_option linter.unusedVariables false
set_option maxHeartbeats 4000000
set_option maxRecDepth 1000000

/-- 'copy' into a row of the call's own, one step of a region that draws: the world behind it written out. -/
theorem step_copy_row {P : Program} {ops : Array Oper} {o : Oper} {a : Act} {w : World} {K : Act → World → Prop} {Q : Exit → Act → World → Prop} {E : Prop} (hgd : o.guard = none) (d s : Operand) (dT sT : TypeId)
    (ho : o.op = .call { callee := .builtin .copy, args := #[d, s], argTypes := #[dT, sT] }) (elem : TypeId) (hu : P.underlying dT = some (.slice elem)) (hsz : (P.info? elem).map (·.size) = some 1)
    (g off : Nat) (sp : Addr) (dLen dCap sLen sCap : Nat) (hd : a.eval d = .slice (some ⟨g, off, none⟩) dLen dCap) (hs : a.eval s = .slice (some sp) sLen sCap)
    (cur : List Value) (t : TypeId) (hg : w.heap[g]? = some (.cells cur.toArray t (0, 0))) (cs : List Value) (hn : cs.length = Nat.min sLen dLen)
    (hsrc : ∀ j v, cs[j]? = some v → w.cell? (sp.add j) = some v)
    (hfit : off + cs.length ≤ cur.length) (h1 : ∀ v ∈ cs, v.oneCell' = true)
    (h : K (a.put o.dst (goInt cs.length)) (w.setRow g (splice cur off cs).toArray)) :
    if Region.wanted o (yielded ops a.tmps) = true then Oper.wp P o a w K Q else E := by
  have hw : Region.wanted o (yielded ops a.tmps) = true := by simp [Region.wanted, hgd]
  rw [if_pos hw]
  have hrun := run_copy_row (P := P) w dT sT o.type elem g off dLen dCap sp sLen sCap cur.toArray t cs hu hsz hg hn hsrc (by simpa using hfit) h1
  have e : (cur.toArray.toList.take off ++ (cs ++ cur.toArray.toList.drop (off + cs.length))).toArray = (splice cur off cs).toArray := rfl
  unfold Oper.wp
  simp [execOp, ho, resolve, invoke, builtin, hd, hs, hrun, Result.andThen]
  rw [Oper.upon_value]
  simpa [splice] using h

theorem sz5 : (Tryd.prog.info? 5).map (·.size) = some 1 := by kernel_rfl

/-- Read at the reader's end: 0, io.EOF. -/
theorem read_eof (W : World) (bs br : Nat) (ba : Option Addr) (bn : Nat) (B : List Int) (da : Option Addr) (dn : Nat) (D : List Int) (pos en lines : Int) (eof : Bool) (ri : Int) (h : Sn W bs br ba bn B da dn D pos en lines eof ri)
    (te : TypeId) (ve : Value) (he : W.cell? ⟨2, 0, none⟩ = some (.iface te ve)) (hr : (dn : Int) ≤ ri) (v : Value) :
    Calls Tryd.prog 55 #[.pointer (some ⟨br, 0, none⟩), v] W fun e w' => e = .returned (.tuple #[.int .i64 0, .iface te ve]) ∧ ∃ m, w' = W.drewN m := by
  obtain ⟨c0, c1, c2, cf⟩ := h.rcells
  clear h c2 cf
  go_enter Tryd.func55, Tryd.ntmps55
  go_wp2
  go_quiet (fail)
  go_wp2
  go_quiet (fail)
  go_wp2
  go_ret2
  exact ⟨rfl, _, World.drewN_drewN _ _ _⟩
/-- THE SCANNER, ALL OF IT FROM BLOCK G ON; below G nothing has turned since w. -/
structure St (G : Nat) (w W : World) (bs br : Nat) (ba : Option Addr) (bn : Nat) (B : List Int) (da : Option Addr) (dn : Nat) (D : List Int) (pos en lines : Int) (eof : Bool) (ri : Int) : Prop where
  sn : Sn W bs br ba bn B da dn D pos en lines eof ri
  bel : Below G w W
  gs : G ≤ bs
  gr : G ≤ br
  gb : ∀ x, ba = some x → G ≤ x.block
  gd : ∀ x, da = some x → G ≤ x.block
section
variable {G : Nat} {w W : World} {bs br : Nat} {ba : Option Addr} {bn : Nat} {B : List Int} {da : Option Addr} {dn : Nat} {D : List Int} {pos en lines : Int} {eof : Bool} {ri : Int}
theorem St.drewN (h : St G w W bs br ba bn B da dn D pos en lines eof ri) (m : Nat) : St G w (W.drewN m) bs br ba bn B da dn D pos en lines eof ri := ⟨h.sn.drewN m, ⟨h.bel.os, h.bel.tape, h.bel.output, h.bel.size, h.bel.block⟩, h.gs, h.gr, h.gb, h.gd⟩
theorem St.drew (h : St G w W bs br ba bn B da dn D pos en lines eof ri) : St G w W.drew bs br ba bn B da dn D pos en lines eof ri := h.drewN 1
theorem St.setEnd (h : St G w W bs br ba bn B da dn D pos en lines eof ri) (e : Int) : St G w (W.setCell ⟨bs, 5, none⟩ (.int .i64 e)) bs br ba bn B da dn D pos e lines eof ri := ⟨h.sn.setEnd e, h.bel.setCell h.gs _, h.gs, h.gr, h.gb, h.gd⟩
theorem St.setPos (h : St G w W bs br ba bn B da dn D pos en lines eof ri) (e : Int) : St G w (W.setCell ⟨bs, 4, none⟩ (.int .i64 e)) bs br ba bn B da dn D e en lines eof ri := ⟨h.sn.setPos e, h.bel.setCell h.gs _, h.gs, h.gr, h.gb, h.gd⟩
theorem St.setLines (h : St G w W bs br ba bn B da dn D pos en lines eof ri) (e : Int) : St G w (W.setCell ⟨bs, 6, none⟩ (.int .i64 e)) bs br ba bn B da dn D pos en e eof ri := ⟨h.sn.setLines e, h.bel.setCell h.gs _, h.gs, h.gr, h.gb, h.gd⟩
theorem St.setEof (h : St G w W bs br ba bn B da dn D pos en lines eof ri) (e : Bool) : St G w (W.setCell ⟨bs, 2, none⟩ (.bool e)) bs br ba bn B da dn D pos en lines e ri := ⟨h.sn.setEof e, h.bel.setCell h.gs _, h.gs, h.gr, h.gb, h.gd⟩
theorem St.setRi (h : St G w W bs br ba bn B da dn D pos en lines eof ri) (e : Int) : St G w (W.setCell ⟨br, 1, none⟩ (.int .i64 e)) bs br ba bn B da dn D pos en lines eof e := ⟨h.sn.setRi e, h.bel.setCell h.gr _, h.gs, h.gr, h.gb, h.gd⟩
theorem St.setPr (h : St G w W bs br ba bn B da dn D pos en lines eof ri) (e : Int) : St G w (W.setCell ⟨br, 2, none⟩ (.int .i64 e)) bs br ba bn B da dn D pos en lines eof ri := ⟨h.sn.setPr e, h.bel.setCell h.gr _, h.gs, h.gr, h.gb, h.gd⟩
theorem St.setRow (h : St G w W bs br ba bn B da dn D pos en lines eof ri) {bb : Nat} (hb : ba = some ⟨bb, 0, none⟩) (B' : List Int) (hl : B'.length = bn) : St G w (W.setRow bb (cellsK .u8 B').toArray) bs br ba bn B' da dn D pos en lines eof ri := ⟨h.sn.setRow hb B' hl, below_setRow h.bel (h.gb _ hb) _, h.gs, h.gr, h.gb, h.gd⟩
theorem cell_setRow_ne (W : World) (g k i : Nat) (A : Array Value) (h : k ≠ g) : (W.setRow g A).cell? ⟨k, i, none⟩ = W.cell? ⟨k, i, none⟩ := by
  simp only [World.cell?, setRow_other W g k A h]
theorem frozen_setRow_ne (W : World) (g k i : Nat) (A : Array Value) (h : k ≠ g) : (W.setRow g A).frozen? ⟨k, i, none⟩ = W.frozen? ⟨k, i, none⟩ := by
  simp only [World.frozen?, setRow_other W g k A h]
theorem splice_cells (B : List Int) (k : Nat) (X : List Int) : splice (cellsK .u8 B) k (cellsK .u8 X) = cellsK .u8 (splice B k X) := by simp [splice, cellsK]
theorem St.row (h : St G w W bs br ba bn B da dn D pos en lines eof ri) {bb : Nat} (hb : ba = some ⟨bb, 0, none⟩) : W.heap[bb]? = some (.cells (cellsK .u8 B).toArray 5 (0, 0)) := by
  rcases h.sn.buf.2 with ⟨h3, _⟩ | ⟨b, h3, h4⟩
  · rw [h3] at hb; cases hb
  · rw [hb] at h3
    have e : bb = b := by simpa using h3
    subst e; exact h4
theorem St.data (h : St G w W bs br ba bn B da dn D pos en lines eof ri) {db : Nat} (hb : da = some ⟨db, 0, none⟩) : W.heap[db]? = some (.cells (cellsK .u8 D).toArray 5 (0, 0)) := by
  rcases h.sn.dat.2 with ⟨h3, _⟩ | ⟨b, h3, h4⟩
  · rw [h3] at hb; cases hb
  · rw [hb] at h3
    have e : db = b := by simpa using h3
    subst e; exact h4
theorem St.rowCell (h : St G w W bs br ba bn B da dn D pos en lines eof ri) {bb : Nat} (hb : ba = some ⟨bb, 0, none⟩) : ∀ i, i < bn → W.cell? ⟨bb, i, none⟩ = some (.int .u8 (B.getD i 0)) := fun i hi => row_cell (h.row hb) i (by have := h.sn.buf.1; omega)
theorem St.dataCell (h : St G w W bs br ba bn B da dn D pos en lines eof ri) {db : Nat} (hb : da = some ⟨db, 0, none⟩) : ∀ i, i < dn → W.cell? ⟨db, i, none⟩ = some (.int .u8 (D.getD i 0)) := fun i hi => row_cell (h.data hb) i (by have := h.sn.dat.1; omega)
end
theorem getD_seg (D : List Int) (r m j : Nat) (hj : j < m) : ((D.drop r).take m).getD j 0 = D.getD (r + j) 0 := by
  simp [List.getD, hj]
theorem keepB {W : World} {g k : Nat} {A : Array Value} {u v : Value} (h : k ≠ g) (h0 : W.cell? ⟨k, 0, none⟩ = some u) (h1 : W.cell? ⟨k, 1, none⟩ = some v) : (W.setRow g A).cell? ⟨k, 0, none⟩ = some u ∧ (W.setRow g A).cell? ⟨k, 1, none⟩ = some v := by
  rw [cell_setRow_ne _ _ _ _ _ h, cell_setRow_ne _ _ _ _ _ h]
  exact ⟨h0, h1⟩
/-- Read ahead of the end, into the row ba from place k on. -/
theorem read_some (G : Nat) (w W : World) (bs br bb db : Nat) (bn : Nat) (B : List Int) (dn : Nat) (D : List Int) (pos en lines : Int) (eof : Bool) (ri k m : Nat) (h : St G w W bs br (some ⟨bb, 0, none⟩) bn B (some ⟨db, 0, none⟩) dn D pos en lines eof ri)
    (hr : ri < dn) (hk : k < bn) (hm : m = min (dn - ri) (bn - k)) (hb : bn ≤ 4194304) (hd : dn ≤ 4194304) (X : List Int) (hX : X = (D.drop ri).take m) :
    Calls Tryd.prog 55 #[.pointer (some ⟨br, 0, none⟩), .slice (some ⟨bb, k, none⟩) (bn - k) (bn - k)] W fun e w' => e = .returned (.tuple #[.int .i64 m, .nilIface]) ∧
      St G w w' bs br (some ⟨bb, 0, none⟩) bn (splice B k X) (some ⟨db, 0, none⟩) dn D pos en lines eof (ri + m : Nat) := by
  obtain ⟨c0, c1, ⟨pr, c2⟩, cf⟩ := h.sn.rcells
  have cf0 := cf 0
  have cf1 := cf 1
  have cf2 := cf 2
  have HS : Hid _ := h
  have hne : ¬ dn = ri := by omega
  have hle : (ri : Int) ≤ (dn : Int) := by omega
  have HM : Hid _ := hm
  have HXe : Hid _ := hX
  have hmd : m ≤ dn - ri := by omega
  have hmb : m ≤ bn - k := by omega
  clear h cf hm hX
  go_enter Tryd.func55, Tryd.ntmps55
  go_wp2
  go_quiet (fail)
  go_wp2
  have HS1 : Hid _ := (HS.out.drewN nq).setPr (-1)
  generalize (W.drewN nq).setCell ⟨br, 2, none⟩ (.int .i64 (-1)) = W1 at *
  clear HS c0 c1 c2 cf0 cf1 cf2 pr
  obtain ⟨c0, c1, _, cf⟩ := HS1.out.sn.rcells
  have cf1 := cf 1
  clear cf
  have hbbr : br ≠ bb := by
    obtain ⟨_, hr⟩ := HS1.out.sn.rd
    exact Ne.symm (HS1.out.sn.buf.ne hr (by decide) _ rfl)
  have hlX : X.length = m := by rw [HXe.out]; have := HS1.out.sn.dat.1; simp; omega
  have HX : Hid (∀ j v, (cellsK .u8 X)[j]? = some v → W1.drew.cell? ((⟨db, ri, none⟩ : Addr).add j) = some v) := fun j v hj => by
    obtain ⟨h1, rfl⟩ := cellsK_get _ _ _ _ hj
    rw [hlX] at h1
    rw [HXe.out, getD_seg D ri m j h1, Addr.add_lit]
    exact HS1.out.dataCell rfl (ri + j) (by omega)
  have HR : Hid (W1.drew.heap[bb]? = some (.cells (cellsK .u8 B).toArray 5 (0, 0))) := HS1.out.row rfl
  have HW : Hid _ := ((HS1.out.drew.setRow rfl (splice B k X) (by rw [length_splice _ _ _ (by rw [hlX]; have := HS1.out.sn.buf.1; omega)]; exact HS1.out.sn.buf.1)).setRi (ri + m : Nat))
  have hl2 : (cellsK .u8 X).length = m := by simp [cellsK] at hlX ⊢; exact hlX
  have hl3 : (cellsK .u8 B).length = bn := by have := HS1.out.sn.buf.1; simpa [cellsK] using this
  have H1 : Hid (∀ v ∈ cellsK .u8 X, v.oneCell' = true) := cellsK_one _ _
  have HSp : Hid _ := splice_cells B k X
  generalize hcX : cellsK .u8 X = CX at *
  generalize hcB : cellsK .u8 B = CB at *
  generalize hcS : cellsK .u8 (splice B k X) = CS at *
  clear hcX hcB hcS HS1
  go_region_held3 (fun w' => w'.cell? ⟨br, 0, none⟩ = some (.slice (some ⟨db, 0, none⟩) dn dn) ∧ w'.cell? ⟨br, 1, none⟩ = some (.int .i64 ri)) (first | go_keep | exact keepB hbbr c0 c1)
    ((refine step_copy_row rfl (.tmp 20) (.tmp 29) 22 22 rfl 5 Tryd.underlying22 sz5 bb k ⟨db, ri, none⟩ (bn - k) (bn - k) (dn - ri) (dn - ri) (by simp [Act.eval]) (by simp [Act.eval]) CB 5 HR.out CX (by rw [hl2]; exact HM.out) HX.out (by omega) H1.out ?_; rw [HSp.out, hl2]))
  have cf2 : (W1.drew.setRow bb CS.toArray).frozen? ⟨br, 1, none⟩ = false := by rw [frozen_setRow_ne _ _ _ _ _ hbbr]; exact cf1
  obtain ⟨hc0, hc1⟩ := ‹_ ∧ _›
  go_wp2
  go_ret2
  exact ⟨rfl, HW.out⟩
end Go.Proofs.Qxb6614898aDoor
