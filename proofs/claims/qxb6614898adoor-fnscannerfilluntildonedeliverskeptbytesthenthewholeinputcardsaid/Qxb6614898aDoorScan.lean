/-
  THE SCANNER: its block, its reader's block, its rows; ZZNewScanner, ZZScannerState, zzClone, zzCountNL.
-/
import Derived.Test.Qxb6614898aDoorMade
import Derived.Lib.SmallJoins
import Derived.Shelf.Bytes.SlCountOne
namespace Go.Proofs.Qxb6614898aDoor
open Go.RowKit Go.Joins
set_option linter.unusedVariables false
set_option maxHeartbeats 4000000
set_option maxRecDepth 1000000

/-- A row of bytes of the call's own, whole (or nil). -/
def Rb (W : World) (a : Option Addr) (n : Nat) (zs : List Int) : Prop :=
  zs.length = n ∧ ((a = none ∧ n = 0) ∨ ∃ b, a = some ⟨b, 0, none⟩ ∧ W.heap[b]? = some (.cells (cellsK .u8 zs).toArray 5 (0, 0)))
/-- The scanner's cells: its reader, no error, the end of input seen or not, the buffer, pos, end, lines. -/
def scA (br : Nat) (eof : Bool) (ba : Option Addr) (bn : Nat) (pos en lines : Int) (rest : List Value) : Array Value :=
  (Value.iface 54 (.pointer (some ⟨br, 0, none⟩)) :: .nilIface :: .bool eof :: .slice ba bn bn :: .int .i64 pos :: .int .i64 en :: .int .i64 lines :: rest).toArray
/-- THE SCANNER IN BLOCK bs: its reader in block br over the bytes D (ri of them read), its buffer the bytes B. -/
structure Sn (W : World) (bs br : Nat) (ba : Option Addr) (bn : Nat) (B : List Int) (da : Option Addr) (dn : Nat) (D : List Int) (pos en lines : Int) (eof : Bool) (ri : Int) : Prop where
  sc : ∃ rest, W.heap[bs]? = some (.cells (scA br eof ba bn pos en lines rest) 62 (0, 0))
  rd : ∃ pr, W.heap[br]? = some (.cells #[.slice da dn dn, .int .i64 ri, .int .i64 pr] 67 (0, 0))
  buf : Rb W ba bn B
  dat : Rb W da dn D
  ne : ∀ x y, ba = some x → da = some y → x.block ≠ y.block
section
variable {W : World} {bs br : Nat} {ba : Option Addr} {bn : Nat} {B : List Int} {da : Option Addr} {dn : Nat} {D : List Int} {pos en lines : Int} {eof : Bool} {ri : Int}
theorem Sn.bsbr (h : Sn W bs br ba bn B da dn D pos en lines eof ri) : bs ≠ br := by
  rintro rfl
  obtain ⟨_, h1⟩ := h.sc
  obtain ⟨_, h2⟩ := h.rd
  rw [h1] at h2
  simp at h2
theorem Rb.ne {W : World} {a : Option Addr} {n : Nat} {zs : List Int} (h : Rb W a n zs) {g : Nat} {A : Array Value} {t : TypeId} (hg : W.heap[g]? = some (.cells A t (0, 0))) (ht : t ≠ 5) : ∀ x, a = some x → x.block ≠ g := by
  rintro x hx rfl
  rcases h.2 with ⟨h1, _⟩ | ⟨b, h1, h2⟩
  · rw [h1] at hx; cases hx
  · rw [h1] at hx
    obtain rfl := Option.some.inj hx
    have h2' : W.heap[b]? = some (.cells A t (0, 0)) := hg
    rw [h2] at h2'
    simp at h2'
    exact ht h2'.2.symm
theorem Rb.kept {W W' : World} {a : Option Addr} {n : Nat} {zs : List Int} (h : Rb W a n zs) (hk : ∀ x, a = some x → W'.heap[x.block]? = W.heap[x.block]?) : Rb W' a n zs := by
  refine ⟨h.1, ?_⟩
  rcases h.2 with h2 | ⟨b, h1, h2⟩
  · exact .inl h2
  · exact .inr ⟨b, h1, by rw [hk _ h1]; exact h2⟩
/-- The cells, one by one. -/
theorem Sn.cells (h : Sn W bs br ba bn B da dn D pos en lines eof ri) :
    W.cell? ⟨bs, 0, none⟩ = some (.iface 54 (.pointer (some ⟨br, 0, none⟩))) ∧ W.cell? ⟨bs, 1, none⟩ = some .nilIface ∧ W.cell? ⟨bs, 2, none⟩ = some (.bool eof) ∧ W.cell? ⟨bs, 3, none⟩ = some (.slice ba bn bn) ∧
    W.cell? ⟨bs, 4, none⟩ = some (.int .i64 pos) ∧ W.cell? ⟨bs, 5, none⟩ = some (.int .i64 en) ∧ W.cell? ⟨bs, 6, none⟩ = some (.int .i64 lines) ∧ (∀ i, W.frozen? ⟨bs, i, none⟩ = false) := by
  obtain ⟨rest, hs⟩ := h.sc
  refine ⟨?_, ?_, ?_, ?_, ?_, ?_, ?_, fun i => unfrozen_of_block hs i⟩
  all_goals rw [cell_of_block hs]; simp [scA]
theorem Sn.rcells (h : Sn W bs br ba bn B da dn D pos en lines eof ri) :
    W.cell? ⟨br, 0, none⟩ = some (.slice da dn dn) ∧ W.cell? ⟨br, 1, none⟩ = some (.int .i64 ri) ∧ (∃ pr, W.cell? ⟨br, 2, none⟩ = some (.int .i64 pr)) ∧ (∀ i, W.frozen? ⟨br, i, none⟩ = false) := by
  obtain ⟨pr, hs⟩ := h.rd
  refine ⟨?_, ?_, ⟨pr, ?_⟩, fun i => unfrozen_of_block hs i⟩
  all_goals rw [cell_of_block hs]; rfl
/-- A store into the scanner's block. -/
theorem Sn.put (h : Sn W bs br ba bn B da dn D pos en lines eof ri) (i : Nat) (v : Value) {ba' : Option Addr} {bn' : Nat} {B' : List Int} {pos' en' lines' : Int} {eof' : Bool}
    (hA : ∀ rest, (scA br eof ba bn pos en lines rest).setIfInBounds i v = scA br eof' ba' bn' pos' en' lines' rest) (hB : Rb W ba' bn' B') (hne : ∀ x y, ba' = some x → da = some y → x.block ≠ y.block) :
    Sn (W.setCell ⟨bs, i, none⟩ v) bs br ba' bn' B' da dn D pos' en' lines' eof' ri := by
  obtain ⟨rest, hs⟩ := h.sc
  obtain ⟨pr, hr⟩ := h.rd
  have ho : ∀ k, k ≠ bs → (W.setCell ⟨bs, i, none⟩ v).heap[k]? = W.heap[k]? := fun k hk => Below.heap_setCell W _ v k hk
  refine ⟨⟨rest, by rw [block_setCell hs v, hA]⟩, ⟨pr, by rw [ho _ (Ne.symm h.bsbr)]; exact hr⟩, hB.kept (fun x hx => ho _ (hB.ne hs (by decide) x hx)), h.dat.kept (fun x hx => ho _ (h.dat.ne hs (by decide) x hx)), hne⟩
theorem Sn.setEnd (h : Sn W bs br ba bn B da dn D pos en lines eof ri) (e : Int) : Sn (W.setCell ⟨bs, 5, none⟩ (.int .i64 e)) bs br ba bn B da dn D pos e lines eof ri := h.put 5 _ (fun rest => by simp [scA]) h.buf h.ne
theorem Sn.setPos (h : Sn W bs br ba bn B da dn D pos en lines eof ri) (e : Int) : Sn (W.setCell ⟨bs, 4, none⟩ (.int .i64 e)) bs br ba bn B da dn D e en lines eof ri := h.put 4 _ (fun rest => by simp [scA]) h.buf h.ne
theorem Sn.setLines (h : Sn W bs br ba bn B da dn D pos en lines eof ri) (e : Int) : Sn (W.setCell ⟨bs, 6, none⟩ (.int .i64 e)) bs br ba bn B da dn D pos en e eof ri := h.put 6 _ (fun rest => by simp [scA]) h.buf h.ne
theorem Sn.setEof (h : Sn W bs br ba bn B da dn D pos en lines eof ri) (e : Bool) : Sn (W.setCell ⟨bs, 2, none⟩ (.bool e)) bs br ba bn B da dn D pos en lines e ri := h.put 2 _ (fun rest => by simp [scA]) h.buf h.ne
theorem Sn.setBuf (h : Sn W bs br ba bn B da dn D pos en lines eof ri) (ba' : Option Addr) (bn' : Nat) (B' : List Int) (hB : Rb W ba' bn' B') (hne : ∀ x y, ba' = some x → da = some y → x.block ≠ y.block) : Sn (W.setCell ⟨bs, 3, none⟩ (.slice ba' bn' bn')) bs br ba' bn' B' da dn D pos en lines eof ri := h.put 3 _ (fun rest => by simp [scA]) hB hne
theorem Sn.setRi (h : Sn W bs br ba bn B da dn D pos en lines eof ri) (e : Int) : Sn (W.setCell ⟨br, 1, none⟩ (.int .i64 e)) bs br ba bn B da dn D pos en lines eof e := by
  obtain ⟨rest, hs⟩ := h.sc
  obtain ⟨pr, hr⟩ := h.rd
  have ho : ∀ k, k ≠ br → (W.setCell ⟨br, 1, none⟩ (.int .i64 e)).heap[k]? = W.heap[k]? := fun k hk => Below.heap_setCell W _ _ k hk
  exact ⟨⟨rest, by rw [ho _ h.bsbr]; exact hs⟩, ⟨pr, by rw [block_setCell hr]; simp⟩, h.buf.kept (fun x hx => ho _ (h.buf.ne hr (by decide) x hx)), h.dat.kept (fun x hx => ho _ (h.dat.ne hr (by decide) x hx)), h.ne⟩
theorem Sn.setPr (h : Sn W bs br ba bn B da dn D pos en lines eof ri) (e : Int) : Sn (W.setCell ⟨br, 2, none⟩ (.int .i64 e)) bs br ba bn B da dn D pos en lines eof ri := by
  obtain ⟨rest, hs⟩ := h.sc
  obtain ⟨pr, hr⟩ := h.rd
  have ho : ∀ k, k ≠ br → (W.setCell ⟨br, 2, none⟩ (.int .i64 e)).heap[k]? = W.heap[k]? := fun k hk => Below.heap_setCell W _ _ k hk
  exact ⟨⟨rest, by rw [ho _ h.bsbr]; exact hs⟩, ⟨e, by rw [block_setCell hr]; simp⟩, h.buf.kept (fun x hx => ho _ (h.buf.ne hr (by decide) x hx)), h.dat.kept (fun x hx => ho _ (h.dat.ne hr (by decide) x hx)), h.ne⟩
theorem Sn.drewN (h : Sn W bs br ba bn B da dn D pos en lines eof ri) (m : Nat) : Sn (W.drewN m) bs br ba bn B da dn D pos en lines eof ri := ⟨h.sc, h.rd, h.buf, h.dat, h.ne⟩
theorem Sn.drew (h : Sn W bs br ba bn B da dn D pos en lines eof ri) : Sn W.drew bs br ba bn B da dn D pos en lines eof ri := ⟨h.sc, h.rd, h.buf, h.dat, h.ne⟩
/-- The buffer's row written anew. -/
theorem Sn.setRow (h : Sn W bs br ba bn B da dn D pos en lines eof ri) {bb : Nat} (hb : ba = some ⟨bb, 0, none⟩) (B' : List Int) (hl : B'.length = bn) : Sn (W.setRow bb (cellsK .u8 B').toArray) bs br ba bn B' da dn D pos en lines eof ri := by
  obtain ⟨rest, hs⟩ := h.sc
  obtain ⟨pr, hr⟩ := h.rd
  have h1 : bb ≠ bs := h.buf.ne hs (by decide) _ hb
  have h2 : bb ≠ br := h.buf.ne hr (by decide) _ hb
  have ho : ∀ k, k ≠ bb → (W.setRow bb (cellsK .u8 B').toArray).heap[k]? = W.heap[k]? := fun k hk => setRow_other W bb k _ hk
  refine ⟨⟨rest, by rw [ho _ (Ne.symm h1)]; exact hs⟩, ⟨pr, by rw [ho _ (Ne.symm h2)]; exact hr⟩, ⟨hl, .inr ⟨bb, hb, ?_⟩⟩, h.dat.kept (fun x hx => ho _ (Ne.symm (h.ne _ x hb hx))), h.ne⟩
  rcases h.buf.2 with ⟨h3, _⟩ | ⟨b, h3, h4⟩
  · rw [h3] at hb; cases hb
  · rw [hb] at h3
    have e : bb = b := by simpa using h3
    subst e
    exact setRow_heap W bb _ _ 5 _ h4
theorem Sn.alloc (h : Sn W bs br ba bn B da dn D pos en lines eof ri) (o : Obj) : Sn (W.alloc o) bs br ba bn B da dn D pos en lines eof ri := by
  obtain ⟨rest, hs⟩ := h.sc
  obtain ⟨pr, hr⟩ := h.rd
  have ho : ∀ k, k < W.heap.size → (W.alloc o).heap[k]? = W.heap[k]? := fun k hk => Below.heap_alloc W o k hk
  have hb : ∀ {a n zs}, Rb W a n zs → ∀ x, a = some x → x.block < W.heap.size := by
    rintro a n zs hR x rfl
    rcases hR.2 with ⟨h3, _⟩ | ⟨b, h3, h4⟩
    · cases h3
    · obtain rfl := Option.some.inj h3
      exact lt_of_block h4
  exact ⟨⟨rest, by rw [ho _ (lt_of_block hs)]; exact hs⟩, ⟨pr, by rw [ho _ (lt_of_block hr)]; exact hr⟩, h.buf.kept (fun x hx => ho _ (hb h.buf x hx)), h.dat.kept (fun x hx => ho _ (hb h.dat x hx)), h.ne⟩
end
end Go.Proofs.Qxb6614898aDoor
