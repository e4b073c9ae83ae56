/-
  ROWS THAT A CALL MAKES: make, copy, append within the capacity; ZZNewDefinitions.
-/
import Derived.Test.Qxb6614898aDoorAt
import Derived.Laws.CopyOwn
namespace Go.Proofs.Qxb6614898aDoor
open Go.RowKit
set_option linter.unusedVariables false
set_option maxHeartbeats 4000000
set_option maxRecDepth 1000000

def zerosK (k : IntKind) (n : Nat) : List Value := List.replicate n (.int k 0)
def cellsK (k : IntKind) (zs : List Int) : List Value := zs.map (Value.int k)
theorem Tryd.info5 : (Tryd.prog.info? 5).map (fun i => (i.zero, i.size, i.bytes)) = some (some (.int .u8 0), 1, 1) := by kernel_rfl
theorem Tryd.info3 : (Tryd.prog.info? 3).map (fun i => (i.zero, i.size, i.bytes)) = some (some (.int .i64 0), 1, 8) := by kernel_rfl
theorem run_mk {T E : TypeId} {k : IntKind} {by8 : Nat} (hU : Tryd.prog.underlying T = some (.slice E)) (hI : (Tryd.prog.info? E).map (fun i => (i.zero, i.size, i.bytes)) = some (some (.int k 0), 1, by8)) (h8 : by8 ≤ 8) (n : Nat) (hn : n ≤ 4194304) (w : World) :
    (Instr.makeSlice T (.int .i64 n) (.int .i64 n)).run Tryd.prog w = .ok (.slice (some ⟨w.heap.size, 0, none⟩) n n) (w.alloc (.cells (zerosK k n).toArray E)) := by
  obtain ⟨i0, hi, hz0, hz1, hz2⟩ := info_parts hI
  have hb : (i0.bytes : Int) * (n : Int) ≤ 281474976710656 := by
    rw [hz2]
    have : (by8 : Int) * (n : Int) ≤ 8 * 4194304 := Int.mul_le_mul (by omega) (by omega) (by omega) (by omega)
    omega
  have := run_make (P := Tryd.prog) w T E i0 (.int k 0) hU hi hz0 .i64 .i64 n n (by omega) (by omega) hb (by omega)
  rw [this]
  have e : madeCells (Value.int k 0).cells (n * i0.size) = (zerosK k n).toArray := by
    have := toList_madeCells_one (.int k 0) n
    rw [hz1, Nat.mul_one]
    unfold zerosK
    rw [← this]
    rfl
  simp only [Int.toNat_natCast] at e ⊢
  rw [e]
theorem setRow_alloc (w : World) (A B : Array Value) (t : TypeId) : (w.alloc (.cells A t)).setRow w.heap.size B = w.alloc (.cells B t) := by
  have hm : ∀ (a : Array Obj) (x : Obj) (f : Obj → Obj), (a.push x).modify a.size f = a.push (f x) := by
    intro a x f
    apply Array.ext
    · simp
    · intro i h1 h2
      simp only [Array.getElem_modify, Array.getElem_push]
      by_cases h : a.size = i
      · subst h
        simp
      · have hi : i < a.size := by simp at h1; omega
        simp [h, hi]
  unfold World.setRow
  show ({ w.alloc (.cells A t) with heap := (w.heap.push (.cells A t)).modify w.heap.size _ } : World) = _
  rw [hm]
  rfl
theorem cellsK_get (k : IntKind) (zs : List Int) (j : Nat) (v : Value) (h : (cellsK k zs)[j]? = some v) : j < zs.length ∧ v = .int k (zs.getD j 0) := by
  unfold cellsK at h
  rw [List.getElem?_map] at h
  cases hj : zs[j]? with
  | none => rw [hj] at h; simp at h
  | some y =>
    rw [hj] at h
    refine ⟨(List.getElem?_eq_some_iff.1 hj).1, ?_⟩
    simp only [Option.map_some, Option.some.injEq] at h
    rw [← h, List.getD_eq_getElem?_getD, hj]; rfl
theorem cellsK_one (k : IntKind) (zs : List Int) : ∀ v ∈ cellsK k zs, v.oneCell' = true := by
  intro v hv
  obtain ⟨y, _, rfl⟩ := List.mem_map.1 hv
  rfl
theorem getD_take (zs : List Int) (m i : Nat) (h : i < m) : (zs.take m).getD i 0 = zs.getD i 0 := by simp [List.getD, h]
/-- 'zzc := make([]T, len(x)); copy(zzc, x)': the copy's run. -/
theorem run_clone {T E : TypeId} {k : IntKind} {by8 : Nat} (hU : Tryd.prog.underlying T = some (.slice E)) (hI : (Tryd.prog.info? E).map (fun i => (i.zero, i.size, i.bytes)) = some (some (.int k 0), 1, by8)) (w : World) (ty : TypeId) (x : Addr) (n c : Nat) (zs : List Int) (hn : zs.length = n) (hc : ∀ i, i < n → w.cell? (x.add i) = some (.int k (zs.getD i 0))) :
    (Builtin.copy_ #[T, T] ty #[.slice (some ⟨w.heap.size, 0, none⟩) n n, .slice (some x) n c]).run Tryd.prog (w.alloc (.cells (zerosK k n).toArray E)) = .ok (.int .i64 n) (w.alloc (.cells (cellsK k zs).toArray E)) := by
  have hl1 : (cellsK k zs).length = n := by simp [cellsK, hn]
  have hsz : (Tryd.prog.info? E).map (·.size) = some 1 := by
    obtain ⟨i0, hi, hz0, hz1, hz2⟩ := info_parts hI
    rw [hi]; simp [hz1]
  have := run_copy_row (P := Tryd.prog) (w.alloc (.cells (zerosK k n).toArray E)) T T ty E w.heap.size 0 n n x n c (zerosK k n).toArray E (cellsK k zs) hU hsz
    (by show (w.heap.push _)[w.heap.size]? = _; simp) (by rw [hl1]; exact (Nat.min_self n).symm)
    (fun j v hj => by
      obtain ⟨h1, rfl⟩ := cellsK_get _ _ _ _ hj
      exact Lib.cell?_alloc_marked _ (hc j (by omega)))
    (by rw [hl1]; simp [zerosK])
    (cellsK_one k zs)
  rw [this, hl1]
  have e : ((zerosK k n).toArray.toList.take 0 ++ cellsK k zs ++ (zerosK k n).toArray.toList.drop (0 + n)).toArray = (cellsK k zs).toArray := by simp [zerosK]
  rw [e, setRow_alloc]
  rfl
theorem row_cell {k : IntKind} {E : TypeId} {W : World} {g : Nat} {fz : Nat × Nat} {zs : List Int} (h : W.heap[g]? = some (.cells (cellsK k zs).toArray E fz)) : ∀ i, i < zs.length → W.cell? ⟨g, i, none⟩ = some (.int k (zs.getD i 0)) := by
  intro i hi
  simp only [World.cell?, h]
  simp [cellsK, hi]
theorem alloc_heap (w : World) (o : Obj) : (w.alloc o).heap[w.heap.size]? = some o := by show (w.heap.push _)[w.heap.size]? = _; simp

theorem newdefs (tv ev : Value) (ta ea : Option Addr) (tn tc en ec : Nat) (ht : tv = .slice ta tn tc) (he : ev = .slice ea en ec) (w : World) :
    Calls Tryd.prog 9 #[tv, ev] w fun e w' => e = .returned (.pointer (some ⟨w.heap.size, 0, none⟩)) ∧ Below w.heap.size w w' ∧ w.heap.size < w'.heap.size ∧ w'.cell? ⟨w.heap.size, 0, none⟩ = some tv ∧ w'.cell? ⟨w.heap.size, 1, none⟩ = some ev := by
  subst ht; subst he
  go_enter Tryd.func9, Tryd.ntmps9
  go_wp2
  go_ret
  refine ⟨rfl, (Below.refl _ w).alloc (Nat.le_refl _) _, by simp, ?_, ?_⟩
  · rw [World.cell?_alloc_mark]; rfl
  · rw [World.cell?_alloc_mark]; rfl

/-- WHAT THE APPENDS KEEP: block G holds the bytes xs at its head, with room for tot; below G nothing has turned since w. -/
def Jn (G tot : Nat) (w : World) (xs : List Int) (wr : World) : Prop :=
  wr.ownsRow G 5 1 (.slice (some ⟨G, 0, none⟩) xs.length tot) xs.length (cellsK .u8 xs) ∧ Below G w wr ∧ G < wr.heap.size
theorem Jn.own {G tot : Nat} {w wr : World} {xs : List Int} (h : Jn G tot w xs wr) (k : Nat) (hk : xs.length = k) : wr.ownsRow G 5 1 (.slice (some ⟨G, 0, none⟩) k tot) k (cellsK .u8 xs) := by subst hk; exact h.1
theorem Jn.app {G tot : Nat} {w wr wr' w1 : World} {xs ys : List Int} {t : Nat} (h : Jn G tot w xs wr) (hb : Below G wr wr') (ht : (xs ++ ys).length = t) (how : w1.ownsRow G 5 1 (.slice (some ⟨G, 0, none⟩) t tot) t (cellsK .u8 xs ++ cellsK .u8 ys)) (hg : wr'.grownBy w1 (some G)) : Jn G tot w (xs ++ ys) w1 := by
  obtain ⟨h1, h2, h3⟩ := h
  refine ⟨?_, (h2.trans hb).grown hg (by have := hb.size; omega) (fun k hk => by cases hk; exact Nat.le_refl _), ?_⟩
  · rw [ht]
    have e2 : cellsK .u8 (xs ++ ys) = cellsK .u8 xs ++ cellsK .u8 ys := by simp [cellsK]
    rw [e2]
    exact how
  · have := hg.size
    have := hb.size
    omega
theorem Jn.cell {G tot : Nat} {w wr : World} {xs : List Int} (h : Jn G tot w xs wr) : ∀ i, i < xs.length → wr.cell? ⟨G, i, none⟩ = some (.int .u8 (xs.getD i 0)) := by
  intro i hi
  have := h.1.cellAt i (by omega)
  rw [this]
  simp [cellsK, hi]
/-- The cells that an append takes over. -/
theorem Sl.news {w : World} {a : Option Addr} {n : Nat} {zs : List Int} (h : Sl .u8 w a n zs) : ∀ ad, a = some ad → ∀ j u, (cellsK .u8 zs)[j]? = some u → w.cell? (ad.add j) = some u := by
  intro ad had j u hj
  obtain ⟨h1, rfl⟩ := cellsK_get _ _ _ _ hj
  obtain ⟨b, o, rfl, _, hc⟩ := h.2 (by have := h.1; omega)
  obtain rfl := Option.some.inj had
  rw [Addr.add_lit]
  exact hc j (by have := h.1; omega)
theorem Tx.sl {w : World} {ta : Option Addr} {tn tc : Nat} {ts : List Int} (h : Tx w ta tn tc ts) : Sl .u8 w ta tn ts := by
  refine ⟨h.1, fun hn => ?_⟩
  rcases h.2.2.2.2 with ⟨_, hc⟩ | ⟨tb, rfl, hb, hcell⟩
  · have := h.2.1; omega
  · exact ⟨tb, 0, rfl, hb, fun i hi => by rw [Nat.zero_add]; exact hcell i hi⟩
theorem Tx.below {w wr : World} {ta : Option Addr} {tn tc : Nat} {ts : List Int} (h : Tx w ta tn tc ts) {G : Nat} (hG : w.heap.size ≤ G) (hb : Below G w wr) : Tx wr ta tn tc ts := by
  obtain ⟨h1, h2, h3, h4, h5⟩ := h
  refine ⟨h1, h2, h3, h4, ?_⟩
  rcases h5 with h5 | ⟨tb, e, hlt, hc⟩
  · exact .inl h5
  · refine .inr ⟨tb, e, by have := hb.size; omega, fun i hi => ?_⟩
    rw [hb.cell (p := ⟨tb, i, none⟩) (by show tb < G; omega)]
    exact hc i hi
/-- Ends in a row of their own. -/
def En (w : World) (ea : Option Addr) (n : Nat) (es : List Int) : Prop :=
  es.length = n ∧ (0 < n → ∃ eb, ea = some ⟨eb, 0, none⟩ ∧ eb < w.heap.size ∧ ∀ i, i < n → w.cell? ⟨eb, i, none⟩ = some (.int .i64 (es.getD i 0)))
theorem En.below {w wr : World} {ea : Option Addr} {n : Nat} {es : List Int} (h : En w ea n es) {G : Nat} (hG : w.heap.size ≤ G) (hb : Below G w wr) : En wr ea n es := by
  refine ⟨h.1, fun hn => ?_⟩
  obtain ⟨eb, e, hlt, hc⟩ := h.2 hn
  refine ⟨eb, e, by have := hb.size; omega, fun i hi => ?_⟩
  rw [hb.cell (p := ⟨eb, i, none⟩) (by show eb < G; omega)]
  exact hc i hi

/-- 'ends2 := make([]int, n+1); copy(ends2, ends)'. -/
theorem mk_ends (w : World) (ea : Option Addr) (n : Nat) (es : List Int) (hn : n ≤ 2097152) (h : En w ea n es) :
    ∃ W8 W9, (Instr.makeSlice 23 (.int .i64 ((n : Int) + 1)) (.int .i64 ((n : Int) + 1))).run Tryd.prog w = .ok (.slice (some ⟨w.heap.size, 0, none⟩) (n + 1) (n + 1)) W8 ∧
      (∀ ty, (Builtin.copy_ #[23, 23] ty #[.slice (some ⟨w.heap.size, 0, none⟩) (n + 1) (n + 1), .slice ea n n]).run Tryd.prog W8 = .ok (.int .i64 n) W9) ∧
      Below w.heap.size w W9 ∧ w.heap.size < W9.heap.size ∧ (∀ i, i < n → W9.cell? ⟨w.heap.size, i, none⟩ = some (.int .i64 (es.getD i 0))) ∧ W9.cell? ⟨w.heap.size, n, none⟩ = some (.int .i64 0) ∧ W9.frozen? ⟨w.heap.size, n, none⟩ = false := by
  have hmk := run_mk (k := .i64) Tryd.underlying23 Tryd.info3 (by omega) (n + 1) (by omega) w
  rw [show (((n + 1 : Nat)) : Int) = (n : Int) + 1 from by omega] at hmk
  have hsz : (Tryd.prog.info? 3).map (·.size) = some 1 := by kernel_rfl
  have hz : zerosK .i64 (n + 1) = zerosK .i64 n ++ [Value.int .i64 0] := by unfold zerosK; rw [List.replicate_succ']
  refine ⟨_, w.alloc (.cells (cellsK .i64 es ++ [Value.int .i64 0]).toArray 3), hmk, fun ty => ?_, (Below.refl _ w).alloc (Nat.le_refl _) _, by simp, fun i hi => ?_, ?_, ?_⟩
  · by_cases h0 : n = 0
    · have hes : es = [] := List.eq_nil_of_length_eq_zero (by have := h.1; omega)
      have := run_copy_none (P := Tryd.prog) (w.alloc (.cells (zerosK .i64 (n + 1)).toArray 3)) 23 23 ty 3 (some ⟨w.heap.size, 0, none⟩) ea (n + 1) (n + 1) n n Tryd.underlying23 hsz (by rw [h0]; rfl)
      rw [this, hes, h0]
      rfl
    · obtain ⟨eb, rfl, hlt, hc⟩ := h.2 (by omega)
      have hl1 : (cellsK .i64 es).length = n := by simp [cellsK, h.1]
      have := run_copy_row (P := Tryd.prog) (w.alloc (.cells (zerosK .i64 (n + 1)).toArray 3)) 23 23 ty 3 w.heap.size 0 (n + 1) (n + 1) ⟨eb, 0, none⟩ n n (zerosK .i64 (n + 1)).toArray 3 (cellsK .i64 es) Tryd.underlying23 hsz
        (alloc_heap _ _) (by rw [hl1]; exact (Nat.min_eq_left (by omega)).symm)
        (fun j v hj => by
          obtain ⟨h1, rfl⟩ := cellsK_get _ _ _ _ hj
          rw [Addr.add_lit, Nat.zero_add]
          exact Lib.cell?_alloc_marked _ (hc j (by have := h.1; omega)))
        (by rw [hl1]; simp [zerosK])
        (cellsK_one _ _)
      rw [this, hl1]
      have e : ((zerosK .i64 (n + 1)).toArray.toList.take 0 ++ cellsK .i64 es ++ (zerosK .i64 (n + 1)).toArray.toList.drop (0 + n)).toArray = (cellsK .i64 es ++ [Value.int .i64 0]).toArray := by
        rw [hz]
        simp [zerosK]
      rw [e, setRow_alloc]
      rfl
  · rw [World.cell?_alloc_mark]
    have hi' : i < es.length := by have := h.1; omega
    simp [cellsK, hi', List.getElem?_append]
  · rw [World.cell?_alloc_mark]
    have hl1 : (cellsK .i64 es).length = n := by simp [cellsK, h.1]
    simp [hl1]
  · rw [World.frozen?_alloc_mark]
    simp

/-! ### The plain law -/
theorem valid_step (t p : Int) (es : List Int) (h : validFrom t p es = true) : ∀ j, j < es.length → (if j = 0 then p else es.getD (j - 1) 0) ≤ es.getD j 0 ∧ es.getD j 0 ≤ t := by
  induction es generalizing p with
  | nil => intro j hj; simp at hj
  | cons x r ih =>
    rw [validFrom] at h
    split at h
    · cases h
    · rename_i hx
      intro j hj
      cases j with
      | zero => simp; omega
      | succ j =>
        have := ih x h j (by simp at hj; omega)
        simp only [Nat.add_sub_cancel, List.getD_cons_succ, Nat.succ_ne_zero, if_false] at this ⊢
        cases j with
        | zero => simpa using this
        | succ j => simpa using this
theorem valid_low (t : Int) (es : List Int) (h : validFrom t 0 es = true) : ∀ j, j < es.length → 0 ≤ es.getD j 0 := by
  intro j
  induction j with
  | zero => intro hj; have := valid_step t 0 es h 0 hj; simp at this; simpa using this.1
  | succ j ih =>
    intro hj
    have h1 := ih (by omega)
    have := (valid_step t 0 es h (j + 1) hj).1
    simp at this
    simp at h1 ⊢
    omega
theorem sub_same (ts ys : List Int) (s e : Nat) (he : e ≤ ts.length) : ((ts ++ ys).take e).drop s = (ts.take e).drop s := by rw [List.take_append_of_le_length he]
theorem sub_new (ts ids els : List Int) : ((ts ++ ids ++ [0] ++ els).take (ts.length + ids.length + 1 + els.length)).drop ts.length = ids ++ ([0] ++ els) := by
  rw [List.take_of_length_le (by simp; omega)]
  simp [List.append_assoc]
theorem zAt_new (ids els : List Int) (h : hasZ ids = false) : zAt (ids ++ ([0] ++ els)) = ids.length := by
  unfold zAt hasZ at *
  rw [List.findIdx_append]
  have : ids.findIdx (· == (0 : Int)) = ids.length := by
    rw [List.findIdx_eq_length]
    intro x hx
    simpa using List.any_eq_false.1 h x hx
  rw [this, if_neg (by omega)]
  simp [List.findIdx_cons]
theorem id_new (ids els : List Int) (h : hasZ ids = false) : idOf (ids ++ ([0] ++ els)) = ids ∧ elOf (ids ++ ([0] ++ els)) = els := by
  unfold idOf elOf
  rw [zAt_new ids els h]
  constructor
  · simp
  · simp

/-! ### The two definitions, side by side -/
/-- The definitions in block d: their text ts, their ends es (all of them places in the text). -/
structure DefAt (W : World) (d z zo zc : Nat) (ts es : List Int) : Prop where
  ex : ∃ ta tn tc ea en, Tx W ta tn tc ts ∧ En W ea en es ∧ en ≤ 2097152 ∧ Defs W d (.slice ta tn tc) (.slice ea en en) z zo zc
theorem DefAt.at {W : World} {d z zo zc : Nat} {ts es : List Int} (h : DefAt W d z zo zc ts es) (m j s e : Nat) (hj : j < es.length) (hse : s ≤ e) (het : e ≤ ts.length) (hs0 : 0 < j → es.getD (j - 1) 0 = s) (hs1 : j = 0 → s = 0) (he : es.getD j 0 = e) :
    ∃ a1 n1 c1 a2 n2 c2, Sl .u8 W a1 n1 (idOf ((ts.take e).drop s)) ∧ Sl .u8 W a2 n2 (elOf ((ts.take e).drop s)) ∧ n1 ≤ 2097152 ∧ n2 ≤ 2097152 ∧
      Calls Tryd.prog 22 #[.pointer (some ⟨d, 0, none⟩), .int .i64 j] (W.drewN m) fun r w' => r = .returned (.tuple #[.slice a1 n1 c1, .slice a2 n2 c2]) ∧ ∃ m', w' = (W.drewN m).drewN m' := by
  obtain ⟨ta, tn, tc, ea, en, hT, hE, hen, hD⟩ := h.ex
  obtain ⟨eb, rfl, hlt, hc⟩ := hE.2 (by have := hE.1; omega)
  have hl := hE.1
  have ht := hT.1
  exact at_any d tn tc eb en en z zo zc j s e ta ts (W.drewN m) hT ⟨hD.text, hD.ends, hD.zero, hD.byte⟩ (by omega) hen hse (by omega)
    (fun h0 => by have := hc (j - 1) (by omega); rw [hs0 h0] at this; exact this) hs1 (by have := hc j (by omega); rw [he] at this; exact this)
theorem ends2_row {W : World} {g n : Nat} {es : List Int} {v : Int} (hl : es.length = n) (hlt : g < W.heap.size) (hc : ∀ i, i < n → W.cell? ⟨g, i, none⟩ = some (.int .i64 (es.getD i 0))) (hn : W.cell? ⟨g, n, none⟩ = some (.int .i64 0)) :
    En (W.setCell ⟨g, n, none⟩ (.int .i64 v)) (some ⟨g, 0, none⟩) (n + 1) (es ++ [v]) := by
  refine ⟨by simp [hl], fun _ => ⟨g, rfl, by simpa using hlt, fun i hi => ?_⟩⟩
  by_cases hin : i = n
  · subst hin
    rw [World.cell?_setCell_same _ _ _ hn]
    simp [List.getD, hl]
  · rw [World.cell?_setCell_other _ _ _ _ (fun e => hin (by simpa using (congrArg Addr.off e).symm)), hc i (by omega)]
    have : i < es.length := by omega
    simp [List.getD, List.getElem?_append, this]
theorem cell_below {w wr : World} {G : Nat} {a : Addr} {v : Value} (hb : Below G w wr) (hG : w.heap.size ≤ G) (h : w.cell? a = some v) : wr.cell? a = some v := by
  rw [hb.cell (p := a) (by have := World.block_lt_of_cell? w _ h; omega)]
  exact h
/-- THE PLACES of the id at place j. -/
theorem places (n0 : Nat) (es : List Int) (hv : validFrom n0 0 es = true) (j : Nat) (hj : j < es.length) : ∃ s e : Nat, s ≤ e ∧ e ≤ n0 ∧ (0 < j → es.getD (j - 1) 0 = s) ∧ (j = 0 → s = 0) ∧ es.getD j 0 = e := by
  have h1 := valid_step n0 0 es hv j hj
  have h2 := valid_low n0 es hv j hj
  by_cases h0 : j = 0
  · rw [if_pos h0] at h1
    exact ⟨0, (es.getD j 0).toNat, by omega, by omega, fun h => by omega, fun _ => rfl, by omega⟩
  · rw [if_neg h0] at h1
    have h3 := valid_low n0 es hv (j - 1) (by omega)
    exact ⟨(es.getD (j - 1) 0).toNat, (es.getD j 0).toNat, by omega, by omega, fun h => by omega, fun h => absurd h h0, by omega⟩
theorem getD_app (es : List Int) (v : Int) (j : Nat) (hj : j < es.length) : (es ++ [v]).getD j 0 = es.getD j 0 := by simp [List.getD, List.getElem?_append, hj]
theorem getD_new (es : List Int) (v : Int) : (es ++ [v]).getD es.length 0 = v := by simp [List.getD]
end Go.Proofs.Qxb6614898aDoor
