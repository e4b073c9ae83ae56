/-
  THE WALK OF FnPositionCutAgrees.
-/
import Derived.Test.Qxb6609011aPosition
import Derived.Laws.CopyOwn
import Derived.OwnWalk
namespace Go.Proofs.Qxb6609011a
open Go.RowKit Pos
set_option linter.unusedVariables false
set_option maxHeartbeats 1000000

theorem bcell {W w1 : World} (hb : Below W.heap.size W w1) : (∀ b o, b < W.heap.size → w1.cell? ⟨b, o, none⟩ = W.cell? ⟨b, o, none⟩) ∧ (∀ b o, b < W.heap.size → w1.frozen? ⟨b, o, none⟩ = W.frozen? ⟨b, o, none⟩) :=
  ⟨fun b o h => hb.cell (p := ⟨b, o, none⟩) h, fun b o h => hb.frozen (p := ⟨b, o, none⟩) h⟩

/-- A new array of n bytes, all zero. -/
def zeros (n : Nat) : List Value := List.replicate n (.int .u8 0)
theorem Try.info5 : (Try.prog.info? 5).map (fun i => (i.zero, i.size, i.bytes)) = some (some (.int .u8 0), 1, 1) := by kernel_rfl
theorem run_mk (n : Nat) (hn : n ≤ 2097152) (w : World) :
    (Instr.makeSlice 22 (.int .i64 n) (.int .i64 n)).run Try.prog w = .ok (.slice (some ⟨w.heap.size, 0, none⟩) n n) (w.alloc (.cells (zeros n).toArray 5)) := by
  obtain ⟨i0, hi, hz0, hz1, hz2⟩ := info_parts Try.info5
  have := run_make (P := Try.prog) w 22 5 i0 (.int .u8 0) Try.underlying22 hi hz0 .i64 .i64 n n (by omega) (by omega) (by rw [hz2]; omega) (by omega)
  rw [this]
  have e : madeCells (Value.int .u8 0).cells (n * i0.size) = (zeros n).toArray := by
    have := toList_madeCells_one (.int .u8 0) n
    rw [hz1, Nat.mul_one]
    unfold zeros
    rw [← this]
    rfl
  simp only [Int.toNat_natCast] at e ⊢
  rw [e]
theorem bytes5_ok (a : Option Addr) (n c : Nat) (x y : Int) (w : World) (hn : n ≤ 1048576) :
    Calls Try.prog 5 #[.slice a n c, .int .i64 x, .int .i64 y] w fun e w' => e = .returned (.bool true) ∧ w = w' := by
  go_enter Try.func5, Try.ntmps5
  go_wp2
  go_ret
  exact ⟨rfl, rfl⟩
theorem bytes5_no (a : Option Addr) (n c : Nat) (x y : Int) (w : World) (hm : n ≤ maxLen) (hn : 1048576 < n) :
    Calls Try.prog 5 #[.slice a n c, .int .i64 x, .int .i64 y] w fun e w' => e = .returned (.bool false) ∧ w = w' := by
  unfold maxLen at hm
  go_enter Try.func5, Try.ntmps5
  go_wp2
  go_ret
  exact ⟨rfl, rfl⟩

/-- The ways on which nothing is asked. -/
theorem cut_long (a : Option Addr) (n c : Nat) (x y : Int) (w : World) (hm : n ≤ maxLen) (hn : 1048576 < n) :
    Calls Try.prog 3 #[.slice a n c, .int .i64 x, .int .i64 y] w fun e w' => e = .returned (.bool true) ∧ Below w.heap.size w w' := by
  go_enter Try.func3, Try.ntmps3
  go_wp2_with (go_at_call 5; refine (bytes5_no _ _ _ _ _ _ hm hn).mono ?_; rintro e w' ⟨rfl, rfl⟩)
  go_ret
  exact ⟨rfl, Below.refl _ _⟩
theorem cut_off (a : Option Addr) (n c : Nat) (x y : Int) (w : World) (hn : n ≤ 1048576) (hx : x < 0 ∨ (n : Int) < x) :
    Calls Try.prog 3 #[.slice a n c, .int .i64 x, .int .i64 y] w fun e w' => e = .returned (.bool true) ∧ Below w.heap.size w w' := by
  rcases hx with hx | hx
  all_goals
    go_enter Try.func3, Try.ntmps3
    go_wp2_with (go_at_call 5; refine (bytes5_ok _ _ _ _ _ _ hn).mono ?_; rintro e w' ⟨rfl, rfl⟩)
    all_goals go_ret
    all_goals exact ⟨rfl, Below.refl _ _⟩
theorem cut_k (a : Option Addr) (n c : Nat) (x y : Int) (w : World) (hn : n ≤ 1048576) (hx0 : 0 ≤ x) (hx1 : x ≤ n) (hy : y < 0 ∨ x < y) :
    Calls Try.prog 3 #[.slice a n c, .int .i64 x, .int .i64 y] w fun e w' => e = .returned (.bool true) ∧ Below w.heap.size w w' := by
  rcases hy with hy | hy
  all_goals
    go_enter Try.func3, Try.ntmps3
    go_wp2_with (go_at_call 5; refine (bytes5_ok _ _ _ _ _ _ hn).mono ?_; rintro e w' ⟨rfl, rfl⟩)
    all_goals go_ret
    all_goals exact ⟨rfl, Below.refl _ _⟩
theorem cut_nil (w : World) :
    Calls Try.prog 3 #[.slice none 0 0, .int .i64 0, .int .i64 0] w fun e w' => e = .returned (.bool true) ∧ Below w.heap.size w w' := by
  have hnn := fun (w : World) => run_neq_slice_nil_any (P := Try.prog) w 22 5 none 0 0 0 0 Try.underlying22
  go_enter Try.func3, Try.ntmps3
  go_wp2_with (go_at_call 5; refine (bytes5_ok _ _ _ _ _ _ (by omega)).mono ?_; rintro e w' ⟨rfl, rfl⟩)
  refine (zzposition_nil _).mono ?_
  rintro e w1 ⟨rfl, hb1⟩
  go_wp2_with fail
  refine (scan_nil _).mono ?_
  rintro e w2 ⟨rfl, hw⟩
  subst hw
  go_wp2_with fail
  refine (zzposition_nil _).mono ?_
  rintro e w2 ⟨rfl, hb2⟩
  go_wp2_with fail
  refine (zzposition_nil _).mono ?_
  rintro e w3 ⟨rfl, hb3⟩
  go_wp2_with fail
  refine (has_nil _).mono ?_
  rintro e w4 ⟨rfl, hw⟩
  subst hw
  go_wp2
  go_ret
  exact ⟨rfl, hb1.trans ((hb2.mono hb1.size).trans (hb3.mono (Nat.le_trans hb1.size hb2.size)))⟩

/-- The cells of a row of bytes. -/
def bcells (zs : List Int) : List Value := zs.map (Value.int .u8)
theorem bcells_get (zs : List Int) (j : Nat) (v : Value) (h : (bcells zs)[j]? = some v) : j < zs.length ∧ v = .int .u8 (zs.getD j 0) := by
  unfold bcells at h
  rw [List.getElem?_map] at h
  cases hj : zs[j]? with
  | none => rw [hj] at h; simp at h
  | some y =>
    rw [hj] at h
    refine ⟨(List.getElem?_eq_some_iff.1 hj).1, ?_⟩
    simp only [Option.map_some, Option.some.injEq] at h
    rw [← h, List.getD_eq_getElem?_getD, hj]; rfl
theorem setRow_alloc (w : World) (A B : Array Value) (t : TypeId) : (w.alloc (.cells A t)).setRow w.heap.size B = w.alloc (.cells B t) := by
  have hm : ∀ (a : Array Obj) (x : Obj) (f : Obj → Obj), (a.push x).modify a.size f = a.push (f x) := by
    intro a x f
    apply Array.ext
    · simp
    · intro i h1 h2
      simp only [Array.getElem_modify, Array.getElem_push]
      by_cases h : a.size = i
      · subst h
        simp
      · have hi : i < a.size := by simp at h1; omega
        simp [h, hi]
  unfold World.setRow
  show ({ w.alloc (.cells A t) with heap := (w.heap.push (.cells A t)).modify w.heap.size _ } : World) = _
  rw [hm]
  rfl
/-- 'zzc := make([]byte, len(x)); copy(zzc, x)': the copy's run. -/
theorem run_clone (w : World) (ty : TypeId) (x : Addr) (n c : Nat) (zs : List Int) (hn : n ≤ zs.length) (hc : ∀ i, i < n → w.cell? (x.add i) = some (.int .u8 (zs.getD i 0))) :
    (Builtin.copy_ #[22, 22] ty #[.slice (some ⟨w.heap.size, 0, none⟩) n n, .slice (some x) n c]).run Try.prog (w.alloc (.cells (zeros n).toArray 5)) = .ok (.int .i64 n) (w.alloc (.cells (bcells (zs.take n)).toArray 5)) := by
  have hl1 : (bcells (zs.take n)).length = n := by simp [bcells]; omega
  have := run_copy_row (P := Try.prog) (w.alloc (.cells (zeros n).toArray 5)) 22 22 ty 5 w.heap.size 0 n n x n c (zeros n).toArray 5 (bcells (zs.take n)) Try.underlying22 (by kernel_rfl)
    (by show (w.heap.push _)[w.heap.size]? = _; simp) (by rw [hl1]; exact (Nat.min_self n).symm)
    (fun j v hj => by
      obtain ⟨h1, rfl⟩ := bcells_get _ _ _ hj
      have h2 : j < n := by simp at h1; omega
      rw [getD_take zs n j h2]
      exact Lib.cell?_alloc_marked _ (hc j h2))
    (by rw [hl1]; simp [zeros])
    (fun v hv => by
      obtain ⟨y, _, rfl⟩ := List.mem_map.1 hv
      rfl)
  rw [this, hl1]
  have e : ((zeros n).toArray.toList.take 0 ++ bcells (zs.take n) ++ (zeros n).toArray.toList.drop (0 + n)).toArray = (bcells (zs.take n)).toArray := by simp [zeros]
  rw [e, setRow_alloc]
  rfl
theorem row_cell {W : World} {g : Nat} {zs : List Int} (h : W.heap[g]? = some (.cells (bcells zs).toArray 5 (0, 0))) : ∀ i, i < zs.length → W.cell? ⟨g, 0 + i, none⟩ = some (.int .u8 (zs.getD i 0)) := by
  intro i hi
  simp only [World.cell?, h, Nat.zero_add]
  simp [bcells, hi]

/-- position's answer, by name. -/
def lineOf (zs : List Int) : Int := 1 + (cnt zs : Int)
def colOf (zs : List Int) : Int := max (col zs : Int) 1
theorem pos_named (b o n c m : Nat) (zs : List Int) (w : World) (l q : Int) (hl : l = lineOf (zs.take m)) (hq : q = colOf (zs.take m)) (hm : m ≤ n) (hnc : n ≤ c) (hn : n ≤ 2097152) (hz : n ≤ zs.length) (hb : ∀ x ∈ zs, 0 ≤ x ∧ x < 256)
    (hc : ∀ i, i < n → w.cell? ⟨b, o + i, none⟩ = some (.int .u8 (zs.getD i 0))) :
    Calls Try.prog 6 #[.slice (some ⟨b, o, none⟩) n c, .int .i64 m] w fun e w' => e = .returned (.tuple #[.int .i64 l, .int .i64 q]) ∧ Below w.heap.size w w' := by
  rw [hl, hq]
  exact zzposition_some b o n c m zs w hm hnc hn hz hb hc
theorem pos_int (b o n c m : Nat) (z : Int) (hzm : z = (m : Int)) (zs : List Int) (w : World) (l q : Int) (hl : l = lineOf (zs.take m)) (hq : q = colOf (zs.take m)) (hm : m ≤ n) (hnc : n ≤ c) (hn : n ≤ 2097152) (hz : n ≤ zs.length) (hb : ∀ x ∈ zs, 0 ≤ x ∧ x < 256)
    (hc : ∀ i, i < n → w.cell? ⟨b, o + i, none⟩ = some (.int .u8 (zs.getD i 0))) :
    Calls Try.prog 6 #[.slice (some ⟨b, o, none⟩) n c, .int .i64 z] w fun e w' => e = .returned (.tuple #[.int .i64 l, .int .i64 q]) ∧ Below w.heap.size w w' := by
  rw [hzm]
  exact pos_named b o n c m zs w l q hl hq hm hnc hn hz hb hc
theorem getD_drop (zs : List Int) (k i : Nat) : (zs.drop k).getD i 0 = zs.getD (k + i) 0 := by simp [List.getD]
theorem scan_named (b o n c : Nat) (zs : List Int) (m : Nat) (w : World) (l q : Int) (hl : l = lineOf (zs.take m)) (hq : q = colOf (zs.take m)) (hn : n ≤ 2097152) (hm : m ≤ n) (hz : n ≤ zs.length) (hc : ∀ i, i < n → w.cell? ⟨b, o + i, none⟩ = some (.int .u8 (zs.getD i 0))) :
    Calls Try.prog 7 #[.slice (some ⟨b, o, none⟩) n c, .int .i64 m] w fun e w' => e = .returned (.tuple #[.int .i64 l, .int .i64 q]) ∧ w' = w := by
  rw [hl, hq]
  exact scan_some b o n c zs m w hn hm hz hc
theorem has_named (b o n c : Nat) (zs : List Int) (f t : Nat) (w : World) (hh : Bool) (hhh : hh = hasNl ((zs.take t).drop f)) (hn : n ≤ 2097152) (hft : f ≤ t) (ht : t ≤ n) (hz : n ≤ zs.length) (hc : ∀ i, i < n → w.cell? ⟨b, o + i, none⟩ = some (.int .u8 (zs.getD i 0))) :
    Calls Try.prog 8 #[.slice (some ⟨b, o, none⟩) n c, .int .i64 f, .int .i64 t] w fun e w' => e = .returned (.bool hh) ∧ w' = w := by
  rw [hhh]
  exact has_some b o n c zs f t w hn hft ht hz hc
theorem lineOf_bd (zs : List Int) : 1 ≤ lineOf zs ∧ lineOf zs ≤ 1 + zs.length := by
  have := cnt_le zs
  unfold lineOf; omega
theorem colOf_bd (zs : List Int) : 1 ≤ colOf zs ∧ colOf zs ≤ 1 + zs.length := by
  have := col_le zs
  unfold colOf; omega
theorem mem_hasNl (zs : List Int) : hasNl zs = true → ∃ x ∈ zs, x = 10 := by
  unfold hasNl
  rw [List.any_eq_true]
  rintro ⟨x, hx, h⟩
  exact ⟨x, hx, by simpa using h⟩
theorem nmem_hasNl (zs : List Int) : hasNl zs = false → ∀ x ∈ zs, x ≠ 10 := by
  unfold hasNl
  rw [List.any_eq_false]
  intro h x hx
  simpa using h x hx

/-- THE PLAIN LAW: lines add over the cut; behind a newline the column is the rest's; without one it runs on. -/
theorem plain_cut (a b : List Int) : lineOf (a ++ b) = lineOf a + lineOf b - 1 ∧ (hasNl b = true → colOf (a ++ b) = colOf b) ∧ (hasNl b = false → 1 < colOf a → colOf (a ++ b) = colOf a + b.length) := by
  refine ⟨by unfold lineOf; rw [cnt_append]; omega, fun h => ?_, fun h h1 => ?_⟩
  · unfold colOf col
    rw [colFrom_append, colFrom_some b (colFrom 0 a) 0 (mem_hasNl b h)]
  · unfold colOf col at *
    rw [colFrom_append, colFrom_none b _ (nmem_hasNl b h)]
    omega

theorem cut_core (x : Addr) (n c m k : Nat) (zs : List Int) (w : World) (hk : k ≤ m) (hm : m ≤ n) (hn : n ≤ 1048576) (hnc : n ≤ c) (hz : zs.length = c) (hb : ∀ x ∈ zs, 0 ≤ x ∧ x < 256)
    (hc : ∀ i, i < zs.length → w.cell? (x.add i) = some (.int .u8 (zs.getD i 0))) :
    Calls Try.prog 3 #[.slice (some x) n c, .int .i64 m, .int .i64 k] w fun e w' => e = .returned (.bool true) ∧ Below w.heap.size w w' := by
  have hnn := fun (w : World) => run_neq_slice_nil_any (P := Try.prog) w 22 5 (some x) n c 0 0 Try.underlying22
  have hmk := run_mk n (by omega)
  have hcp := fun ty => run_clone w ty x n c zs (by omega) (fun i hi => hc i (by omega))
  have hrow : ∀ i, i < n → (w.alloc (.cells (bcells (zs.take n)).toArray 5)).cell? ⟨w.heap.size, 0 + i, none⟩ = some (.int .u8 ((zs.take n).getD i 0)) := fun i hi => row_cell (by show (w.heap.push _)[w.heap.size]? = _; simp) i (by simp; omega)
  have hB : Below w.heap.size w (w.alloc (.cells (bcells (zs.take n)).toArray 5)) := (Below.refl _ w).alloc (Nat.le_refl _) _
  have hlen : (zs.take n).length = n := by simp; omega
  have hbb : ∀ y ∈ zs.take n, 0 ≤ y ∧ y < 256 := fun y hy => hb y (List.mem_of_mem_take hy)
  clear hb hc
  generalize zs.take n = ys at *
  clear hz zs
  -- the numbers, by name
  obtain ⟨l1, hl1⟩ : ∃ l1, l1 = lineOf (ys.take m) := ⟨_, rfl⟩
  obtain ⟨q1, hq1⟩ : ∃ q1, q1 = colOf (ys.take m) := ⟨_, rfl⟩
  obtain ⟨l2, hl2⟩ : ∃ l2, l2 = lineOf (ys.take k) := ⟨_, rfl⟩
  obtain ⟨q2, hq2⟩ : ∃ q2, q2 = colOf (ys.take k) := ⟨_, rfl⟩
  obtain ⟨l3, hl3⟩ : ∃ l3, l3 = lineOf ((ys.drop k).take (m - k)) := ⟨_, rfl⟩
  obtain ⟨q3, hq3⟩ : ∃ q3, q3 = colOf ((ys.drop k).take (m - k)) := ⟨_, rfl⟩
  have hp := plain_cut (ys.take k) ((ys.drop k).take (m - k))
  rw [← take_split, show k + (m - k) = m from by omega, ← hl1, ← hl2, ← hl3, ← hq1, ← hq2, ← hq3] at hp
  have b1 := lineOf_bd (ys.take m)
  have b2 := lineOf_bd (ys.take k)
  have b3 := lineOf_bd ((ys.drop k).take (m - k))
  have b4 := colOf_bd (ys.take m)
  have b5 := colOf_bd (ys.take k)
  have b6 := colOf_bd ((ys.drop k).take (m - k))
  have e1 : (ys.take m).length = m := by simp; omega
  have e2 : (ys.take k).length = k := by simp; omega
  have e3 : ((ys.drop k).take (m - k)).length = m - k := by simp; omega
  rw [← hl1, e1] at b1
  rw [← hl2, e2] at b2
  rw [← hl3, e3] at b3
  rw [← hq1, e1] at b4
  rw [← hq2, e2] at b5
  rw [← hq3, e3] at b6
  rw [e3] at hp
  have eh : (ys.take m).drop k = (ys.drop k).take (m - k) := by rw [List.drop_take]
  obtain ⟨hh, hhh⟩ : ∃ hh, hh = hasNl ((ys.take m).drop k) := ⟨_, rfl⟩
  rw [← eh, ← hhh] at hp
  have Hl1 : Hid (l1 = _) := hl1
  have Hq1 : Hid (q1 = _) := hq1
  have Hl2 : Hid (l2 = _) := hl2
  have Hq2 : Hid (q2 = _) := hq2
  have Hl3 : Hid (l3 = _) := hl3
  have Hq3 : Hid (q3 = _) := hq3
  have Hhh : Hid (hh = _) := hhh
  clear hl1 hq1 hl2 hq2 hl3 hq3 hhh eh e1 e2 e3
  have HP : Hid _ := hp
  clear hp
  go_enter Try.func3, Try.ntmps3
  go_wp2_with (go_at_call 5; refine (bytes5_ok _ _ _ _ _ _ (by omega)).mono ?_; rintro e w' ⟨rfl, rfl⟩)
  refine (pos_named _ 0 n n m ys _ l1 q1 Hl1.out Hq1.out hm (Nat.le_refl _) (by omega) (by omega) hbb hrow).mono ?_
  rintro e w1 ⟨rfl, hb1⟩
  clear hcp hmk hnn
  have hg : w.heap.size < (w.alloc (.cells (bcells ys).toArray 5)).heap.size := by simp
  have hrow1 : ∀ i, i < n → w1.cell? ⟨w.heap.size, 0 + i, none⟩ = some (.int .u8 (ys.getD i 0)) := fun i hi => by rw [hb1.cell (p := ⟨w.heap.size, 0 + i, none⟩) hg]; exact hrow i hi
  have hg1 : w.heap.size < w1.heap.size := by have := hb1.size; omega
  have hB1 : Below w.heap.size w w1 := hB.trans (hb1.mono (by omega))
  clear hrow hB hb1 hg
  go_wp2_with fail
  refine (scan_named _ 0 n n ys m _ l1 q1 Hl1.out Hq1.out (by omega) hm (by omega) hrow1).mono ?_
  rintro e w' ⟨rfl, hw⟩
  obtain rfl := hw.symm
  clear hw
  go_wp2_with fail
  refine (pos_named _ 0 n n k ys _ l2 q2 Hl2.out Hq2.out (by omega) (Nat.le_refl _) (by omega) (by omega) hbb hrow1).mono ?_
  rintro e w2 ⟨rfl, hb2⟩
  have hrow2 : ∀ i, i < n → w2.cell? ⟨w.heap.size, 0 + i, none⟩ = some (.int .u8 (ys.getD i 0)) := fun i hi => by rw [hb2.cell (p := ⟨w.heap.size, 0 + i, none⟩) hg1]; exact hrow1 i hi
  have hg2 : w.heap.size < w2.heap.size := by have := hb2.size; omega
  have hB2 : Below w.heap.size w w2 := hB1.trans (hb2.mono (by omega))
  clear hrow1 hB1 hb2 hg1
  have t1 : (l1 != l2 + l3 - 1) = false := by have := HP.out.1; simp [this]
  by_cases hkn : k < n
  · go_wp2_with fail
    refine (pos_int w.heap.size k (n - k) (n - k) (m - k) _ (by omega) (ys.drop k) _ l3 q3 Hl3.out Hq3.out (by omega) (Nat.le_refl _) (by omega) (by simp; omega) (fun y hy => hbb y (List.mem_of_mem_drop hy))
      (fun i hi => by rw [getD_drop]; have := hrow2 (k + i) (by omega); rwa [Nat.zero_add] at this)).mono ?_
    rintro e w3 ⟨rfl, hb3⟩
    have hrow3 : ∀ i, i < n → w3.cell? ⟨w.heap.size, 0 + i, none⟩ = some (.int .u8 (ys.getD i 0)) := fun i hi => by rw [hb3.cell (p := ⟨w.heap.size, 0 + i, none⟩) hg2]; exact hrow2 i hi
    have hB3 : Below w.heap.size w w3 := hB2.trans (hb3.mono (by omega))
    clear hrow2 hB2 hb3 hg2
    go_wp2_with fail
    refine (has_named _ 0 n n ys k m _ hh Hhh.out (by omega) (by omega) (by omega) (by omega) hrow3).mono ?_
    rintro e w' ⟨rfl, hw⟩
    obtain rfl := hw.symm
    clear hw hrow3
    cases hh with
    | true =>
      have t3 : (q1 != q3) = false := by have := HP.out.2.1 rfl; simp [this]
      go_wp2
      go_ret
      exact ⟨rfl, hB3⟩
    | false =>
      by_cases h1 : 1 < q2
      · have t3 : (q1 != q2 + ((m : Int) - (k : Int))) = false := by have := HP.out.2.2 rfl h1; rw [this]; simp; omega
        go_wp2
        go_ret
        exact ⟨rfl, hB3⟩
      · go_wp2
        go_ret
        exact ⟨rfl, hB3⟩
  · obtain rfl : k = n := by omega
    obtain rfl : k = m := by omega
    go_wp2_with fail
    refine (pos_int w.heap.size 0 0 0 0 _ (by omega) (ys.drop k) _ l3 q3 (by rw [Hl3.out, show k - k = 0 from by omega]) (by rw [Hq3.out, show k - k = 0 from by omega]) (by omega) (Nat.le_refl _) (by omega) (by omega) (fun y hy => hbb y (List.mem_of_mem_drop hy)) (fun i hi => by omega)).mono ?_
    rintro e w3 ⟨rfl, hb3⟩
    have hrow3 : ∀ i, i < k → w3.cell? ⟨w.heap.size, 0 + i, none⟩ = some (.int .u8 (ys.getD i 0)) := fun i hi => by rw [hb3.cell (p := ⟨w.heap.size, 0 + i, none⟩) hg2]; exact hrow2 i hi
    have hB3 : Below w.heap.size w w3 := hB2.trans (hb3.mono (by omega))
    clear hrow2 hB2 hb3 hg2
    go_wp2_with fail
    refine (has_named _ 0 k k ys k k _ hh Hhh.out (by omega) (by omega) (by omega) (by omega) hrow3).mono ?_
    rintro e w' ⟨rfl, hw⟩
    obtain rfl := hw.symm
    clear hw hrow3
    cases hh with
    | true =>
      have t3 : (q1 != q3) = false := by have := HP.out.2.1 rfl; simp [this]
      go_wp2
      go_ret
      exact ⟨rfl, hB3⟩
    | false =>
      by_cases h1 : 1 < q2
      · have t3 : (q1 != q2 + ((k : Int) - (k : Int))) = false := by have := HP.out.2.2 rfl h1; rw [this]; simp
        go_wp2
        go_ret
        exact ⟨rfl, hB3⟩
      · go_wp2
        go_ret
        exact ⟨rfl, hB3⟩
end Go.Proofs.Qxb6609011a
