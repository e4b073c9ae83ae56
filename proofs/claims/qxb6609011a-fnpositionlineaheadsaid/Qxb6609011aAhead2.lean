/-
  THE WALK OF FnPositionLineAhead, second part: the law itself.
-/
import Derived.Test.Qxb6609011aAhead
namespace Go.Proofs.Qxb6609011a
open Go.RowKit Pos
set_option linter.unusedVariables false
set_option maxHeartbeats 4000000

/-- WHAT THE LOOPS KEEP: block G holds the bytes xs at its head, with room for tot; below G nothing has turned since w. -/
def Jn (G tot : Nat) (w : World) (xs : List Int) (wr : World) : Prop :=
  wr.ownsRow G 5 1 (.slice (some ⟨G, 0, none⟩) xs.length tot) xs.length (bcells xs) ∧ Below G w wr ∧ G < wr.heap.size
theorem Jn.step {G tot : Nat} {w wr w1 : World} {xs : List Int} {k : Nat} {v : Int} {o : Obj} (h : Jn G tot w xs wr) (hk : xs.length = k) (how : w1.ownsRow G 5 1 (.slice (some ⟨G, 0, none⟩) (k + 1) tot) (k + 1) (bcells xs ++ [.int .u8 v])) (hg : (wr.alloc o).grownBy w1 (some G)) : Jn G tot w (xs ++ [v]) w1 := by
  obtain ⟨h1, h2, h3⟩ := h
  refine ⟨?_, (h2.alloc (by omega) o).grown hg (by simp; omega) (fun k hk => by cases hk; exact Nat.le_refl _), ?_⟩
  · have e : (xs ++ [v]).length = k + 1 := by simp [hk]
    rw [e]
    have e2 : bcells (xs ++ [v]) = bcells xs ++ [.int .u8 v] := by simp [bcells]
    rw [e2]
    exact how
  · have := hg.size
    simp at this
    omega
theorem Jn.cell {G tot : Nat} {w wr : World} {xs : List Int} (h : Jn G tot w xs wr) : ∀ i, i < xs.length → wr.cell? ⟨G, 0 + i, none⟩ = some (.int .u8 (xs.getD i 0)) := by
  intro i hi
  have := h.1.cellAt i (by omega)
  rw [Nat.zero_add, this]
  simp [bcells, hi]
/-- An argument's bytes: nil and empty need no word. -/
def Arg (w : World) (a : Option Addr) (n : Nat) (zs : List Int) : Prop := 0 < n → ∃ b o, a = some ⟨b, o, none⟩ ∧ b < w.heap.size ∧ ∀ i, i < n → w.cell? ⟨b, o + i, none⟩ = some (.int .u8 (zs.getD i 0))
theorem Arg.below {w wr : World} {a : Option Addr} {n : Nat} {zs : List Int} (h : Arg w a n zs) {G : Nat} (hG : w.heap.size ≤ G) (hb : Below G w wr) : Arg wr a n zs := by
  intro hn
  obtain ⟨b, o, h1, h2, h3⟩ := h hn
  refine ⟨b, o, h1, by have := hb.size; omega, fun i hi => ?_⟩
  rw [hb.cell (p := ⟨b, o + i, none⟩) (by show b < G; omega)]
  exact h3 i hi

theorem join_snoc (p l : List Int) (i : Nat) (h : i < l.length) : p ++ l.take (i + 1) = p ++ l.take i ++ [l.getD i 0] := by rw [take_snoc l i h, List.append_assoc]
/-- The joined bytes, up to the same place. -/
theorem joined_take (a b c : List Int) (m : Nat) (hm : m ≤ b.length) : (a ++ [10] ++ b ++ c).take (a.length + 1 + m) = a ++ [10] ++ b.take m := by
  have e : (a ++ [10] ++ b ++ c) = (a ++ [10]) ++ (b ++ c) := by simp
  have l : a.length + 1 + m = (a ++ [10]).length + m := by simp
  rw [e, l, List.take_length_add_append, List.take_append_of_le_length hm]
theorem line_ahead (a b : List Int) : lineOf (a ++ [10] ++ b) = lineOf b + (cnt a : Int) + 1 := by
  unfold lineOf
  rw [cnt_append, cnt_append]
  simp [cnt]
  omega
theorem col_ahead (a b : List Int) : colOf (a ++ [10] ++ b) = colOf b := by
  unfold colOf col
  rw [colFrom_append, colFrom_append]
  simp [colFrom]
theorem count_named (b o n c : Nat) (zs : List Int) (t : Nat) (w : World) (k : Nat) (hk : k = cnt (zs.take t)) (hn : n ≤ 2097152) (ht : t ≤ n) (hz : n ≤ zs.length) (hc : ∀ i, i < n → w.cell? ⟨b, o + i, none⟩ = some (.int .u8 (zs.getD i 0))) :
    Calls Try.prog 10 #[.slice (some ⟨b, o, none⟩) n c, .int .i64 0, .int .i64 t] w fun e w' => e = .returned (.int .i64 k) ∧ w = w' := by
  rw [hk]
  exact (count_some b o n c zs t w hn ht hz hc).mono fun e w' h => ⟨h.1, h.2.symm⟩
theorem ahead_core (x : Addr) (n c m : Nat) (zs : List Int) (ha ta : Option Addr) (nh ch nt ct : Nat) (hs ts : List Int) (w : World) (hm : m ≤ n) (hn : n ≤ 262144) (hnh : nh ≤ 262144) (hnt : nt ≤ 262144) (hnc : n ≤ c) (hz : zs.length = c) (hhs : hs.length = nh) (hts : ts.length = nt)
    (hb : ∀ x ∈ zs, 0 ≤ x ∧ x < 256) (hbh : ∀ x ∈ hs, 0 ≤ x ∧ x < 256) (hbt : ∀ x ∈ ts, 0 ≤ x ∧ x < 256)
    (hc : ∀ i, i < zs.length → w.cell? (x.add i) = some (.int .u8 (zs.getD i 0))) (hH : Arg w ha nh hs) (hT : Arg w ta nt ts) :
    Calls Try.prog 4 #[.slice (some x) n c, .int .i64 m, .slice ha nh ch, .slice ta nt ct] w fun e w' => e = .returned (.bool true) ∧ Below w.heap.size w w' := by
  obtain ⟨i0, hi, hz0, hz1, hz2⟩ := info_parts Try.info5
  have hnn := fun (w : World) => run_neq_slice_nil_any (P := Try.prog) w 22 5 (some x) n c 0 0 Try.underlying22
  have hmk := run_mk n (by omega)
  have hcp := fun ty => run_clone w ty x n c zs (by omega) (fun i hi => hc i (by omega))
  have hrow : ∀ i, i < n → (w.alloc (.cells (bcells (zs.take n)).toArray 5)).cell? ⟨w.heap.size, 0 + i, none⟩ = some (.int .u8 ((zs.take n).getD i 0)) := fun i hi => row_cell (by show (w.heap.push _)[w.heap.size]? = _; simp) i (by simp; omega)
  have hB : Below w.heap.size w (w.alloc (.cells (bcells (zs.take n)).toArray 5)) := (Below.refl _ w).alloc (Nat.le_refl _) _
  have hlen : (zs.take n).length = n := by simp; omega
  have hbb : ∀ y ∈ zs.take n, 0 ≤ y ∧ y < 256 := fun y hy => hb y (List.mem_of_mem_take hy)
  clear hb hc
  generalize zs.take n = ys at *
  clear hz zs
  obtain ⟨l1, hl1⟩ : ∃ l1, l1 = lineOf (ys.take m) := ⟨_, rfl⟩
  obtain ⟨q1, hq1⟩ : ∃ q1, q1 = colOf (ys.take m) := ⟨_, rfl⟩
  obtain ⟨k1, hk1⟩ : ∃ k1, k1 = cnt (ys.take m) := ⟨_, rfl⟩
  have b1 : l1 = 1 + (k1 : Int) := by rw [hl1, hk1]; rfl
  have b2 : k1 ≤ m := by have := cnt_le (ys.take m); rw [hk1]; simp at this; omega
  have b4 := colOf_bd (ys.take m)
  have e1 : (ys.take m).length = m := by simp; omega
  rw [← hq1, e1] at b4
  have Hl1 : Hid (l1 = _) := hl1
  have Hq1 : Hid (q1 = _) := hq1
  have Hk1 : Hid (k1 = _) := hk1
  have hHh : Hid _ := hH
  have hTh : Hid _ := hT
  have Hlen : Hid _ := hlen
  have Hhs : Hid _ := hhs
  have Hts : Hid _ := hts
  have B1 : Hid (l1 = 1 + (k1 : Int)) := b1
  have t1 : (l1 != 1 + (k1 : Int)) = false := by simp [b1]
  have b1' : 1 ≤ l1 ∧ l1 ≤ 1 + m := by omega
  clear hl1 hq1 hk1 e1 hH hT hlen hhs hts b1
  go_enter Try.func4, Try.ntmps4
  go_wp2_with (go_at_call 9; refine (bytes9_ok _ _ _ _ _ _ _ _ _ _ _ (by omega)).mono ?_; rintro e w' ⟨rfl, rfl⟩)
  refine (pos_named _ 0 n n m ys _ l1 q1 Hl1.out Hq1.out hm (Nat.le_refl _) (by omega) (by have := Hlen.out; omega) hbb hrow).mono ?_
  rintro e w1 ⟨rfl, hb1⟩
  clear hcp hmk hnn
  have hg : w.heap.size < (w.alloc (.cells (bcells ys).toArray 5)).heap.size := by simp
  have hrow1 : ∀ i, i < n → w1.cell? ⟨w.heap.size, 0 + i, none⟩ = some (.int .u8 (ys.getD i 0)) := fun i hi => by rw [hb1.cell (p := ⟨w.heap.size, 0 + i, none⟩) hg]; exact hrow i hi
  have hg1 : w.heap.size < w1.heap.size := by have := hb1.size; omega
  have hB1 : Below w.heap.size w w1 := hB.trans (hb1.mono (by omega))
  clear hrow hB hb1 hg
  go_wp2_with fail
  refine (count_named _ 0 n n ys m _ k1 Hk1.out (by omega) hm (by have := Hlen.out; omega) hrow1).mono ?_
  rintro e w' ⟨rfl, rfl⟩
  go_wp2_with fail
  refine (start_some _ n n m ys q1 _ (by omega) hm (by have := Hlen.out; omega) Hq1.out hrow1).mono ?_
  rintro e w' ⟨rfl, rfl⟩
  have hG : w.heap.size ≤ w1.heap.size := hB1.size
  go_wp2_with (at_make; refine wpList_make_own _ rfl _ _ 22 rfl w1.heap.size 5 i0 (.int .u8 0) 1 Try.underlying22 hi hz0 hz1 _ _ _ (nh + 1 + n + nt) rfl rfl (by omega) ?b2 ?b3 (Nat.le_refl _) ?_)
  case b2 => rw [hz2]; omega
  case b3 => unfold maxLen; omega
  intro w2 hown0 hgrow0
  have hJ : Jn w1.heap.size (nh + 1 + n + nt) w1 [] w2 := ⟨hown0, (Below.refl _ _).grown hgrow0 (Nat.le_refl _) (fun k h => by cases h), by have := (World.ownsRow.lt hown0 w1.heap.size rfl).2; exact this⟩
  have hH1 : Hid (Arg w1 ha nh hs) := Arg.below hHh.out (Nat.le_refl _) hB1
  have hT1 : Hid (Arg w1 ta nt ts) := Arg.below hTh.out (Nat.le_refl _) hB1
  have HJ : Hid _ := hJ
  clear hown0 hgrow0 hJ hHh hTh
  go_wp2
  go_loopw [13, 14] (fun v j wr => ∃ k : Nat, k ≤ nh ∧ j = .int .i64 k ∧ v = .slice (some ⟨w1.heap.size, 0, none⟩) k (nh + 1 + n + nt) ∧ Hid (Jn w1.heap.size (nh + 1 + n + nt) w1 (hs.take k) wr)) (fun _ j _ => nh - (intOf j).toNat)
  case atStart => exact ⟨0, Nat.zero_le _, rfl, rfl, HJ⟩
  case round =>
    obtain ⟨k, hk, rfl, rfl, HJr⟩ := hrel
    clear HJ
    by_cases hlt : k < nh
    · obtain ⟨b, o, rfl, hbl, hcl⟩ := hH1.out (by omega)
      have hcell : wr.cell? ⟨b, o + k, none⟩ = some (.int .u8 (hs.getD k 0)) := by rw [HJr.out.2.1.cell (p := ⟨b, o + k, none⟩) hbl]; exact hcl k hlt
      have hkl : (hs.take k).length = k := by have := Hhs.out; simp; omega
      have hown : wr.ownsRow w1.heap.size 5 1 (.slice (some ⟨w1.heap.size, 0, none⟩) k (nh + 1 + n + nt)) k (bcells (hs.take k)) := by have := HJr.out.1; rwa [hkl] at this
      have HS : Hid (hs.take (k + 1) = hs.take k ++ [hs.getD k 0]) := take_snoc hs k (by have := Hhs.out; omega)
      have Hkl : Hid ((hs.take k).length = k) := hkl
      clear hcl hkl
      generalize hs.getD k 0 = v at *
      generalize hs.take k = pre at *
      go_wp2_with (at_builtin; refine wpList_append_fits _ rfl (.tmp 89) (.tmp 94) 22 rfl w1.heap.size 5 i0 1 Try.underlying22 hi hz1 w1.heap.size k (nh + 1 + n + nt) _ rfl (hown.alloc _) ⟨wr.heap.size, 0, none⟩ 1 1 [.int .u8 v] rfl rfl ?c1 ?c2 ?c3 ?_)
      case c1 => intro t u ht; match t, ht with | 0, ht => simp at ht; subst ht; simp [Addr.add]
      case c2 => intro u hu; simp at hu; subst hu; rfl
      case c3 => omega
      intro w3 hown1 hgrow1
      have hJ3 : Hid (Jn w1.heap.size (nh + 1 + n + nt) w1 (pre ++ [v]) w3) := HJr.out.step Hkl.out hown1 hgrow1
      clear hown hown1 hgrow1 hcell
      go_wp2
      go_roundw
      case rel => exact ⟨k + 1, by omega, by go_num, rfl, by rw [HS.out]; exact hJ3⟩
      case measure => simp [intOf]; omega
    · obtain rfl : k = nh := by omega
      have hfull : hs.take k = hs := by rw [List.take_of_length_le]; have := Hhs.out; omega
      have HJ0 : Hid (Jn w1.heap.size (k + 1 + n + nt) w1 hs wr) := by rw [← hfull]; exact HJr
      have hown : wr.ownsRow w1.heap.size 5 1 (.slice (some ⟨w1.heap.size, 0, none⟩) k (k + 1 + n + nt)) k (bcells hs) := by have := HJ0.out.1; rwa [Hhs.out] at this
      clear HJr hfull
      go_wp2_with (at_builtin; refine wpList_append_fits _ rfl (.tmp 96) (.tmp 97) 22 rfl w1.heap.size 5 i0 1 Try.underlying22 hi hz1 w1.heap.size k (k + 1 + n + nt) _ rfl (hown.alloc _) ⟨wr.heap.size, 0, none⟩ 1 1 [.int .u8 10] rfl rfl ?d1 ?d2 ?d3 ?_)
      case d1 => intro t u ht; match t, ht with | 0, ht => simp at ht; subst ht; simp [Addr.add]
      case d2 => intro u hu; simp at hu; subst hu; rfl
      case d3 => omega
      intro w3 hown1 hgrow1
      have HJ3 : Hid (Jn w1.heap.size (k + 1 + n + nt) w1 (hs ++ [10]) w3) := HJ0.out.step Hhs.out hown1 hgrow1
      have Hh1 : Hid ((hs ++ [10]).length = k + 1) := by have := Hhs.out; show (hs ++ [10]).length = k + 1; simp [this]
      clear hown hown1 hgrow1 HJ0
      go_wp2
      go_loopw [13, 15] (fun v j wr => ∃ i : Nat, i ≤ n ∧ j = .int .i64 i ∧ v = .slice (some ⟨w1.heap.size, 0, none⟩) (k + 1 + i) (k + 1 + n + nt) ∧ Hid (Jn w1.heap.size (k + 1 + n + nt) w1 (hs ++ [10] ++ ys.take i) wr)) (fun _ j _ => n - (intOf j).toNat)
      case atStart => exact ⟨0, Nat.zero_le _, rfl, rfl, by rw [List.take_zero, List.append_nil]; exact HJ3⟩
      case round =>
        clear HJ3
        obtain ⟨i, hi', rfl, rfl, HJr⟩ := hrel
        by_cases hlt : i < n
        · have hcell : wr.cell? ⟨w.heap.size, i, none⟩ = some (.int .u8 (ys.getD i 0)) := by
            rw [HJr.out.2.1.cell (p := ⟨w.heap.size, i, none⟩) hg1]
            have := hrow1 i hlt
            rwa [Nat.zero_add] at this
          have hkl : (hs ++ [10] ++ ys.take i).length = k + 1 + i := by have := Hh1.out; have := Hlen.out; rw [List.length_append, Hh1.out]; simp; omega
          have hown : wr.ownsRow w1.heap.size 5 1 (.slice (some ⟨w1.heap.size, 0, none⟩) (k + 1 + i) (k + 1 + n + nt)) (k + 1 + i) (bcells (hs ++ [10] ++ ys.take i)) := by have := HJr.out.1; rwa [hkl] at this
          have HS : Hid (hs ++ [10] ++ ys.take (i + 1) = hs ++ [10] ++ ys.take i ++ [ys.getD i 0]) := join_snoc _ ys i (by have := Hlen.out; omega)
          have Hkl : Hid ((hs ++ [10] ++ ys.take i).length = k + 1 + i) := hkl
          clear hkl
          generalize ys.getD i 0 = v at *
          generalize hs ++ [10] ++ ys.take i = pre at *
          go_wp2_with (at_builtin; refine wpList_append_fits _ rfl (.tmp 105) (.tmp 110) 22 rfl w1.heap.size 5 i0 1 Try.underlying22 hi hz1 w1.heap.size (k + 1 + i) (k + 1 + n + nt) _ rfl (hown.alloc _) ⟨wr.heap.size, 0, none⟩ 1 1 [.int .u8 v] rfl rfl ?e1 ?e2 ?e3 ?_)
          case e1 => intro t u ht; match t, ht with | 0, ht => simp at ht; subst ht; simp [Addr.add]
          case e2 => intro u hu; simp at hu; subst hu; rfl
          case e3 => omega
          intro w3 hown1 hgrow1
          have hJ3 : Hid (Jn w1.heap.size (k + 1 + n + nt) w1 (pre ++ [v]) w3) := HJr.out.step Hkl.out hown1 hgrow1
          clear hown hown1 hgrow1 hcell
          go_wp2
          go_roundw
          case rel => exact ⟨i + 1, by omega, by go_num, rfl, by rw [HS.out]; exact hJ3⟩
          case measure => simp [intOf]; omega
        · obtain rfl : i = n := by omega
          have hfull : ys.take i = ys := by rw [List.take_of_length_le]; have := Hlen.out; omega
          have HJ4 : Hid (Jn w1.heap.size (k + 1 + i + nt) w1 (hs ++ [10] ++ ys) wr) := by rw [hfull] at HJr; exact HJr
          have Hh2 : Hid ((hs ++ [10] ++ ys).length = k + 1 + i) := by show _ = _; rw [List.length_append, Hh1.out, Hlen.out]
          clear HJr hfull
          go_wp2
          go_loopw [13, 16] (fun v j wr => ∃ r : Nat, r ≤ nt ∧ j = .int .i64 r ∧ v = .slice (some ⟨w1.heap.size, 0, none⟩) (k + 1 + i + r) (k + 1 + i + nt) ∧ Hid (Jn w1.heap.size (k + 1 + i + nt) w1 (hs ++ [10] ++ ys ++ ts.take r) wr)) (fun _ j _ => nt - (intOf j).toNat)
          case atStart => exact ⟨0, Nat.zero_le _, rfl, rfl, by rw [List.take_zero, List.append_nil]; exact HJ4⟩
          case round =>
            clear HJ4
            obtain ⟨r, hr', rfl, rfl, HJr⟩ := hrel
            by_cases hlt : r < nt
            · obtain ⟨b, o, rfl, hbl, hcl⟩ := hT1.out (by omega)
              have hcell : wr.cell? ⟨b, o + r, none⟩ = some (.int .u8 (ts.getD r 0)) := by rw [HJr.out.2.1.cell (p := ⟨b, o + r, none⟩) hbl]; exact hcl r hlt
              have hkl : (hs ++ [10] ++ ys ++ ts.take r).length = k + 1 + i + r := by have := Hts.out; rw [List.length_append, Hh2.out]; simp; omega
              have hown : wr.ownsRow w1.heap.size 5 1 (.slice (some ⟨w1.heap.size, 0, none⟩) (k + 1 + i + r) (k + 1 + i + nt)) (k + 1 + i + r) (bcells (hs ++ [10] ++ ys ++ ts.take r)) := by have := HJr.out.1; rwa [hkl] at this
              have HS : Hid (hs ++ [10] ++ ys ++ ts.take (r + 1) = hs ++ [10] ++ ys ++ ts.take r ++ [ts.getD r 0]) := join_snoc _ ts r (by have := Hts.out; omega)
              have Hkl : Hid ((hs ++ [10] ++ ys ++ ts.take r).length = k + 1 + i + r) := hkl
              clear hcl hkl
              generalize ts.getD r 0 = v at *
              generalize hs ++ [10] ++ ys ++ ts.take r = pre at *
              go_wp2_with (at_builtin; refine wpList_append_fits _ rfl (.tmp 118) (.tmp 123) 22 rfl w1.heap.size 5 i0 1 Try.underlying22 hi hz1 w1.heap.size (k + 1 + i + r) (k + 1 + i + nt) _ rfl (hown.alloc _) ⟨wr.heap.size, 0, none⟩ 1 1 [.int .u8 v] rfl rfl ?f1 ?f2 ?f3 ?_)
              case f1 => intro t u ht; match t, ht with | 0, ht => simp at ht; subst ht; simp [Addr.add]
              case f2 => intro u hu; simp at hu; subst hu; rfl
              case f3 => omega
              intro w3 hown1 hgrow1
              have hJ3 : Hid (Jn w1.heap.size (k + 1 + i + nt) w1 (pre ++ [v]) w3) := HJr.out.step Hkl.out hown1 hgrow1
              clear hown hown1 hgrow1 hcell
              go_wp2
              go_roundw
              case rel => exact ⟨r + 1, by omega, by go_num, rfl, by rw [HS.out]; exact hJ3⟩
              case measure => simp [intOf]; omega
            · obtain rfl : r = nt := by omega
              have hfull : ts.take r = ts := by rw [List.take_of_length_le]; have := Hts.out; omega
              have HJ5 : Hid (Jn w1.heap.size (k + 1 + i + r) w1 (hs ++ [10] ++ ys ++ ts) wr) := by rw [hfull] at HJr; exact HJr
              have Hh3 : Hid ((hs ++ [10] ++ ys ++ ts).length = k + 1 + i + r) := by show _ = _; rw [List.length_append, Hh2.out, Hts.out]
              have hrow5 : ∀ j, j < k + 1 + i + r → wr.cell? ⟨w1.heap.size, 0 + j, none⟩ = some (.int .u8 ((hs ++ [10] ++ ys ++ ts).getD j 0)) := fun j hj => HJ5.out.cell j (by rw [Hh3.out]; exact hj)
              have hb5 : ∀ y ∈ hs ++ [10] ++ ys ++ ts, 0 ≤ y ∧ y < 256 := by
                intro y hy
                simp only [List.mem_append, List.mem_singleton] at hy
                rcases hy with ((hy | hy) | hy) | hy
                · exact hbh y hy
                · subst hy; omega
                · exact hbb y hy
                · exact hbt y hy
              have hT : (hs ++ [10] ++ ys ++ ts).take (k + 1 + m) = hs ++ [10] ++ ys.take m := by have := joined_take hs ys ts m (by have := Hlen.out; omega); rwa [Hhs.out] at this
              obtain ⟨kh, hkh⟩ : ∃ kh, kh = cnt hs := ⟨_, rfl⟩
              have bkh : kh ≤ k := by have := cnt_le hs; rw [hkh]; have := Hhs.out; omega
              have HKH : Hid (kh = cnt hs) := hkh
              have hl2 : l1 + (kh : Int) + 1 = lineOf ((hs ++ [10] ++ ys ++ ts).take (k + 1 + m)) := by rw [hT, line_ahead, ← hkh, ← Hl1.out]
              have hq2 : q1 = colOf ((hs ++ [10] ++ ys ++ ts).take (k + 1 + m)) := by rw [hT, col_ahead, ← Hq1.out]
              have P := fun z hz => pos_int w1.heap.size 0 (k + 1 + i + r) (k + 1 + i + r) (k + 1 + m) z hz (hs ++ [10] ++ ys ++ ts) wr (l1 + (kh : Int) + 1) q1 hl2 hq2 (by omega) (Nat.le_refl _) (by omega) (by rw [Hh3.out]; exact Nat.le_refl _) hb5 hrow5
              have HP : Hid _ := P
              have hbw : Hid (Below w.heap.size w wr ∧ Arg wr ha k hs) := ⟨hB1.trans (HJ5.out.2.1.mono hG), Arg.below hH1.out (Nat.le_refl _) HJ5.out.2.1⟩
              clear P hl2 hq2 hkh hT hb5 hrow5 HJr HJ5 hfull hrow1
              go_wp2_with fail
              refine (HP.out _ (by omega)).mono ?_
              rintro e w5 ⟨rfl, hb5⟩
              have HB5 : Hid (Below w.heap.size w w5 ∧ Arg w5 ha k hs) := ⟨hbw.out.1.trans (hb5.mono hbw.out.1.size), Arg.below hbw.out.2 (Nat.le_refl _) hb5⟩
              clear hbw hb5 HP
              go_wp2_with fail
              have HC : Calls Try.prog 10 #[.slice ha k ch, .int .i64 0, .int .i64 k] w5 fun e w' => e = .returned (.int .i64 kh) ∧ w5 = w' := by
                by_cases hk0 : k = 0
                · have e0 : kh = 0 := by omega
                  rw [e0, hk0]
                  exact (count_nil ha ch w5).mono fun e w' h => ⟨h.1, h.2.symm⟩
                · obtain ⟨b, o, e1, _, hcl⟩ := HB5.out.2 (by omega)
                  rw [e1]
                  exact count_named b o k ch hs k w5 kh (by rw [HKH.out, List.take_of_length_le]; have := Hhs.out; omega) (by omega) (Nat.le_refl _) (by have := Hhs.out; omega) hcl
              refine HC.mono ?_
              rintro e w' ⟨rfl, rfl⟩
              clear HC
              go_wp2
              go_ret
              exact ⟨rfl, HB5.out.1⟩

/-- The same where data is nil. -/
theorem ahead_nil (ha ta : Option Addr) (nh ch nt ct : Nat) (hs ts : List Int) (w : World) (hnh : nh ≤ 262144) (hnt : nt ≤ 262144) (hhs : hs.length = nh) (hts : ts.length = nt)
    (hbh : ∀ x ∈ hs, 0 ≤ x ∧ x < 256) (hbt : ∀ x ∈ ts, 0 ≤ x ∧ x < 256) (hH : Arg w ha nh hs) (hT : Arg w ta nt ts) :
    Calls Try.prog 4 #[.slice none 0 0, .int .i64 0, .slice ha nh ch, .slice ta nt ct] w fun e w' => e = .returned (.bool true) ∧ Below w.heap.size w w' := by
  obtain ⟨i0, hi, hz0, hz1, hz2⟩ := info_parts Try.info5
  have hnn := fun (w : World) => run_neq_slice_nil_any (P := Try.prog) w 22 5 none 0 0 0 0 Try.underlying22
  have hHh : Hid _ := hH
  have hTh : Hid _ := hT
  have Hhs : Hid _ := hhs
  have Hts : Hid _ := hts
  clear hH hT hhs hts
  go_enter Try.func4, Try.ntmps4
  go_wp2_with (go_at_call 9; refine (bytes9_ok _ _ _ _ _ _ _ _ _ _ _ (by omega)).mono ?_; rintro e w' ⟨rfl, rfl⟩)
  refine (zzposition_nil _).mono ?_
  rintro e w1 ⟨rfl, hB1⟩
  clear hnn
  go_wp2_with fail
  refine (count_nil _ _ _).mono ?_
  rintro e w' ⟨rfl, hw⟩
  obtain rfl := hw.symm
  clear hw
  go_wp2_with fail
  refine (start_nil _).mono ?_
  rintro e w' ⟨rfl, rfl⟩
  have hG : w.heap.size ≤ w1.heap.size := hB1.size
  go_wp2_with (at_make; refine wpList_make_own _ rfl _ _ 22 rfl w1.heap.size 5 i0 (.int .u8 0) 1 Try.underlying22 hi hz0 hz1 _ _ _ (nh + 1 + nt) rfl rfl (by omega) ?b2 ?b3 (Nat.le_refl _) ?_)
  case b2 => rw [hz2]; omega
  case b3 => unfold maxLen; omega
  intro w2 hown0 hgrow0
  have hJ : Jn w1.heap.size (nh + 1 + nt) w1 [] w2 := ⟨hown0, (Below.refl _ _).grown hgrow0 (Nat.le_refl _) (fun k h => by cases h), by have := (World.ownsRow.lt hown0 w1.heap.size rfl).2; exact this⟩
  have hH1 : Hid (Arg w1 ha nh hs) := Arg.below hHh.out (Nat.le_refl _) hB1
  have hT1 : Hid (Arg w1 ta nt ts) := Arg.below hTh.out (Nat.le_refl _) hB1
  have HJ : Hid _ := hJ
  clear hown0 hgrow0 hJ hHh hTh
  go_wp2
  go_loopw [13, 14] (fun v j wr => ∃ k : Nat, k ≤ nh ∧ j = .int .i64 k ∧ v = .slice (some ⟨w1.heap.size, 0, none⟩) k (nh + 1 + nt) ∧ Hid (Jn w1.heap.size (nh + 1 + nt) w1 (hs.take k) wr)) (fun _ j _ => nh - (intOf j).toNat)
  case atStart => exact ⟨0, Nat.zero_le _, rfl, rfl, HJ⟩
  case round =>
    obtain ⟨k, hk, rfl, rfl, HJr⟩ := hrel
    clear HJ
    by_cases hlt : k < nh
    · obtain ⟨b, o, rfl, hbl, hcl⟩ := hH1.out (by omega)
      have hcell : wr.cell? ⟨b, o + k, none⟩ = some (.int .u8 (hs.getD k 0)) := by rw [HJr.out.2.1.cell (p := ⟨b, o + k, none⟩) hbl]; exact hcl k hlt
      have hkl : (hs.take k).length = k := by have := Hhs.out; simp; omega
      have hown : wr.ownsRow w1.heap.size 5 1 (.slice (some ⟨w1.heap.size, 0, none⟩) k (nh + 1 + nt)) k (bcells (hs.take k)) := by have := HJr.out.1; rwa [hkl] at this
      have HS : Hid (hs.take (k + 1) = hs.take k ++ [hs.getD k 0]) := take_snoc hs k (by have := Hhs.out; omega)
      have Hkl : Hid ((hs.take k).length = k) := hkl
      clear hcl hkl
      generalize hs.getD k 0 = v at *
      generalize hs.take k = pre at *
      go_wp2_with (at_builtin; refine wpList_append_fits _ rfl (.tmp 89) (.tmp 94) 22 rfl w1.heap.size 5 i0 1 Try.underlying22 hi hz1 w1.heap.size k (nh + 1 + nt) _ rfl (hown.alloc _) ⟨wr.heap.size, 0, none⟩ 1 1 [.int .u8 v] rfl rfl ?c1 ?c2 ?c3 ?_)
      case c1 => intro t u ht; match t, ht with | 0, ht => simp at ht; subst ht; simp [Addr.add]
      case c2 => intro u hu; simp at hu; subst hu; rfl
      case c3 => omega
      intro w3 hown1 hgrow1
      have hJ3 : Hid (Jn w1.heap.size (nh + 1 + nt) w1 (pre ++ [v]) w3) := HJr.out.step Hkl.out hown1 hgrow1
      clear hown hown1 hgrow1 hcell
      go_wp2
      go_roundw
      case rel => exact ⟨k + 1, by omega, by go_num, rfl, by rw [HS.out]; exact hJ3⟩
      case measure => simp [intOf]; omega
    · obtain rfl : k = nh := by omega
      have hfull : hs.take k = hs := by rw [List.take_of_length_le]; have := Hhs.out; omega
      have HJ0 : Hid (Jn w1.heap.size (k + 1 + nt) w1 hs wr) := by rw [← hfull]; exact HJr
      have hown : wr.ownsRow w1.heap.size 5 1 (.slice (some ⟨w1.heap.size, 0, none⟩) k (k + 1 + nt)) k (bcells hs) := by have := HJ0.out.1; rwa [Hhs.out] at this
      clear HJr hfull
      go_wp2_with (at_builtin; refine wpList_append_fits _ rfl (.tmp 96) (.tmp 97) 22 rfl w1.heap.size 5 i0 1 Try.underlying22 hi hz1 w1.heap.size k (k + 1 + nt) _ rfl (hown.alloc _) ⟨wr.heap.size, 0, none⟩ 1 1 [.int .u8 10] rfl rfl ?d1 ?d2 ?d3 ?_)
      case d1 => intro t u ht; match t, ht with | 0, ht => simp at ht; subst ht; simp [Addr.add]
      case d2 => intro u hu; simp at hu; subst hu; rfl
      case d3 => omega
      intro w3 hown1 hgrow1
      have HJ3 : Hid (Jn w1.heap.size (k + 1 + nt) w1 (hs ++ [10]) w3) := HJ0.out.step Hhs.out hown1 hgrow1
      have Hh1 : Hid ((hs ++ [10]).length = k + 1) := by have := Hhs.out; show (hs ++ [10]).length = k + 1; simp [this]
      clear hown hown1 hgrow1 HJ0
      go_wp2
      refine wp_loop_rounds 1 ?_
      rw [rounds_succ]
      go_wp2
      go_loopw [13, 16] (fun v j wr => ∃ r : Nat, r ≤ nt ∧ j = .int .i64 r ∧ v = .slice (some ⟨w1.heap.size, 0, none⟩) (k + 1 + r) (k + 1 + nt) ∧ Hid (Jn w1.heap.size (k + 1 + nt) w1 (hs ++ [10] ++ ts.take r) wr)) (fun _ j _ => nt - (intOf j).toNat)
      case atStart => exact ⟨0, Nat.zero_le _, rfl, rfl, by rw [List.take_zero, List.append_nil]; exact HJ3⟩
      case round =>
        clear HJ3
        obtain ⟨r, hr', rfl, rfl, HJr⟩ := hrel
        by_cases hlt : r < nt
        · obtain ⟨b, o, rfl, hbl, hcl⟩ := hT1.out (by omega)
          have hcell : wr.cell? ⟨b, o + r, none⟩ = some (.int .u8 (ts.getD r 0)) := by rw [HJr.out.2.1.cell (p := ⟨b, o + r, none⟩) hbl]; exact hcl r hlt
          have hkl : (hs ++ [10] ++ ts.take r).length = k + 1 + r := by have := Hts.out; rw [List.length_append, Hh1.out]; simp; omega
          have hown : wr.ownsRow w1.heap.size 5 1 (.slice (some ⟨w1.heap.size, 0, none⟩) (k + 1 + r) (k + 1 + nt)) (k + 1 + r) (bcells (hs ++ [10] ++ ts.take r)) := by have := HJr.out.1; rwa [hkl] at this
          have HS : Hid (hs ++ [10] ++ ts.take (r + 1) = hs ++ [10] ++ ts.take r ++ [ts.getD r 0]) := join_snoc _ ts r (by have := Hts.out; omega)
          have Hkl : Hid ((hs ++ [10] ++ ts.take r).length = k + 1 + r) := hkl
          clear hcl hkl
          generalize ts.getD r 0 = v at *
          generalize hs ++ [10] ++ ts.take r = pre at *
          go_wp2_with (at_builtin; refine wpList_append_fits _ rfl (.tmp 118) (.tmp 123) 22 rfl w1.heap.size 5 i0 1 Try.underlying22 hi hz1 w1.heap.size (k + 1 + r) (k + 1 + nt) _ rfl (hown.alloc _) ⟨wr.heap.size, 0, none⟩ 1 1 [.int .u8 v] rfl rfl ?f1 ?f2 ?f3 ?_)
          case f1 => intro t u ht; match t, ht with | 0, ht => simp at ht; subst ht; simp [Addr.add]
          case f2 => intro u hu; simp at hu; subst hu; rfl
          case f3 => omega
          intro w3 hown1 hgrow1
          have hJ3 : Hid (Jn w1.heap.size (k + 1 + nt) w1 (pre ++ [v]) w3) := HJr.out.step Hkl.out hown1 hgrow1
          clear hown hown1 hgrow1 hcell
          go_wp2
          go_roundw
          case rel => exact ⟨r + 1, by omega, by go_num, rfl, by rw [HS.out]; exact hJ3⟩
          case measure => simp [intOf]; omega
        · obtain rfl : r = nt := by omega
          have hfull : ts.take r = ts := by rw [List.take_of_length_le]; have := Hts.out; omega
          have HJ5 : Hid (Jn w1.heap.size (k + 1 + r) w1 (hs ++ [10] ++ ts) wr) := by rw [hfull] at HJr; exact HJr
          have Hh3 : Hid ((hs ++ [10] ++ ts).length = k + 1 + r) := by show _ = _; rw [List.length_append, Hh1.out, Hts.out]
          have hrow5 : ∀ j, j < k + 1 + r → wr.cell? ⟨w1.heap.size, 0 + j, none⟩ = some (.int .u8 ((hs ++ [10] ++ ts).getD j 0)) := fun j hj => HJ5.out.cell j (by rw [Hh3.out]; exact hj)
          have hb5 : ∀ y ∈ hs ++ [10] ++ ts, 0 ≤ y ∧ y < 256 := by
            intro y hy
            simp only [List.mem_append, List.mem_singleton] at hy
            rcases hy with (hy | hy) | hy
            · exact hbh y hy
            · subst hy; omega
            · exact hbt y hy
          have hT : (hs ++ [10] ++ ts).take (k + 1) = hs ++ [10] := by have := joined_take hs [] ts 0 (by simp); rw [Hhs.out] at this; simpa using this
          obtain ⟨kh, hkh⟩ : ∃ kh, kh = cnt hs := ⟨_, rfl⟩
          have bkh : kh ≤ k := by have := cnt_le hs; rw [hkh]; have := Hhs.out; omega
          have HKH : Hid (kh = cnt hs) := hkh
          have hl2 : 1 + (kh : Int) + 1 = lineOf ((hs ++ [10] ++ ts).take (k + 1)) := by rw [hT]; have := line_ahead hs []; rw [List.append_nil, ← hkh] at this; rw [this]; rfl
          have hq2 : 1 = colOf ((hs ++ [10] ++ ts).take (k + 1)) := by rw [hT]; have := col_ahead hs []; rw [List.append_nil] at this; rw [this]; rfl
          have P := fun z hz => pos_int w1.heap.size 0 (k + 1 + r) (k + 1 + r) (k + 1) z hz (hs ++ [10] ++ ts) wr (1 + (kh : Int) + 1) 1 hl2 hq2 (by omega) (Nat.le_refl _) (by omega) (by rw [Hh3.out]; exact Nat.le_refl _) hb5 hrow5
          have HP : Hid _ := P
          have hbw : Hid (Below w.heap.size w wr ∧ Arg wr ha k hs) := ⟨hB1.trans (HJ5.out.2.1.mono hG), Arg.below hH1.out (Nat.le_refl _) HJ5.out.2.1⟩
          clear P hl2 hq2 hkh hT hb5 hrow5 HJr HJ5 hfull
          go_wp2_with fail
          refine (HP.out _ (by omega)).mono ?_
          rintro e w5 ⟨rfl, hb5⟩
          have HB5 : Hid (Below w.heap.size w w5 ∧ Arg w5 ha k hs) := ⟨hbw.out.1.trans (hb5.mono hbw.out.1.size), Arg.below hbw.out.2 (Nat.le_refl _) hb5⟩
          clear hbw hb5 HP
          go_wp2_with fail
          have HC : Calls Try.prog 10 #[.slice ha k ch, .int .i64 0, .int .i64 k] w5 fun e w' => e = .returned (.int .i64 kh) ∧ w5 = w' := by
            by_cases hk0 : k = 0
            · have e0 : kh = 0 := by omega
              rw [e0, hk0]
              exact (count_nil ha ch w5).mono fun e w' h => ⟨h.1, h.2.symm⟩
            · obtain ⟨b, o, e1, _, hcl⟩ := HB5.out.2 (by omega)
              rw [e1]
              exact count_named b o k ch hs k w5 kh (by rw [HKH.out, List.take_of_length_le]; have := Hhs.out; omega) (by omega) (Nat.le_refl _) (by have := Hhs.out; omega) hcl
          refine HC.mono ?_
          rintro e w' ⟨rfl, rfl⟩
          clear HC
          go_wp2
          go_ret
          exact ⟨rfl, HB5.out.1⟩
end Go.Proofs.Qxb6609011a
