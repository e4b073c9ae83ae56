/-
  THE WALKS of bytes.Cut at one zero byte, (*definitions).at, key.
-/
import Derived.Test.Qxb6614898aDoorBase
namespace Go.Proofs.Qxb6614898aDoor
open Go.RowKit
set_option linter.unusedVariables false
set_option maxHeartbeats 4000000
set_option maxRecDepth 1000000

/-- The place of the first zero byte (the length where there is none). -/
def zAt (zs : List Int) : Nat := zs.findIdx (· == 0)
theorem u8_eq0 (x : Int) (h0 : 0 ≤ x) (h1 : x < 256) : (UInt8.ofNat x.toNat == (0 : Int).toNat.toUInt8) = (x == 0) := by
  rw [Bool.eq_iff_iff]
  simp only [beq_iff_eq]
  constructor
  · intro h
    have := congrArg UInt8.toNat h
    simp at this
    omega
  · intro h; rw [h]
theorem idx0 (zs : List Int) (hb : ∀ x ∈ zs, 0 ≤ x ∧ x < 256) : Lib.indexByte (Lib.bytesOf zs) (0 : Int).toNat.toUInt8 = if zAt zs < zs.length then (zAt zs : Int) else -1 := by
  unfold zAt
  induction zs with
  | nil => rfl
  | cons x r ih =>
    have ih := ih (fun y hy => hb y (by simp [hy]))
    have hx := hb x (by simp)
    have e : Lib.bytesOf (x :: r) = UInt8.ofNat x.toNat :: Lib.bytesOf r := rfl
    rw [e, Lib.indexByte, u8_eq0 x hx.1 hx.2, List.findIdx_cons, ih]
    cases hb : (x == 0) with
    | true => simp
    | false =>
      simp only [cond_false, List.length_cons]
      have := List.findIdx_le_length (p := (· == (0 : Int))) (xs := r)
      by_cases h : r.findIdx (· == (0 : Int)) < r.length
      · have h1 : (((r.findIdx (· == (0 : Int)) : Nat) : Int) == -1) = false := by rw [beq_eq_false_iff_ne]; omega
        simp only [if_pos h, h1, if_pos (show r.findIdx (· == (0 : Int)) + 1 < r.length + 1 by omega)]
        simp
      · have h2 : ¬ r.findIdx (· == (0 : Int)) + 1 < r.length + 1 := by omega
        simp only [if_neg h, if_neg h2]
        simp

/-- bytes.IndexByte at a zero byte. -/
theorem ib_some (b o n c : Nat) (zs : List Int) (w : World) (hz : zs.length = n) (hb : ∀ x ∈ zs, 0 ≤ x ∧ x < 256) (hc : ∀ i, i < n → w.cell? ⟨b, o + i, none⟩ = some (.int .u8 (zs.getD i 0))) (v : Int) (hv : v = if zAt zs < n then (zAt zs : Int) else -1) :
    Calls Tryd.prog 30 #[.slice (some ⟨b, o, none⟩) n c, .int .u8 0] w fun e w' => e = .returned (.int .i64 v) ∧ w = w' := by
  have he := idx0 zs hb
  rw [hz, ← hv] at he
  clear hv
  go_enter Tryd.func30, Tryd.ntmps30
  go_wp2
  rw [run_callFunc_extern Tryd.func36 (by kernel_rfl) (by kernel_rfl) (by kernel_rfl) (e := Extern.BytealgIndexByte.indexByte) (by kernel_rfl), Lib.run_indexByteSlice w b o n c zs hz hc 0, he]
  simp only [Result.andThen]
  rw [Oper.upon_value]
  clear he
  go_wp2
  go_ret
  exact ⟨rfl, rfl⟩
theorem ib_nil (w : World) :
    Calls Tryd.prog 30 #[.slice none 0 0, .int .u8 0] w fun e w' => e = .returned (.int .i64 (-1)) ∧ w = w' := by
  go_enter Tryd.func30, Tryd.ntmps30
  go_wp2
  rw [run_callFunc_extern Tryd.func36 (by kernel_rfl) (by kernel_rfl) (by kernel_rfl) (e := Extern.BytealgIndexByte.indexByte) (by kernel_rfl), Lib.run_indexByteNil w 0 0 0]
  simp only [Result.andThen]
  rw [Oper.upon_value]
  go_wp2
  go_ret
  exact ⟨rfl, rfl⟩
/-- bytes.Index at a separator that is one zero byte. -/
theorem index_some (b o n c z zo zc : Nat) (zs : List Int) (w : World) (hz : zs.length = n) (hb : ∀ x ∈ zs, 0 ≤ x ∧ x < 256) (hc : ∀ i, i < n → w.cell? ⟨b, o + i, none⟩ = some (.int .u8 (zs.getD i 0))) (v : Int) (hv : v = if zAt zs < n then (zAt zs : Int) else -1)
    (hzc : w.cell? ⟨z, zo, none⟩ = some (.int .u8 0)) :
    Calls Tryd.prog 27 #[.slice (some ⟨b, o, none⟩) n c, .slice (some ⟨z, zo, none⟩) 1 zc] w fun e w' => e = .returned (.int .i64 v) ∧ w = w' := by
  have HC : Hid _ := ib_some b o n c zs w hz hb hc v hv
  clear hv hc hb hz
  go_enter Tryd.func27, Tryd.ntmps27
  go_wp2_with (go_at_call 30; refine (Calls.mono HC.out ?_); rintro e w' ⟨rfl, rfl⟩)
  go_ret
  exact ⟨rfl, rfl⟩
theorem index_nil (z zo zc : Nat) (w : World) (hzc : w.cell? ⟨z, zo, none⟩ = some (.int .u8 0)) :
    Calls Tryd.prog 27 #[.slice none 0 0, .slice (some ⟨z, zo, none⟩) 1 zc] w fun e w' => e = .returned (.int .i64 (-1)) ∧ w = w' := by
  go_enter Tryd.func27, Tryd.ntmps27
  go_wp2_with (go_at_call 30; refine (ib_nil _).mono ?_; rintro e w' ⟨rfl, rfl⟩)
  go_ret
  exact ⟨rfl, rfl⟩

/-- The slice behind the separator, as the cut lays it. -/
def afterV (b o n c i : Nat) : Value := if c = i + 1 then .slice (some ⟨b, o, none⟩) 0 0 else .slice (some ⟨b, o + (i + 1), none⟩) (n - (i + 1)) (c - (i + 1))
/-- bytes.Cut at one zero byte that is there. -/
theorem cut_yes (b o n c z zo zc : Nat) (zs : List Int) (w : World) (hn : n ≤ 2097152) (hnc : n ≤ c) (hcm : c ≤ 4194304) (hz : zs.length = n) (hb : ∀ x ∈ zs, 0 ≤ x ∧ x < 256) (hc : ∀ i, i < n → w.cell? ⟨b, o + i, none⟩ = some (.int .u8 (zs.getD i 0)))
    (hzc : w.cell? ⟨z, zo, none⟩ = some (.int .u8 0)) (hi : zAt zs < n) :
    Calls Tryd.prog 25 #[.slice (some ⟨b, o, none⟩) n c, .slice (some ⟨z, zo, none⟩) 1 zc] w fun e w' => e = .returned (.tuple #[.slice (some ⟨b, o, none⟩) (zAt zs) c, afterV b o n c (zAt zs), .bool true]) ∧ ∃ m, w' = w.drewN m := by
  have HC : Hid _ := index_some b o n c z zo zc zs w hz hb hc (zAt zs) (if_pos hi).symm hzc
  clear hb hc
  generalize zAt zs = i at *
  clear hz
  unfold afterV
  by_cases hci : c = i + 1
  · rw [if_pos hci]
    obtain rfl : n = i + 1 := by omega
    subst hci
    go_enter Tryd.func25, Tryd.ntmps25
    go_wp2_with (go_at_call 27; refine (Calls.mono HC.out ?_); rintro e w' ⟨rfl, rfl⟩)
    go_quiet (fail)
    go_wp2
    go_ret3
    exact ⟨rfl, _, rfl⟩
  · rw [if_neg hci]
    go_enter Tryd.func25, Tryd.ntmps25
    go_wp2_with (go_at_call 27; refine (Calls.mono HC.out ?_); rintro e w' ⟨rfl, rfl⟩)
    go_quiet (fail)
    go_wp2
    go_ret3
    exact ⟨rfl, _, rfl⟩
theorem cut_no (b o n c z zo zc : Nat) (zs : List Int) (w : World) (hz : zs.length = n) (hb : ∀ x ∈ zs, 0 ≤ x ∧ x < 256) (hc : ∀ i, i < n → w.cell? ⟨b, o + i, none⟩ = some (.int .u8 (zs.getD i 0)))
    (hzc : w.cell? ⟨z, zo, none⟩ = some (.int .u8 0)) (hi : ¬ zAt zs < n) :
    Calls Tryd.prog 25 #[.slice (some ⟨b, o, none⟩) n c, .slice (some ⟨z, zo, none⟩) 1 zc] w fun e w' => e = .returned (.tuple #[.slice (some ⟨b, o, none⟩) n c, .slice none 0 0, .bool false]) ∧ ∃ m, w' = w.drewN m := by
  have HC : Hid _ := index_some b o n c z zo zc zs w hz hb hc (-1) (if_neg hi).symm hzc
  clear hb hc hz
  go_enter Tryd.func25, Tryd.ntmps25
  go_wp2_with (go_at_call 27; refine (Calls.mono HC.out ?_); rintro e w' ⟨rfl, rfl⟩)
  go_ret3
  exact ⟨rfl, 0, rfl⟩
theorem cut_nil (z zo zc : Nat) (w : World) (hzc : w.cell? ⟨z, zo, none⟩ = some (.int .u8 0)) :
    Calls Tryd.prog 25 #[.slice none 0 0, .slice (some ⟨z, zo, none⟩) 1 zc] w fun e w' => e = .returned (.tuple #[.slice none 0 0, .slice none 0 0, .bool false]) ∧ ∃ m, w' = w.drewN m := by
  go_enter Tryd.func25, Tryd.ntmps25
  go_wp2_with (go_at_call 27; refine (index_nil _ _ _ _ hzc).mono ?_; rintro e w' ⟨rfl, rfl⟩)
  go_ret3
  exact ⟨rfl, 0, rfl⟩

theorem quiet_of {f : FuncId} {args : Array Value} {w : World} {n : Nat} {v : Value} (h : Calls Tryd.prog f args (w.drewN n) fun e w' => e = .returned v ∧ ∃ m, w' = (w.drewN n).drewN m) : Calls Tryd.prog f args (w.drewN n) fun e w'' => e = .returned v ∧ ∃ m, w'' = w.drewN m :=
  h.mono fun _ _ ⟨he, m, hm⟩ => ⟨he, n + m, by rw [hm]; simp⟩

/-- THE DEFINITIONS IN BLOCK bd: their text and their ends. -/
structure Defs (w : World) (bd : Nat) (tv ev : Value) (z zo zc : Nat) : Prop where
  text : w.cell? ⟨bd, 0, none⟩ = some tv
  ends : w.cell? ⟨bd, 1, none⟩ = some ev
  zero : w.cell? ⟨0, 0, none⟩ = some (.slice (some ⟨z, zo, none⟩) 1 zc)
  byte : w.cell? ⟨z, zo, none⟩ = some (.int .u8 0)

theorem at_mid (bd tb tn tc eb en ec z zo zc i s e : Nat) (w : World) (hD : Defs w bd (.slice (some ⟨tb, 0, none⟩) tn tc) (.slice (some ⟨eb, 0, none⟩) en ec) z zo zc)
    (hi : i < en) (hen : en ≤ 2097152) (hse : s ≤ e) (het : e ≤ tn) (htc : tn ≤ tc) (hcm : tc ≤ 4194304) (hs0 : 0 < i → w.cell? ⟨eb, i - 1, none⟩ = some (.int .i64 s)) (hs1 : i = 0 → s = 0) (he : w.cell? ⟨eb, i, none⟩ = some (.int .i64 e))
    (hst : s < tc) (v1 v2 : Value) (b3 : Bool) (hC : ∀ n, Calls Tryd.prog 25 #[.slice (some ⟨tb, s, none⟩) (e - s) (tc - s), .slice (some ⟨z, zo, none⟩) 1 zc] (w.drewN n) fun e w' => e = .returned (.tuple #[v1, v2, .bool b3]) ∧ ∃ m, w' = (w.drewN n).drewN m) :
    Calls Tryd.prog 22 #[.pointer (some ⟨bd, 0, none⟩), .int .i64 i] w fun e w' => e = .returned (.tuple #[v1, v2]) ∧ ∃ m, w' = w.drewN m := by
  obtain ⟨hd0, hd1, hg, hzc⟩ := hD
  have HC : Hid _ := hC
  clear hC
  have h0i : (0 : Int) ≤ i := by omega
  have hii : (i : Int) < (en : Int) := by omega
  by_cases h0 : 0 < i
  · have hs0 := hs0 h0
    clear hs1
    go_enter Tryd.func22, Tryd.ntmps22
    go_wp2
    go_quiet ((go_at_call 25; exact quiet_of (HC.out _)))
    go_wp2
    go_ret2
    exact ⟨rfl, _, rfl⟩
  · obtain rfl : i = 0 := by omega
    obtain rfl : s = 0 := hs1 rfl
    clear hs0 hs1
    go_enter Tryd.func22, Tryd.ntmps22
    go_wp2
    go_quiet ((go_at_call 25; exact quiet_of (HC.out _)))
    go_wp2
    go_ret2
    exact ⟨rfl, _, rfl⟩

theorem at_end (bd tb tn tc eb en ec z zo zc i s e : Nat) (w : World) (hD : Defs w bd (.slice (some ⟨tb, 0, none⟩) tn tc) (.slice (some ⟨eb, 0, none⟩) en ec) z zo zc)
    (hi : i < en) (hen : en ≤ 2097152) (hse : s ≤ e) (het : e ≤ tn) (htc : tn ≤ tc) (hcm : tc ≤ 4194304) (hs0 : 0 < i → w.cell? ⟨eb, i - 1, none⟩ = some (.int .i64 s)) (hs1 : i = 0 → s = 0) (he : w.cell? ⟨eb, i, none⟩ = some (.int .i64 e))
    (hst : s = tc) (v1 v2 : Value) (b3 : Bool) (hC : ∀ n, Calls Tryd.prog 25 #[.slice (some ⟨tb, 0, none⟩) 0 0, .slice (some ⟨z, zo, none⟩) 1 zc] (w.drewN n) fun e w' => e = .returned (.tuple #[v1, v2, .bool b3]) ∧ ∃ m, w' = (w.drewN n).drewN m) :
    Calls Tryd.prog 22 #[.pointer (some ⟨bd, 0, none⟩), .int .i64 i] w fun e w' => e = .returned (.tuple #[v1, v2]) ∧ ∃ m, w' = w.drewN m := by
  obtain ⟨hd0, hd1, hg, hzc⟩ := hD
  have HC : Hid _ := hC
  clear hC
  have h0i : (0 : Int) ≤ i := by omega
  have hii : (i : Int) < (en : Int) := by omega
  obtain rfl : e = tn := by omega
  obtain rfl : s = e := by omega
  obtain rfl : s = tc := hst
  by_cases h0 : 0 < i
  · have hs0 := hs0 h0
    clear hs1
    go_enter Tryd.func22, Tryd.ntmps22
    go_wp2
    go_quiet ((go_at_call 25; exact quiet_of (HC.out _)))
    go_wp2
    go_ret2
    exact ⟨rfl, _, rfl⟩
  · obtain rfl : i = 0 := by omega
    obtain rfl : s = 0 := hs1 rfl
    clear hs0 hs1
    go_enter Tryd.func22, Tryd.ntmps22
    go_wp2
    go_quiet ((go_at_call 25; exact quiet_of (HC.out _)))
    go_wp2
    go_ret2
    exact ⟨rfl, _, rfl⟩

theorem at_nil (bd tb tn tc eb en ec z zo zc i s e : Nat) (w : World) (hD : Defs w bd (.slice none 0 0) (.slice (some ⟨eb, 0, none⟩) en ec) z zo zc)
    (hi : i < en) (hen : en ≤ 2097152) (hse : s ≤ e) (het : e ≤ tn) (htc : tn ≤ tc) (hcm : tc ≤ 4194304) (hs0 : 0 < i → w.cell? ⟨eb, i - 1, none⟩ = some (.int .i64 s)) (hs1 : i = 0 → s = 0) (he : w.cell? ⟨eb, i, none⟩ = some (.int .i64 e))
    (hst : tc = 0) (v1 v2 : Value) (b3 : Bool) (hC : ∀ n, Calls Tryd.prog 25 #[.slice none 0 0, .slice (some ⟨z, zo, none⟩) 1 zc] (w.drewN n) fun e w' => e = .returned (.tuple #[v1, v2, .bool b3]) ∧ ∃ m, w' = (w.drewN n).drewN m) :
    Calls Tryd.prog 22 #[.pointer (some ⟨bd, 0, none⟩), .int .i64 i] w fun e w' => e = .returned (.tuple #[v1, v2]) ∧ ∃ m, w' = w.drewN m := by
  obtain ⟨hd0, hd1, hg, hzc⟩ := hD
  have HC : Hid _ := hC
  clear hC
  have h0i : (0 : Int) ≤ i := by omega
  have hii : (i : Int) < (en : Int) := by omega
  obtain rfl : tc = 0 := hst
  obtain rfl : tn = 0 := by omega
  obtain rfl : e = 0 := by omega
  obtain rfl : s = 0 := by omega
  by_cases h0 : 0 < i
  · have hs0 := hs0 h0
    clear hs1
    go_enter Tryd.func22, Tryd.ntmps22
    go_wp2
    go_quiet ((go_at_call 25; exact quiet_of (HC.out _)))
    go_wp2
    go_ret2
    exact ⟨rfl, _, rfl⟩
  · obtain rfl : i = 0 := by omega
    clear hs0 hs1
    go_enter Tryd.func22, Tryd.ntmps22
    go_wp2
    go_quiet ((go_at_call 25; exact quiet_of (HC.out _)))
    go_wp2
    go_ret2
    exact ⟨rfl, _, rfl⟩

/-- A text of bytes in a row of its own (or nil). -/
def Tx (w : World) (ta : Option Addr) (tn tc : Nat) (ts : List Int) : Prop :=
  ts.length = tn ∧ tn ≤ tc ∧ tc ≤ 2097152 ∧ (∀ x ∈ ts, 0 ≤ x ∧ x < 256) ∧ ((ta = none ∧ tc = 0) ∨ ∃ tb, ta = some ⟨tb, 0, none⟩ ∧ tb < w.heap.size ∧ ∀ i, i < tn → w.cell? ⟨tb, i, none⟩ = some (.int .u8 (ts.getD i 0)))
def idOf (l : List Int) : List Int := l.take (zAt l)
def elOf (l : List Int) : List Int := l.drop (zAt l + 1)
theorem zAt_le (l : List Int) : zAt l ≤ l.length := List.findIdx_le_length

theorem at_any (bd tn tc eb en ec z zo zc i s e : Nat) (ta : Option Addr) (ts : List Int) (w : World) (hT : Tx w ta tn tc ts) (hD : Defs w bd (.slice ta tn tc) (.slice (some ⟨eb, 0, none⟩) en ec) z zo zc)
    (hi : i < en) (hen : en ≤ 2097152) (hse : s ≤ e) (het : e ≤ tn) (hs0 : 0 < i → w.cell? ⟨eb, i - 1, none⟩ = some (.int .i64 s)) (hs1 : i = 0 → s = 0) (he : w.cell? ⟨eb, i, none⟩ = some (.int .i64 e)) :
    ∃ a1 n1 c1 a2 n2 c2, Sl .u8 w a1 n1 (idOf ((ts.take e).drop s)) ∧ Sl .u8 w a2 n2 (elOf ((ts.take e).drop s)) ∧ n1 ≤ 2097152 ∧ n2 ≤ 2097152 ∧
      Calls Tryd.prog 22 #[.pointer (some ⟨bd, 0, none⟩), .int .i64 i] w fun r w' => r = .returned (.tuple #[.slice a1 n1 c1, .slice a2 n2 c2]) ∧ ∃ m, w' = w.drewN m := by
  obtain ⟨hl, hnc, hcm, hb, hcase⟩ := hT
  obtain ⟨sub, hsub⟩ : ∃ sub, (ts.take e).drop s = sub := ⟨_, rfl⟩
  have hsl : sub.length = e - s := by rw [← hsub]; simp; omega
  have hsb : ∀ x ∈ sub, 0 ≤ x ∧ x < 256 := fun x hx => hb x (List.mem_of_mem_take (List.mem_of_mem_drop (by rw [hsub]; exact hx)))
  have hsg : ∀ j, j < e - s → sub.getD j 0 = ts.getD (s + j) 0 := by
    intro j hj
    rw [← hsub]
    simp only [List.getD_eq_getElem?_getD, List.getElem?_drop, List.getElem?_take]
    rw [if_pos (by omega)]
  rw [hsub]
  rcases hcase with ⟨rfl, hc0⟩ | ⟨tb, rfl, htb, hcell⟩
  · have h0 : sub = [] := List.eq_nil_of_length_eq_zero (by omega)
    subst h0
    obtain rfl : tc = 0 := hc0
    obtain rfl : tn = 0 := by omega
    refine ⟨none, 0, 0, none, 0, 0, Sl.nil _ _ _, Sl.nil _ _ _, by omega, by omega, ?_⟩
    exact at_nil bd 0 0 0 eb en ec z zo zc i s e w hD hi hen hse het (by omega) (by omega) hs0 hs1 he rfl _ _ false (fun n => cut_nil z zo zc _ hD.byte)
  · by_cases hst : s < tc
    · have hcs : ∀ n j, j < e - s → (w.drewN n).cell? ⟨tb, s + j, none⟩ = some (.int .u8 (sub.getD j 0)) := fun n j hj => by
        rw [hsg j hj]
        exact hcell (s + j) (by omega)
      have hz := zAt_le sub
      by_cases hzi : zAt sub < e - s
      · have hsl2 : Sl .u8 w (some ⟨tb, s, none⟩) (zAt sub) (idOf sub) := by
          refine ⟨by unfold idOf; simp; omega, fun _ => ⟨tb, s, rfl, htb, fun j hj => ?_⟩⟩
          have : (idOf sub).getD j 0 = sub.getD j 0 := by unfold idOf; simp [List.getD, hj]
          rw [this]
          exact hcs 0 j (by omega)
        by_cases hci : tc - s = zAt sub + 1
        · refine ⟨_, _, tc - s, some ⟨tb, s, none⟩, 0, 0, hsl2, ?_, by omega, by omega, ?_⟩
          · have : elOf sub = [] := by unfold elOf; rw [List.drop_eq_nil_of_le]; omega
            rw [this]
            exact Sl.nil _ _ _
          · refine at_mid bd tb tn tc eb en ec z zo zc i s e w hD hi hen hse het hnc (by omega) hs0 hs1 he hst _ _ true (fun n => ?_)
            have := cut_yes tb s (e - s) (tc - s) z zo zc sub (w.drewN n) (by omega) (by omega) (by omega) hsl hsb (hcs n) hD.byte hzi
            unfold afterV at this
            rw [if_pos hci] at this
            exact this
        · refine ⟨_, _, tc - s, some ⟨tb, s + (zAt sub + 1), none⟩, e - s - (zAt sub + 1), tc - s - (zAt sub + 1), hsl2, ?_, by omega, by omega, ?_⟩
          · refine ⟨by unfold elOf; simp; omega, fun _ => ⟨tb, _, rfl, htb, fun j hj => ?_⟩⟩
            have : (elOf sub).getD j 0 = sub.getD (zAt sub + 1 + j) 0 := by unfold elOf; simp [List.getD]
            rw [this, Nat.add_assoc]
            exact hcs 0 (zAt sub + 1 + j) (by omega)
          · refine at_mid bd tb tn tc eb en ec z zo zc i s e w hD hi hen hse het hnc (by omega) hs0 hs1 he hst _ _ true (fun n => ?_)
            have := cut_yes tb s (e - s) (tc - s) z zo zc sub (w.drewN n) (by omega) (by omega) (by omega) hsl hsb (hcs n) hD.byte hzi
            unfold afterV at this
            rw [if_neg hci] at this
            exact this
      · refine ⟨some ⟨tb, s, none⟩, e - s, tc - s, none, 0, 0, ?_, ?_, by omega, by omega, ?_⟩
        · have : idOf sub = sub := by unfold idOf; rw [List.take_of_length_le]; omega
          rw [this]
          exact ⟨hsl, fun _ => ⟨tb, s, rfl, htb, hcs 0⟩⟩
        · have : elOf sub = [] := by unfold elOf; rw [List.drop_eq_nil_of_le]; omega
          rw [this]
          exact Sl.nil _ _ _
        · exact at_mid bd tb tn tc eb en ec z zo zc i s e w hD hi hen hse het hnc (by omega) hs0 hs1 he hst _ _ false (fun n => cut_no tb s (e - s) (tc - s) z zo zc sub (w.drewN n) hsl hsb (hcs n) hD.byte hzi)
    · have h0 : sub = [] := List.eq_nil_of_length_eq_zero (by omega)
      subst h0
      refine ⟨some ⟨tb, 0, none⟩, 0, 0, none, 0, 0, Sl.nil _ _ _, Sl.nil _ _ _, by omega, by omega, ?_⟩
      exact at_end bd tb tn tc eb en ec z zo zc i s e w hD hi hen hse het hnc (by omega) hs0 hs1 he (by omega) _ _ false (fun n => cut_no tb 0 0 0 z zo zc [] (w.drewN n) rfl (by simp) (fun j hj => by omega) hD.byte (by omega))

/-- key, ZZDefinitionsKey, ZZDefinitionsAt, out of 'at'. -/
theorem key_of {bd i : Nat} {w : World} {v1 v2 : Value} (h : Calls Tryd.prog 22 #[.pointer (some ⟨bd, 0, none⟩), .int .i64 i] w fun r w' => r = .returned (.tuple #[v1, v2]) ∧ ∃ m, w' = w.drewN m) :
    Calls Tryd.prog 11 #[.pointer (some ⟨bd, 0, none⟩), .int .i64 i] w fun r w' => r = .returned v1 ∧ ∃ m, w' = w.drewN m := by
  have H : Hid _ := h
  clear h
  have h21 : Calls Tryd.prog 21 #[.pointer (some ⟨bd, 0, none⟩), .int .i64 i] w fun r w' => r = .returned v1 ∧ ∃ m, w' = w.drewN m := by
    go_enter Tryd.func21, Tryd.ntmps21
    go_wp2_with fail
    refine (Calls.mono H.out ?_)
    rintro e w' ⟨rfl, m, rfl⟩
    go_wp2
    go_ret
    exact ⟨rfl, m, rfl⟩
  have H21 : Hid _ := h21
  clear h21 H
  go_enter Tryd.func11, Tryd.ntmps11
  go_wp2_with fail
  refine (Calls.mono H21.out ?_)
  rintro e w' ⟨rfl, m, rfl⟩
  go_wp2
  go_ret
  exact ⟨rfl, m, rfl⟩
theorem defat_of {bd i : Nat} {w : World} {v1 v2 : Value} (h : Calls Tryd.prog 22 #[.pointer (some ⟨bd, 0, none⟩), .int .i64 i] w fun r w' => r = .returned (.tuple #[v1, v2]) ∧ ∃ m, w' = w.drewN m) :
    Calls Tryd.prog 12 #[.pointer (some ⟨bd, 0, none⟩), .int .i64 i] w fun r w' => r = .returned (.tuple #[v1, v2]) ∧ ∃ m, w' = w.drewN m := by
  have H : Hid _ := h
  clear h
  go_enter Tryd.func12, Tryd.ntmps12
  go_wp2_with fail
  refine (Calls.mono H.out ?_)
  rintro e w' ⟨rfl, m, rfl⟩
  go_wp2
  go_ret2
  exact ⟨rfl, m, rfl⟩
end Go.Proofs.Qxb6614898aDoor
