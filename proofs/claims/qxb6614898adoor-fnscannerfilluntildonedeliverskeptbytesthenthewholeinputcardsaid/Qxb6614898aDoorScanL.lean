/-
  FnScannerFillMatchesClosedForm: THE WALK.
-/
import Derived.Test.Qxb6614898aDoorScanC
import Derived.Test.Qxb6614898aDoorScanE
namespace Go.Proofs.Qxb6614898aDoor
open Go.RowKit Go.Joins
set_option linter.unusedVariables false
set_option maxHeartbeats 8000000
set_option maxRecDepth 1000000

/-- ZZScannerFill. -/
theorem zfill_done (W : World) (bs br : Nat) (ba : Option Addr) (bn : Nat) (B : List Int) (da : Option Addr) (dn : Nat) (D : List Int) (pos en lines : Int) (ri : Int) (h : Sn W bs br ba bn B da dn D pos en lines true ri) :
    Calls Tryd.prog 16 #[.pointer (some ⟨bs, 0, none⟩)] W fun e w' => e = .returned (.bool false) ∧ W = w' := by
  have HC : Hid _ := fill_done W bs br ba bn B da dn D pos en lines ri h
  clear h
  go_enter Tryd.func16, Tryd.ntmps16
  go_wp2_with (go_at_call 24; refine (Calls.mono HC.out ?_); rintro e w' ⟨rfl, rfl⟩)
  go_ret
  exact ⟨rfl, rfl⟩
theorem zfill_of {W : World} {bs : Nat} {b : Bool} {Q : World → Prop} (h : Calls Tryd.prog 24 #[.pointer (some ⟨bs, 0, none⟩)] W fun e w' => e = .returned (.bool b) ∧ Q w') :
    Calls Tryd.prog 16 #[.pointer (some ⟨bs, 0, none⟩)] W fun e w' => e = .returned (.bool b) ∧ Q w' := by
  have HC : Hid _ := h
  clear h
  cases b <;> (
  go_enter Tryd.func16, Tryd.ntmps16
  go_wp2_with (go_at_call 24; refine (Calls.mono HC.out ?_); rintro e w' ⟨rfl, hq⟩)
  go_ret
  exact ⟨rfl, hq⟩)

theorem b13_ok (a0 a1 : Option Addr) (n0 c0 n1 c1 : Nat) (pos en lines : Int) (eof : Bool) (w : World) (hs : n0 + n1 ≤ 1048576) :
    Calls Tryd.prog 13 #[.slice a0 n0 c0, .int .i64 pos, .int .i64 en, .int .i64 lines, .bool eof, .slice a1 n1 c1] w fun e w' => e = .returned (.bool true) ∧ w = w' := by
  go_enter Tryd.func13, Tryd.ntmps13
  go_wp2
  go_ret
  exact ⟨rfl, rfl⟩
theorem b13_no (a0 a1 : Option Addr) (n0 c0 n1 c1 : Nat) (pos en lines : Int) (eof : Bool) (w : World) (h0 : n0 ≤ maxLen) (h1 : n1 ≤ maxLen) (hs : 1048576 < n0 + n1) :
    Calls Tryd.prog 13 #[.slice a0 n0 c0, .int .i64 pos, .int .i64 en, .int .i64 lines, .bool eof, .slice a1 n1 c1] w fun e w' => e = .returned (.bool false) ∧ w = w' := by
  unfold maxLen at h0 h1
  rcases (show 1048576 < n0 ∨ (n0 ≤ 1048576 ∧ 1048576 < n1) ∨ (n0 ≤ 1048576 ∧ n1 ≤ 1048576 ∧ 1048576 < n0 + n1) by omega) with g1 | ⟨g1, g2⟩ | ⟨g1, g2, g3⟩
  all_goals
    go_enter Tryd.func13, Tryd.ntmps13
    go_wp2
    go_ret
    exact ⟨rfl, rfl⟩
section
variable (a0 a1 : Option Addr) (n0 c0 n1 c1 : Nat) (pos en lines : Int) (eof : Bool) (w : World)
theorem cf_long (h0 : n0 ≤ maxLen) (h1 : n1 ≤ maxLen) (hs : 1048576 < n0 + n1) :
    Calls Tryd.prog 4 #[.slice a0 n0 c0, .int .i64 pos, .int .i64 en, .int .i64 lines, .bool eof, .slice a1 n1 c1] w fun e w' => e = .returned (.bool true) ∧ Below w.heap.size w w' := by
  go_enter Tryd.func4, Tryd.ntmps4
  go_wp2_with (go_at_call 13; refine (b13_no _ _ _ _ _ _ _ _ _ _ _ h0 h1 hs).mono ?_; rintro e w' ⟨rfl, rfl⟩)
  go_ret
  exact ⟨rfl, Below.refl _ _⟩
theorem cf_each (hs : n0 + n1 ≤ 1048576) (hx : 524288 < n0 ∨ 524288 < n1) :
    Calls Tryd.prog 4 #[.slice a0 n0 c0, .int .i64 pos, .int .i64 en, .int .i64 lines, .bool eof, .slice a1 n1 c1] w fun e w' => e = .returned (.bool true) ∧ Below w.heap.size w w' := by
  rcases (show 524288 < n0 ∨ (n0 ≤ 524288 ∧ 524288 < n1) by omega) with g1 | ⟨g1, g2⟩
  all_goals
    go_enter Tryd.func4, Tryd.ntmps4
    go_wp2_with (go_at_call 13; refine (b13_ok _ _ _ _ _ _ _ _ _ _ _ (by omega)).mono ?_; rintro e w' ⟨rfl, rfl⟩)
    go_ret
    exact ⟨rfl, Below.refl _ _⟩
theorem cf_out (g0 : n0 ≤ 524288) (g1 : n1 ≤ 524288) (hx : pos < 0 ∨ en < pos ∨ (n0 : Int) < en ∨ 9223372036854775807 - (n0 : Int) < lines) :
    Calls Tryd.prog 4 #[.slice a0 n0 c0, .int .i64 pos, .int .i64 en, .int .i64 lines, .bool eof, .slice a1 n1 c1] w fun e w' => e = .returned (.bool true) ∧ Below w.heap.size w w' := by
  rcases (show pos < 0 ∨ (0 ≤ pos ∧ en < pos) ∨ (0 ≤ pos ∧ pos ≤ en ∧ (n0 : Int) < en) ∨ (0 ≤ pos ∧ pos ≤ en ∧ en ≤ (n0 : Int) ∧ 9223372036854775807 - (n0 : Int) < lines) by omega) with q1 | ⟨q1, q2⟩ | ⟨q1, q2, q3⟩ | ⟨q1, q2, q3, q4⟩
  all_goals
    go_enter Tryd.func4, Tryd.ntmps4
    go_wp2_with (go_at_call 13; refine (b13_ok _ _ _ _ _ _ _ _ _ _ _ (by omega)).mono ?_; rintro e w' ⟨rfl, rfl⟩)
    go_ret
    exact ⟨rfl, Below.refl _ _⟩
end

/-- WHAT THE TWO CLONES AND THE NEW SCANNER LEAVE. -/
theorem made_st {w w1 w2 : World} {da ba : Option Addr} {n1 n0 : Nat} {D B : List Int} (hb1 : Below w.heap.size w w1) (hD : Rb w1 da n1 D) (hda : ∀ x, da = some x → w.heap.size ≤ x.block ∧ x.block < w1.heap.size)
    (hb2 : Below w1.heap.size w1 w2) (hB : Rb w2 ba n0 B) (hba : ∀ x, ba = some x → w1.heap.size ≤ x.block ∧ x.block < w2.heap.size) :
    Rb w2 da n1 D ∧ (∀ x y, ba = some x → da = some y → x.block ≠ y.block) ∧ ∀ (w3 : World) (pos en lines : Int) (eof : Bool), Below w2.heap.size w2 w3 → Sn w3 (w2.heap.size + 1) w2.heap.size ba n0 B da n1 D pos en lines eof 0 →
      St w.heap.size w w3 (w2.heap.size + 1) w2.heap.size ba n0 B da n1 D pos en lines eof 0 := by
  have z1 := hb1.size
  have z2 := hb2.size
  refine ⟨hD.kept (fun x hx => hb2.block _ (hda x hx).2), fun x y hx hy => ?_, fun w3 pos en lines eof hb3 hsn => ⟨hsn, (hb1.trans (hb2.mono z1)).trans (hb3.mono (by omega)), by omega, by omega, fun x hx => ?_, fun x hx => (hda x hx).1⟩⟩
  · have h1 := (hba x hx).1
    have h2 := (hda y hy).2
    omega
  · have h1 := (hba x hx).1
    omega
theorem Sl.take {k : IntKind} {w : World} {a : Option Addr} {n : Nat} {zs : List Int} (h : Sl k w a n zs) (p : Nat) (hp : p ≤ n) : Sl k w a p (zs.take p) := by
  refine ⟨by have := h.1; simp; omega, fun h0 => ?_⟩
  obtain ⟨b, o, h1, h2, h3⟩ := h.2 (by omega)
  exact ⟨b, o, h1, h2, fun i hi => by rw [getD_take zs p i hi]; exact h3 i (by omega)⟩
theorem St.sl {G : Nat} {w W : World} {bs br : Nat} {ba : Option Addr} {bn : Nat} {B : List Int} {da : Option Addr} {dn : Nat} {D : List Int} {pos en lines : Int} {eof : Bool} {ri : Int} (h : St G w W bs br ba bn B da dn D pos en lines eof ri) : Sl .u8 W ba bn B := by
  refine ⟨h.sn.buf.1, fun h0 => ?_⟩
  obtain ⟨bb, rfl⟩ := h.bufAt h0
  exact ⟨bb, 0, rfl, (Array.getElem?_eq_some_iff.1 (h.row rfl)).1, fun i hi => by rw [Nat.zero_add]; exact h.rowCell rfl i hi⟩

section
variable (a0 a1 : Option Addr) (n0 c0 n1 c1 : Nat) (B D : List Int) (w : World)
theorem cf_done (pos en lines : Int) (g0 : n0 ≤ 524288) (g1 : n1 ≤ 524288) (q1 : 0 ≤ pos) (q2 : pos ≤ en) (q3 : en ≤ (n0 : Int)) (q4 : lines ≤ 9223372036854775807 - (n0 : Int)) (hB : Arg .u8 w a0 n0 c0 B) (hD : Arg .u8 w a1 n1 c1 D) (hS : Sl .u8 w a0 n0 B) :
    Calls Tryd.prog 4 #[.slice a0 n0 c0, .int .i64 pos, .int .i64 en, .int .i64 lines, .bool true, .slice a1 n1 c1] w fun e w' => e = .returned (.bool true) ∧ Below w.heap.size w w' := by
  have HB : Hid _ := hB
  have HD : Hid _ := hD
  have HS : Hid _ := hS
  clear hB hD hS
  go_enter Tryd.func4, Tryd.ntmps4
  go_wp2_with (go_at_call 13; refine (b13_ok _ _ _ _ _ _ _ _ _ _ _ (by omega)).mono ?_; rintro e w' ⟨rfl, rfl⟩)
  refine (clone_any a1 n1 c1 D w (by omega) HD.out).mono ?_
  rintro e w1 ⟨da, rfl, hb1, hD1, hda⟩
  have HA1 : Hid _ := And.intro hb1 (And.intro hD1 hda)
  clear hb1 hD1 hda
  go_wp2_with fail
  refine (clone_any a0 n0 c0 B w1 (by omega) (Arg.below HB.out HA1.out.1)).mono ?_
  rintro e w2 ⟨ba, rfl, hb2, hB2, hba⟩
  have HM : Hid _ := made_st HA1.out.1 HA1.out.2.1 HA1.out.2.2 hb2 hB2 hba
  have HB2 : Hid _ := hB2
  clear hb2 hB2 hba
  go_wp2_with fail
  refine (new_at w2 ba n0 B da n1 D pos en lines true HB2.out HM.out.1 HM.out.2.1).mono ?_
  rintro e w3 ⟨rfl, hb3, _, hsn⟩
  have HT : Hid _ := HM.out.2.2 w3 pos en lines true hb3 hsn
  clear hb3 hsn HM HB2
  go_wp2_with fail
  refine (zfill_done w3 _ _ _ _ _ _ _ _ _ _ _ _ HT.out.sn).mono ?_
  rintro e w4 ⟨rfl, rfl⟩
  go_wp2_with fail
  refine (state_at w3 _ _ _ _ _ _ _ _ _ _ _ _ _ HT.out.sn).mono ?_
  rintro e w4 ⟨rfl, mq, rfl⟩
  go_wp2_with fail
  refine (eq_any ba a0 n0 n0 n0 c0 B B _ (by omega) ((HT.out.drewN mq).sl) (Sl.below (k := .u8) (zs := B) HS.out (Nat.le_refl _) (HT.out.drewN mq).bel)).mono ?_
  rintro e w5 ⟨rfl, mr, rfl⟩
  have hbb : (B == B) = true := by simp
  rw [hbb]
  go_wp2
  go_ret
  exact ⟨rfl, (HT.out.drewN (mq + mr)).bel⟩
end
end Go.Proofs.Qxb6614898aDoor
