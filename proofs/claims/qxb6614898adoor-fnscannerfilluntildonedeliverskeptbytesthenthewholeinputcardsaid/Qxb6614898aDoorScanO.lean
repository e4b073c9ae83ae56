/-
  zzDrain.
-/
import Derived.Test.Qxb6614898aDoorScanL
import Derived.Test.Qxb6614898aDoorScanN
namespace Go.Proofs.Qxb6614898aDoor
open Go.RowKit Go.Joins
set_option linter.unusedVariables false
set_option linter.unusedSectionVars false
set_option maxHeartbeats 8000000
set_option maxRecDepth 1000000

section
variable (G : Nat) (w : World) (bs br : Nat) (da : Option Addr) (n0 n1 k p e : Nat) (B D : List Int) (lines : Int)
/-- AT THE HEAD OF ROUND it. -/
def Dst (it : Nat) (W : World) : Prop :=
  (it = 0 ∧ ∃ ba, St G w W bs br ba n0 B da n1 D p e lines false 0) ∨
  ∃ ba S X E L ev ri, St G w W bs br ba S X da n1 D 0 (E : Nat) L ev (ri : Nat) ∧ Mid n0 n1 k p B D lines it S X E L ev ri
/-- BEHIND THE LAST CALL. -/
def Dend (W : World) : Prop := ∃ ba S X E L ev ri, St G w W bs br ba S X da n1 D 0 (E : Nat) L ev (ri : Nat) ∧ Fin n0 n1 k p B D lines S X E L ev
theorem fill_step (nb no nc : Nat) (ea : Addr) (hg : Gl G w nb no nc ea) (hB : B.length = n0) (hD : D.length = n1) (bB : Byt B) (bD : Byt D) (h1 : p ≤ e) (h2 : e ≤ n0) (hk : k = e - p) (hs : n0 + n1 ≤ 1048576) (q0 : -9223372036854775808 ≤ lines) (q4 : lines ≤ 9223372036854775807 - (n0 : Int))
    (it : Nat) (hit : it ≤ 22) (W : World) (h : Dst G w bs br da n0 n1 k p e B D lines it W) :
    ∃ b, Calls Tryd.prog 16 #[.pointer (some ⟨bs, 0, none⟩)] W fun e' w' => e' = .returned (.bool b) ∧ (b = true → it + 1 ≤ 22 ∧ Dst G w bs br da n0 n1 k p e B D lines (it + 1) w') ∧ (b = false → Dend G w bs br da n0 n1 k p B D lines w') := by
  have hnl : (nls (B.take p) : Int) ≤ n0 := by
    have h1 := List.count_le_length (a := (10 : Int)) (l := B.take p)
    have h4 : (B.take p).length ≤ B.length := by rw [List.length_take]; omega
    unfold nls
    omega
  rcases h with ⟨rfl, ba, hst⟩ | ⟨ba, S, X, E, L, ev, ri, hst, hmid⟩
  · obtain ⟨m, hm⟩ : ∃ m, m = min (n1 - 0) (size2 n0 k - k) := ⟨_, rfl⟩
    refine ⟨decide (0 < m), (zfill_of (fill_gen G w W nb no nc ea hg bs br ba n0 B da n1 D p e 0 k lines hst h1 h2 (by omega) (by omega) (by omega) bB q0 (by omega) hk m hm)).mono ?_⟩
    rintro e' w' ⟨rfl, ba', hst'⟩
    refine ⟨rfl, fun hb => ⟨by omega, .inr ⟨ba', _, _, _, _, _, _, hst', first_more hB hD bB bD h1 h2 hk hs hm (of_decide_eq_true hb)⟩⟩, fun hb => ⟨ba', _, _, _, _, _, _, hst', first_end hB hD bB bD h1 h2 hk hs hm (of_decide_eq_false hb)⟩⟩
  · cases ev with
    | true =>
      refine ⟨false, (zfill_done W bs br ba S X da n1 D _ _ _ _ hst.sn).mono ?_⟩
      rintro e' w' ⟨rfl, rfl⟩
      exact ⟨rfl, (fun hb => by cases hb), fun _ => ⟨ba, S, X, E, L, true, ri, hst, hmid.fin⟩⟩
    | false =>
      obtain ⟨m, hm⟩ : ∃ m, m = min (n1 - ri) (size2 S E - E) := ⟨_, rfl⟩
      obtain ⟨hsz, hES, hS0, hm2, hi21, _, _, _⟩ := next_facts hB hD bB bD h1 h2 hk hs hmid hm
      have hE := hmid.hE
      have hri := hmid.hri
      have hL := hmid.hL
      refine ⟨decide (0 < m), (zfill_of (fill_gen G w W nb no nc ea hg bs br ba S X da n1 D 0 E ri E L hst (Nat.zero_le _) hmid.ES (by omega) (by omega) hri hmid.byt (by omega) (by show L + ((0 : Nat) : Int) ≤ _; omega) rfl m hm)).mono ?_⟩
      rintro e' w' ⟨rfl, ba', hst'⟩
      refine ⟨rfl, fun hb => ⟨by omega, .inr ⟨ba', _, _, _, _, _, _, hst', next_more hB hD bB bD h1 h2 hk hs hmid hm (of_decide_eq_true hb)⟩⟩, fun hb => ⟨ba', _, _, _, _, _, _, hst', next_end hB hD bB bD h1 h2 hk hs hmid hm (of_decide_eq_false hb)⟩⟩

theorem drain_at (nb no nc : Nat) (ea : Addr) (hg : Gl G w nb no nc ea) (hB : B.length = n0) (hD : D.length = n1) (bB : Byt B) (bD : Byt D) (h1 : p ≤ e) (h2 : e ≤ n0) (hk : k = e - p) (hs : n0 + n1 ≤ 1048576) (q0 : -9223372036854775808 ≤ lines) (q4 : lines ≤ 9223372036854775807 - (n0 : Int)) (ba : Option Addr) (W : World) (h : St G w W bs br ba n0 B da n1 D p e lines false 0) :
    Calls Tryd.prog 20 #[.pointer (some ⟨bs, 0, none⟩)] W fun e' w' => e' = .returned (.bool true) ∧ Dend G w bs br da n0 n1 k p B D lines w' := by
  have HF : Hid _ := fill_step G w bs br da n0 n1 k p e B D lines nb no nc ea hg hB hD bB bD h1 h2 hk hs q0 q4
  have H0 : Hid (Dst G w bs br da n0 n1 k p e B D lines 0 W) := .inl ⟨rfl, ba, h⟩
  obtain ⟨Ds, hDs⟩ : ∃ Ds, Ds = Dst G w bs br da n0 n1 k p e B D lines := ⟨_, rfl⟩
  obtain ⟨De, hDe⟩ : ∃ De, De = Dend G w bs br da n0 n1 k p B D lines := ⟨_, rfl⟩
  rw [← hDs, ← hDe] at HF
  rw [← hDs] at H0
  rw [← hDe]
  clear hDs hDe h hg hB hD bB bD h1 h2 hk hs q0 q4
  go_enter Tryd.func20, Tryd.ntmps20
  go_wp2
  go_loopw [3] (fun i wr => ∃ it : Nat, it ≤ 22 ∧ i = .int .i64 it ∧ Hid (Ds it wr)) (fun i _ => 64 - (intOf i).toNat)
  case atStart => exact ⟨0, by omega, rfl, H0⟩
  case round =>
    obtain ⟨it, hit, rfl, HD⟩ := hrel
    obtain ⟨b, hb⟩ := HF.out it hit wr HD.out
    have HB : Hid _ := hb
    clear hb
    have hi64 : it < 64 := by omega
    cases b with
    | true =>
      go_wp2_with (go_at_call 16; refine (Calls.mono HB.out ?_); rintro e' w' ⟨rfl, hm, _⟩)
      go_round
      case rel => exact ⟨it + 1, (hm (by first | rfl | trivial)).1, by go_num, (hm (by first | rfl | trivial)).2⟩
      case measure => simp [intOf]; omega
    | false =>
      go_wp2_with (go_at_call 16; refine (Calls.mono HB.out ?_); rintro e' w' ⟨rfl, _, hm⟩)
      go_ret
      exact ⟨rfl, hm (by first | rfl | trivial)⟩
/-- zzDrain where the end of input has been seen. -/
theorem drain_done (W : World) (ba : Option Addr) (pos en : Int) (ri : Int) (h : Sn W bs br ba n0 B da n1 D pos en lines true ri) :
    Calls Tryd.prog 20 #[.pointer (some ⟨bs, 0, none⟩)] W fun e' w' => e' = .returned (.bool true) ∧ W = w' := by
  have HB : Hid _ := zfill_done W bs br ba n0 B da n1 D pos en lines ri h
  clear h
  go_enter Tryd.func20, Tryd.ntmps20
  go_wp2
  go_loopw [3] (fun i wr => i = .int .i64 0 ∧ W = wr) (fun i _ => 0)
  case atStart => exact ⟨rfl, rfl⟩
  case round =>
    obtain ⟨rfl, rfl⟩ := hrel
    go_wp2_with (go_at_call 16; refine (Calls.mono HB.out ?_); rintro e' w' ⟨rfl, rfl⟩)
    go_ret
    exact ⟨rfl, rfl⟩
end
end Go.Proofs.Qxb6614898aDoor
