/-
  THE WALKS of skipBlank and ZZSkipBlank.
-/
import Derived.Test.Qxb6000099aWalk
import Derived.Deep.LoopGhost
namespace Go.Proofs.Qxb6000099a
open Go.RowKit
set_option linter.unusedVariables false
set_option maxHeartbeats 4000000
set_option maxRecDepth 1000000

/-- The scanner in block b: its text s, its place p. -/
structure Ls (b : Nat) (w W : World) (s : ByteArray) (p : Int) : Prop where
  gro : Grown w W
  own : w.heap.size ≤ b
  c0 : W.cell? ⟨b, 0, none⟩ = some (.string s)
  c1 : W.cell? ⟨b, 1, none⟩ = some (.int .i64 p)
  f1 : W.frozen? ⟨b, 1, none⟩ = false
theorem Ls.drewN {b : Nat} {w W : World} {s : ByteArray} {p : Int} (h : Ls b w W s p) (n : Nat) : Ls b w (W.drewN n) s p := ⟨h.gro, h.own, h.c0, h.c1, h.f1⟩
theorem Ls.set {b : Nat} {w W : World} {s : ByteArray} {p : Int} (h : Ls b w W s p) (q : Int) : Ls b w (W.setCell ⟨b, 1, none⟩ (.int .i64 q)) s q := by
  obtain ⟨h1, h2, h3, h4, h5⟩ := h
  refine ⟨h1.setCell h2 _, h2, ?_, ?_, ?_⟩
  all_goals go_simp
theorem il_extract (s : ByteArray) (k : Nat) (h : k ≤ s.size) : il (s.extract k s.size) = (il s).drop k := by
  unfold il
  have e : (s.extract k s.size).data.toList = s.data.toList.drop k := by
    rw [ByteArray.data_extract, Array.toList_extract]
    simp only [List.extract_eq_take_drop]
    exact List.take_of_length_le (by simp)
  rw [e, List.map_drop]
theorem hash_pos (l : List Int) (i : Nat) (h : i < l.length) (h35 : l.getD i 0 = 35) : 0 < (l.drop i).findIdx (· == 10) := by
  have hc : l.drop i = 35 :: l.drop (i + 1) := by
    rw [List.drop_eq_getElem_cons h]
    congr 1
    have : l.getD i 0 = l[i] := by simp [List.getD, h]
    rw [← this, h35]
  rw [hc, List.findIdx_cons]
  exact Nat.succ_pos _
/-- strings.IndexByte for a newline, from k on. -/
theorem index_at (s : ByteArray) (k : Nat) (h : k ≤ s.size) (v : Int)
    (hv : v = if ((il s).drop k).findIdx (· == 10) < ((il s).drop k).length then ((((il s).drop k).findIdx (· == 10) : Nat) : Int) else -1) (w : World) (n : Nat) :
    Calls Try.prog 10 #[.string (s.extract k s.size), .int .u8 10] (w.drewN n) fun e w' => e = .returned (.int .i64 v) ∧ ∃ m, w' = w.drewN m := by
  refine (index (s.extract k s.size) v ?_ _).mono ?_
  · rw [hv, index10, ← il_extract s k h]
    unfold il
    rw [List.length_map]
  · rintro e w' ⟨h1, rfl⟩
    exact ⟨h1, n, rfl⟩
theorem skip_at (b : Nat) (s : ByteArray) (p : Nat) (w W : World) (hs : s.size ≤ 1048576) (hp : p ≤ s.size) (hL : Ls b w W s p) :
    Calls Try.prog 9 #[.pointer (some ⟨b, 0, none⟩)] W fun e w' => e = .returned (.tuple #[]) ∧ Ls b w w' s (p + md ((il s).drop p) false : Nat) := by
  obtain ⟨V, hV⟩ : ∃ V, V = p + md ((il s).drop p) false := ⟨_, rfl⟩
  have HV : Hid _ := hV
  rw [← hV]
  clear hV
  have HL0 : Hid _ := hL
  clear hL
  go_enter Try.func9, Try.ntmps9
  go_wp2
  go_loopg [2] (s.size - p) (fun g _ wr => ∃ k : Nat, k ≤ s.size ∧ g = s.size - k ∧ Hid (V = k + md ((il s).drop k) false) ∧ Hid (Ls b w wr s k))
  case atStart => exact ⟨p, hp, rfl, HV, HL0⟩
  case round =>
    obtain ⟨k, hk, rfl, HR, HL⟩ := hrel
    by_cases hlt : k < s.size
    · have hl := il_len s
      have hg := il_get s k hlt
      have HT : Hid _ := md_at_false (il s) k (by omega)
      have HH : Hid _ := md_hash (il s) k (by omega)
      have HP : Hid _ := hash_pos (il s) k (by omega)
      rw [hg] at HT HH HP
      clear hg hl
      have c0 := HL.out.c0
      have c1 := HL.out.c1
      have f1 := HL.out.f1
      go_wp2_with fail
      go_quiet (fail)
      go_wp2_with fail
      go_quiet (fail)
      generalize hw : World.drewN (World.drewN wr _) _ = wx
      have HX : Hid (Ls b w wx s k) := by
        show Ls b w wx s k
        rw [← hw]
        exact (HL.out.drewN _).drewN _
      clear hw c0 c1 f1 HL
      have c0 := HX.out.c0
      have c1 := HX.out.c1
      have f1 := HX.out.f1
      cases hb : blank (s[k].toNat : Int) with
      | true =>
        have HT2 : Hid (V = (k + 1 : Nat) + md ((il s).drop (k + 1)) false) := by
          show _ = _
          rw [HR.out, HT.out, if_pos hb]
          omega
        have hor : ((s[k].toNat : Int) == 32) = true ∨ ((s[k].toNat : Int) == 32) = false ∧ ((s[k].toNat : Int) == 9) = true ∨ ((s[k].toNat : Int) == 32) = false ∧ ((s[k].toNat : Int) == 9) = false ∧ ((s[k].toNat : Int) == 13) = true ∨ ((s[k].toNat : Int) == 32) = false ∧ ((s[k].toNat : Int) == 9) = false ∧ ((s[k].toNat : Int) == 13) = false ∧ ((s[k].toNat : Int) == 10) = true := by
          unfold blank at hb
          revert hb
          cases ((s[k].toNat : Int) == 32) <;> cases ((s[k].toNat : Int) == 9) <;> cases ((s[k].toNat : Int) == 13) <;> cases ((s[k].toNat : Int) == 10) <;> simp
        clear hb HT HR HH
        rcases hor with t1 | ⟨t1, t2⟩ | ⟨t1, t2, t3⟩ | ⟨t1, t2, t3, t4⟩
        all_goals
          go_wp2
          go_roundg (s.size - (k + 1))
          case measure => omega
          case rel => exact ⟨k + 1, by omega, rfl, HT2, by show Ls _ _ _ _ _; have := HX.out.set ((k + 1 : Nat) : Int); simpa using this⟩
      | false =>
        have hand : ((s[k].toNat : Int) == 32) = false ∧ ((s[k].toNat : Int) == 9) = false ∧ ((s[k].toNat : Int) == 13) = false ∧ ((s[k].toNat : Int) == 10) = false := by
          unfold blank at hb
          revert hb
          cases ((s[k].toNat : Int) == 32) <;> cases ((s[k].toNat : Int) == 9) <;> cases ((s[k].toNat : Int) == 13) <;> cases ((s[k].toNat : Int) == 10) <;> simp
        obtain ⟨t1, t2, t3, t4⟩ := hand
        cases h35 : ((s[k].toNat : Int) == 35) with
        | true =>
          have h35' : (s[k].toNat : Int) = 35 := by simpa using h35
          have hJ := HH.out h35'
          have hP := HP.out h35'
          have hl := il_len s
          have hld : ((il s).drop k).length = s.size - k := by rw [List.length_drop, hl]
          rw [hl] at hJ
          have hV := HR.out
          rw [hJ] at hV
          clear h35' hJ HR HP
          obtain ⟨v, hv⟩ : ∃ v : Int, v = if ((il s).drop k).findIdx (· == 10) < ((il s).drop k).length then ((((il s).drop k).findIdx (· == 10) : Nat) : Int) else -1 := ⟨_, rfl⟩
          have HC : Hid _ := fun n => index_at s k (by omega) v hv wx n
          rw [hld] at hv hV
          clear hb HT HH hl hld
          generalize ((il s).drop k).findIdx (· == 10) = t at *
          by_cases ht : t < s.size - k
          · rw [if_pos ht] at hv hV
            subst hv
            have HV2 : Hid (V = (k + t : Nat) + md ((il s).drop (k + t)) false) := by show _ = _; rw [hV]; omega
            clear hV
            go_wp2_with fail
            go_quiet ((go_at_call 10; exact HC.out _))
            generalize hw : World.drewN wx _ = wy
            have HY : Hid (Ls b w wy s k) := by
              show Ls b w wy s k
              rw [← hw]
              exact HX.out.drewN _
            clear hw c0 c1 f1 HX HC
            have c0 := HY.out.c0
            have c1 := HY.out.c1
            have f1 := HY.out.f1
            go_wp2
            go_roundg (s.size - (k + t))
            case measure => omega
            case rel => exact ⟨k + t, by omega, rfl, HV2, by show Ls _ _ _ _ _; have := HY.out.set ((k + t : Nat) : Int); simpa using this⟩
          · rw [if_neg ht] at hv hV
            subst hv
            have HV2 : Hid (V = s.size + md ((il s).drop s.size) false) := by
              show _ = _
              rw [hV, List.drop_eq_nil_of_le (by rw [il_len]; omega)]
              simp [md]
              omega
            clear hV
            go_wp2_with fail
            go_quiet ((go_at_call 10; exact HC.out _))
            generalize hw : World.drewN wx _ = wy
            have HY : Hid (Ls b w wy s k) := by
              show Ls b w wy s k
              rw [← hw]
              exact HX.out.drewN _
            clear hw c0 c1 f1 HX HC
            have c0 := HY.out.c0
            have c1 := HY.out.c1
            have f1 := HY.out.f1
            go_wp2
            go_roundg (s.size - s.size)
            case measure => omega
            case rel => exact ⟨s.size, by omega, rfl, HV2, HY.out.set (s.size : Int)⟩
        | false =>
          have e : V = k := by rw [HR.out, HT.out, if_neg (by rw [hb]; decide), if_neg (by rw [h35]; decide)]; omega
          have He : Hid _ := e
          clear hb HT HR HH e
          go_wp2
          refine bodyPost_ret (results_none rfl _ _ _) rfl ?_
          rw [He.out]
          exact ⟨rfl, HX.out⟩
    · obtain rfl : k = s.size := by omega
      have c0 := HL.out.c0
      have c1 := HL.out.c1
      go_wp2_with fail
      go_quiet (fail)
      go_wp2
      go_end0
      have hl := il_len s
      have e : V = s.size := by rw [HR.out, List.drop_eq_nil_of_le (by omega)]; simp [md]
      rw [e]
      exact ⟨rfl, HL.out.drewN _⟩
end Go.Proofs.Qxb6000099a
