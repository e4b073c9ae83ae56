/-
  SMALL WALKS that the three laws share: zzEq, bytes.IndexByte; a slice of bytes told by its bytes.
-/
import Derived.Test.Qxb6614898aDoorRows
import Derived.WalkKit
import Derived.WalkSpells
import Derived.Lib.BytesEntry
import Derived.Lib.SlBytesConst
import Derived.Deep.QuietTactic
import Derived.BigQuiet
import Derived.WalkSmall
import Derived.OwnWalk
namespace Go.Proofs.Qxb6614898aDoor
open Go.RowKit
set_option linter.unusedVariables false
set_option maxHeartbeats 1000000

theorem ret_int {k : IntKind} {a b : Int} (h : a = b) : Ending.returned (.int k a) = .returned (.int k b) := by rw [h]
theorem ret_bool {a b : Bool} (h : a = b) : Ending.returned (.bool a) = .returned (.bool b) := by rw [h]

/-- THE SLICE a, n HOLDS THE BYTES zs (or the numbers, of kind k): nothing is said of where an empty one lies. -/
def Sl (k : IntKind) (w : World) (a : Option Addr) (n : Nat) (zs : List Int) : Prop :=
  zs.length = n ∧ (0 < n → ∃ b o, a = some ⟨b, o, none⟩ ∧ b < w.heap.size ∧ ∀ i, i < n → w.cell? ⟨b, o + i, none⟩ = some (.int k (zs.getD i 0)))
theorem Sl.below {k : IntKind} {w wr : World} {a : Option Addr} {n : Nat} {zs : List Int} (h : Sl k w a n zs) {G : Nat} (hG : w.heap.size ≤ G) (hb : Below G w wr) : Sl k wr a n zs := by
  refine ⟨h.1, fun hn => ?_⟩
  obtain ⟨b, o, h1, h2, h3⟩ := h.2 hn
  refine ⟨b, o, h1, by have := hb.size; omega, fun i hi => ?_⟩
  rw [hb.cell (p := ⟨b, o + i, none⟩) (by show b < G; omega)]
  exact h3 i hi
theorem Sl.drewN {k : IntKind} {w : World} {a : Option Addr} {n : Nat} {zs : List Int} (h : Sl k w a n zs) (m : Nat) : Sl k (w.drewN m) a n zs := h
theorem Sl.nil (k : IntKind) (w : World) (a : Option Addr) : Sl k w a 0 [] := ⟨rfl, fun h => absurd h (by omega)⟩

theorem lists_ne {xs ys : List Int} {k : Nat} (h : xs.getD k 0 ≠ ys.getD k 0) : (xs == ys) = false := by
  rw [beq_eq_false_iff_ne]; rintro rfl; exact h rfl
theorem lists_eq {xs ys : List Int} {n : Nat} (h1 : xs.length = n) (h2 : ys.length = n) (h : ∀ j, j < n → xs.getD j 0 = ys.getD j 0) : (xs == ys) = true := by
  rw [beq_iff_eq]
  apply List.ext_getElem (by omega)
  intro j g1 g2
  have := h j (by omega)
  simpa [List.getD, g1, g2] using this

/-- zzEq. -/
theorem eq_any (a1 a2 : Option Addr) (n1 c1 n2 c2 : Nat) (xs ys : List Int) (w : World) (hn : n1 ≤ 4194304) (h1 : Sl .u8 w a1 n1 xs) (h2 : Sl .u8 w a2 n2 ys) :
    Calls Tryd.prog 10 #[.slice a1 n1 c1, .slice a2 n2 c2] w fun e w' => e = .returned (.bool (xs == ys)) ∧ ∃ m, w' = w.drewN m := by
  by_cases hne : n1 = n2
  · subst hne
    have H1 : Hid _ := h1
    have H2 : Hid _ := h2
    clear h1 h2
    go_enter Tryd.func10, Tryd.ntmps10
    go_wp2
    go_loopw [5] (fun i wr => ∃ k : Nat, k ≤ n1 ∧ i = .int .i64 k ∧ (∃ m, wr = w.drewN m) ∧ Hid (∀ j, j < k → xs.getD j 0 = ys.getD j 0)) (fun i _ => n1 - (intOf i).toNat)
    case atStart => exact ⟨0, Nat.zero_le _, rfl, ⟨0, rfl⟩, fun j hj => by omega⟩
    case round =>
      obtain ⟨k, hk, rfl, ⟨m, rfl⟩, HN⟩ := hrel
      by_cases hlt : k < n1
      · obtain ⟨b1, o1, rfl, _, hc1⟩ := H1.out.2 (by omega)
        obtain ⟨b2, o2, rfl, _, hc2⟩ := H2.out.2 (by omega)
        have hx := hc1 k hlt
        have hy := hc2 k hlt
        have hz : (k : Int) < (n1 : Int) := by omega
        clear hc1 hc2
        generalize hxv : xs.getD k 0 = x at *
        generalize hyv : ys.getD k 0 = y at *
        have HX : Hid _ := hxv
        have HY : Hid _ := hyv
        clear hxv hyv
        go_wp2
        go_quiet (fail)
        go_wp2
        · have ht : (x != y) = true := by assumption
          go_ret
          exact ⟨ret_bool (lists_ne (k := k) (by rw [HX.out, HY.out]; exact bne_iff_ne.1 ht)).symm, m + nq, by simp⟩
        · have ht : (x != y) = false := by assumption
          go_roundw
          case rel =>
            refine ⟨k + 1, by omega, by go_num, ⟨_, rfl⟩, fun j hj => ?_⟩
            by_cases hjk : j = k
            · subst hjk; rw [HX.out, HY.out]; simpa [bne] using ht
            · exact HN.out j (by omega)
          case measure => simp [intOf]; omega
      · obtain rfl : k = n1 := by omega
        go_wp2
        go_ret
        exact ⟨ret_bool (lists_eq H1.out.1 H2.out.1 HN.out).symm, m, rfl⟩
  · have ht : ((n1 : Int) != (n2 : Int)) = true := by rw [bne_iff_ne]; omega
    have hr : (xs == ys) = false := by rw [beq_eq_false_iff_ne]; rintro rfl; exact hne (h1.1.symm.trans h2.1)
    rw [hr]
    clear h1 h2 hr hne
    go_enter Tryd.func10, Tryd.ntmps10
    go_wp2
    go_ret
    exact ⟨rfl, 0, rfl⟩

/-- zzHasZero. -/
def hasZ (zs : List Int) : Bool := zs.any (· == 0)
theorem hasz_any (a : Option Addr) (n c : Nat) (zs : List Int) (w : World) (hn : n ≤ 4194304) (h : Sl .u8 w a n zs) :
    Calls Tryd.prog 8 #[.slice a n c] w fun e w' => e = .returned (.bool (hasZ zs)) ∧ w = w' := by
  have H : Hid _ := h
  clear h
  go_enter Tryd.func8, Tryd.ntmps8
  go_wp2
  go_loop [3] (fun i => ∃ k : Nat, k ≤ n ∧ i = .int .i64 k ∧ Hid (∀ j, j < k → zs.getD j 0 ≠ 0)) (fun i => n - (intOf i).toNat)
  case atStart => exact ⟨0, Nat.zero_le _, rfl, fun j hj => by omega⟩
  case round =>
    obtain ⟨k, hk, rfl, HN⟩ := hrel
    by_cases hlt : k < n
    · obtain ⟨b, o, rfl, _, hc⟩ := H.out.2 (by omega)
      have hx := hc k hlt
      clear hc
      generalize hxv : zs.getD k 0 = x at *
      have HX : Hid _ := hxv
      clear hxv
      have hkz : k < zs.length := by have := H.out.1; omega
      go_wp2
      · have ht : (x == 0) = true := by assumption
        go_ret
        refine ⟨ret_bool (Eq.symm ?_), rfl⟩
        unfold hasZ
        rw [List.any_eq_true]
        refine ⟨x, ?_, ht⟩
        rw [← HX.out, List.getD_eq_getElem?_getD, List.getElem?_eq_getElem hkz]
        exact List.getElem_mem _
      · have ht : (x == 0) = false := by assumption
        go_round
        case rel =>
          refine ⟨k + 1, by omega, by go_num, fun j hj => ?_⟩
          by_cases hjk : j = k
          · subst hjk; rw [HX.out]; simpa using ht
          · exact HN.out j (by omega)
        case measure => simp [intOf]; omega
    · obtain rfl : k = n := by omega
      go_wp2
      go_ret
      refine ⟨ret_bool (Eq.symm ?_), rfl⟩
      unfold hasZ
      rw [List.any_eq_false]
      intro x hx
      obtain ⟨j, hj, rfl⟩ := List.mem_iff_getElem.1 hx
      have := HN.out j (by have := H.out.1; omega)
      simpa [List.getD, hj] using this

/-- zzValidEnds: the ends rise and stay within the text. -/
def validFrom (t p : Int) : List Int → Bool
  | [] => true
  | x :: r => if x < p ∨ t < x then false else validFrom t x r
theorem validFrom_drop (t p : Int) (es : List Int) (k : Nat) (hk : k < es.length) : validFrom t p (es.drop k) = if es.getD k 0 < p ∨ t < es.getD k 0 then false else validFrom t (es.getD k 0) (es.drop (k + 1)) := by
  rw [List.drop_eq_getElem_cons hk]
  have e : es.getD k 0 = es[k] := by simp [List.getD, hk]
  rw [e, validFrom]
theorem valid_any (a : Option Addr) (n c : Nat) (es : List Int) (t : Int) (w : World) (hn : n ≤ 4194304) (h : Sl .i64 w a n es) :
    Calls Tryd.prog 7 #[.int .i64 t, .slice a n c] w fun e w' => e = .returned (.bool (validFrom t 0 es)) ∧ w = w' := by
  have H : Hid _ := h
  clear h
  go_enter Tryd.func7, Tryd.ntmps7
  go_wp2
  go_loop [5, 6] (fun p i => ∃ (k : Nat) (q : Int), k ≤ n ∧ i = .int .i64 k ∧ p = .int .i64 q ∧ Hid (validFrom t q (es.drop k) = validFrom t 0 es)) (fun _ i => n - (intOf i).toNat)
  case atStart => exact ⟨0, 0, Nat.zero_le _, rfl, rfl, rfl⟩
  case round =>
    obtain ⟨k, q, hk, rfl, rfl, HV⟩ := hrel
    by_cases hlt : k < n
    · obtain ⟨b, o, rfl, _, hc⟩ := H.out.2 (by omega)
      have hx := hc k hlt
      clear hc
      have HD : Hid _ := validFrom_drop t q es k (by have := H.out.1; omega)
      generalize es.getD k 0 = x at *
      by_cases c1 : x < q
      · go_wp2
        go_ret
        exact ⟨ret_bool (by rw [← HV.out, HD.out, if_pos (Or.inl c1)]), rfl⟩
      · by_cases c2 : t < x
        · go_wp2
          go_ret
          exact ⟨ret_bool (by rw [← HV.out, HD.out, if_pos (Or.inr c2)]), rfl⟩
        · have HR : Hid (validFrom t x (es.drop (k + 1)) = validFrom t 0 es) := by show _ = _; rw [← HV.out, HD.out, if_neg (by omega)]
          go_wp2
          go_round
          case rel => exact ⟨k + 1, x, by omega, by go_num, rfl, HR⟩
          case measure => simp [intOf]; omega
    · obtain rfl : k = n := by omega
      go_wp2
      go_ret
      refine ⟨ret_bool ?_, rfl⟩
      rw [← HV.out, List.drop_eq_nil_of_le (by have := H.out.1; omega)]
      rfl
end Go.Proofs.Qxb6614898aDoor
