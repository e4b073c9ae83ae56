/-
  THE WALK of lowerASCII.
-/
import Derived.Test.Qxb6614464aRows
import Derived.Test.Qxb6614464aPlain
import Derived.WalkKit
import Derived.WalkSpells
import Derived.Laws.IdiomStrings
namespace Go.Proofs.Qxb6614464a
open Go.RowKit Uri
set_option linter.unusedVariables false
set_option maxHeartbeats 1000000

theorem ret_int {k : IntKind} {a b : Int} (h : a = b) : Ending.returned (.int k a) = .returned (.int k b) := by rw [h]
theorem ret_bool {a b : Bool} (h : a = b) : Ending.returned (.bool a) = .returned (.bool b) := by rw [h]
theorem ret_str {a b : ByteArray} (h : a = b) : Ending.returned (.string a) = .returned (.string b) := by rw [h]

/-- '[]byte(s)': a new row that holds s's bytes; nothing old has turned. -/
theorem bytes_of (w : World) (s : ByteArray) : ∃ cap W0, (convert 9 22 (.string s)).run Try.prog w = .ok (.slice (some ⟨w.heap.size, 0, none⟩) s.size cap) W0 ∧ Below w.heap.size w W0 ∧ w.heap.size < W0.heap.size ∧
    (∀ j, j < s.size → W0.cell? ⟨w.heap.size, j, none⟩ = some (.int .u8 ((s.data.toList.getD j 0).toNat : Int))) ∧ (∀ j, j < s.size → W0.frozen? ⟨w.heap.size, j, none⟩ = false) := by
  refine ⟨_, _, run_bytes_of_string w 9 22 5 s Try.underlying9 Try.underlying22 Try.underlying5, (Below.refl _ w).drew.alloc (Nat.le_refl _) _, by simp, ?_, ?_⟩
  · intro j hj
    have hj' : j < s.data.size := hj
    refine (World.cell?_alloc_mark w.drew (bytesRow s (grownCap w s.size 0 5)) 5 ((bytesRow s (grownCap w s.size 0 5)).size, (bytesRow s (grownCap w s.size 0 5)).size + 1) j).trans ?_
    rw [bytesRow_at s _ j hj']
    simp only [List.getD_eq_getElem?_getD, Array.getElem?_toList, Array.getElem?_eq_getElem hj', Option.getD_some]
  · intro j hj
    refine (World.frozen?_alloc_mark w.drew (bytesRow s (grownCap w s.size 0 5)) 5 (bytesRow s (grownCap w s.size 0 5)).size ((bytesRow s (grownCap w s.size 0 5)).size + 1) j).trans ?_
    have : j < (bytesRow s (grownCap w s.size 0 5)).size := by
      have hj' : j < s.data.size := hj
      unfold bytesRow; simp; omega
    simp; omega

/-- What the loop of lowerASCII keeps: block B holds l's bytes, the first k of them folded. -/
def Lw (B : Nat) (w : World) (l : List UInt8) (k : Nat) (wr : World) : Prop :=
  Below B w wr ∧ B < wr.heap.size ∧ (∀ j, j < l.length → wr.cell? ⟨B, j, none⟩ = some (.int .u8 ((if j < k then low (l.getD j 0) else l.getD j 0).toNat : Int))) ∧ ∀ j, j < l.length → wr.frozen? ⟨B, j, none⟩ = false
theorem low_toNat (b : UInt8) : ((low b).toNat : Int) = if 65 ≤ (b.toNat : Int) ∧ (b.toNat : Int) ≤ 90 then (b.toNat : Int) + 32 else b.toNat := by
  have : ∀ n : Fin 256, ((low (UInt8.ofNat n.val)).toNat : Int) = if 65 ≤ ((UInt8.ofNat n.val).toNat : Int) ∧ ((UInt8.ofNat n.val).toNat : Int) ≤ 90 then ((UInt8.ofNat n.val).toNat : Int) + 32 else (UInt8.ofNat n.val).toNat := by decide +kernel
  have h := this ⟨b.toNat, b.toNat_lt⟩
  simpa using h
theorem Lw.step {B : Nat} {w wr : World} {l : List UInt8} {k : Nat} (h : Lw B w l k wr) (hk : k < l.length) (v : Int) (hv : v = ((low (l.getD k 0)).toNat : Int)) : Lw B w l (k + 1) (wr.setCell ⟨B, k, none⟩ (.int .u8 v)) := by
  obtain ⟨h1, h2, h3, h4⟩ := h
  refine ⟨h1.setCell (Nat.le_refl _) _, by simpa using h2, fun j hj => ?_, fun j hj => by rw [World.frozen?_setCell]; exact h4 j hj⟩
  by_cases hjk : j = k
  · subst hjk
    rw [if_pos (by omega), ← hv]
    exact World.cell?_setCell_same _ _ _ (h3 j hj)
  · rw [World.cell?_setCell_other _ _ _ _ (fun e => hjk (by simpa using (congrArg Addr.off e).symm)), h3 j hj]
    by_cases h' : j < k
    · rw [if_pos h', if_pos (by omega)]
    · rw [if_neg h', if_neg (by omega)]
theorem Lw.skip {B : Nat} {w wr : World} {l : List UInt8} {k : Nat} (h : Lw B w l k wr) (hk : k < l.length) (hv : low (l.getD k 0) = l.getD k 0) : Lw B w l (k + 1) wr := by
  obtain ⟨h1, h2, h3, h4⟩ := h
  refine ⟨h1, h2, fun j hj => ?_, h4⟩
  rw [h3 j hj]
  by_cases hjk : j = k
  · subst hjk
    rw [if_neg (by omega), if_pos (by omega), hv]
  · by_cases h' : j < k
    · rw [if_pos h', if_pos (by omega)]
    · rw [if_neg h', if_neg (by omega)]

/-- The string of these bytes. -/
def strOf (l : List UInt8) : ByteArray := ⟨l.toArray⟩
theorem getD_map_low (l : List UInt8) (j : Nat) (h : j < l.length) : (l.map low)[j]'(by simpa using h) = low (l.getD j 0) := by simp [List.getD, h]

theorem lower_any (s : ByteArray) (w : World) (hs : s.size ≤ 2097152) :
    Calls Try.prog 22 #[.string s] w fun e w' => e = .returned (.string (strOf (s.data.toList.map low))) ∧ Below w.heap.size w w' := by
  obtain ⟨cap, W0, hconv, hB0, hS0, hc0, hf0⟩ := bytes_of w s
  obtain ⟨l, hl⟩ : ∃ l, l = s.data.toList := ⟨_, rfl⟩
  have hn : s.size = l.length := by rw [hl]; rfl
  rw [← hl] at hc0 ⊢
  have HL : Hid (Lw w.heap.size w l 0 W0) := ⟨hB0, hS0, fun j hj => by rw [hc0 j (by omega), if_neg (by omega)], fun j hj => hf0 j (by omega)⟩
  have Hn : Hid (s.size = l.length) := hn
  have Hl : Hid _ := hl
  obtain ⟨n, hnn⟩ : ∃ n, n = s.size := ⟨_, rfl⟩
  rw [← hnn] at hconv hs
  have Hnl : Hid (n = l.length) := by show _ = _; omega
  clear hB0 hS0 hc0 hf0 hl hn hnn
  go_enter Try.func22, Try.ntmps22
  go_wp2
  go_loopw [4, 5, 10] (fun _ _ i wr => ∃ k : Nat, k ≤ n ∧ i = .int .i64 k ∧ Hid (Lw w.heap.size w l k wr)) (fun _ _ i _ => n - (intOf i).toNat)
  case atStart => exact ⟨0, Nat.zero_le _, rfl, HL⟩
  case round =>
    obtain ⟨k, hk, rfl, HLr⟩ := hrel
    clear HL
    by_cases hlt : k < n
    · have hkl : k < l.length := by have := Hnl.out; omega
      have hcell := HLr.out.2.2.1 k hkl
      have hfz := HLr.out.2.2.2 k hkl
      rw [if_neg (by omega)] at hcell
      have HV : Hid _ := low_toNat (l.getD k 0)
      obtain ⟨v, hv⟩ : ∃ v, v = ((l.getD k 0).toNat : Int) := ⟨_, rfl⟩
      have hv0 : 0 ≤ v ∧ v < 256 := by have := (l.getD k 0).toNat_lt; omega
      rw [← hv] at hcell
      have HV2 : Hid (v = _) := hv
      clear hv
      go_wp2
      · have h1 : 65 ≤ v := by assumption
        have h2 : v ≤ 90 := by assumption
        have HS : Hid (Lw w.heap.size w l (k + 1) (wr.setCell ⟨w.heap.size, k, none⟩ (.int .u8 (v + 97 - 65)))) := HLr.out.step hkl _ (by rw [HV.out, ← HV2.out, if_pos ⟨h1, h2⟩]; omega)
        go_roundw
        case rel => exact ⟨k + 1, by omega, by go_num, HS⟩
        case measure => simp [intOf]; omega
      · have h2 : 90 < v := by assumption
        have HS : Hid (Lw w.heap.size w l (k + 1) wr) := HLr.out.skip hkl (by apply UInt8.toNat_inj.1; have := HV.out; rw [← HV2.out, if_neg (by omega), HV2.out] at this; omega)
        go_roundw
        case rel => exact ⟨k + 1, by omega, by go_num, HS⟩
        case measure => simp [intOf]; omega
      · have h2 : ¬ 65 ≤ v := by assumption
        have HS : Hid (Lw w.heap.size w l (k + 1) wr) := HLr.out.skip hkl (by apply UInt8.toNat_inj.1; have := HV.out; rw [← HV2.out, if_neg (by omega), HV2.out] at this; omega)
        go_roundw
        case rel => exact ⟨k + 1, by omega, by go_num, HS⟩
        case measure => simp [intOf]; omega
    · have hnl := Hnl.out
      have hcv : (convert 22 9 (.slice (some ⟨w.heap.size, 0, none⟩) n cap)).run Try.prog wr = .ok (.string (strOf (l.map low))) wr := by
        have := run_convert_bytes_back (P := Try.prog) wr 22 9 5 ⟨w.heap.size, 0, none⟩ cap (l.map low) Try.underlying22 Try.underlying5 Try.underlying9 (fun j hj => by
          have hj' : j < l.length := by simpa using hj
          rw [Addr.add_lit, Nat.zero_add, HLr.out.2.2.1 j hj', if_pos (by omega), getD_map_low l j hj'])
        rw [List.length_map, ← hnl] at this
        exact this
      have hBr := HLr.out.1
      clear HLr hnl
      go_wp2
      go_ret
      exact ⟨rfl, hBr⟩
end Go.Proofs.Qxb6614464a
