/-
  fill AGAIN AND AGAIN: what stands in the scanner between two calls, and at the end (no Go in sight).
-/
import Derived.Test.Qxb6614898aDoorScanE
namespace Go.Proofs.Qxb6614898aDoor
open Go.RowKit Go.Joins
set_option linter.unusedVariables false
set_option linter.unusedSectionVars false

def Byt (X : List Int) : Prop := ∀ x ∈ X, 0 ≤ x ∧ x < 256
theorem Byt.splice {L cs : List Int} (hL : Byt L) (hc : Byt cs) (off : Nat) : Byt (splice L off cs) := by
  intro x hx
  unfold Go.splice at hx
  rcases List.mem_append.1 hx with h | h
  · exact hL x (List.mem_of_mem_take h)
  · rcases List.mem_append.1 h with h | h
    · exact hc x h
    · exact hL x (List.mem_of_mem_drop h)
theorem Byt.take {L : List Int} (hL : Byt L) (n : Nat) : Byt (L.take n) := fun x hx => hL x (List.mem_of_mem_take hx)
theorem Byt.drop {L : List Int} (hL : Byt L) (n : Nat) : Byt (L.drop n) := fun x hx => hL x (List.mem_of_mem_drop hx)
theorem Byt.fill {B D : List Int} (hB : Byt B) (hD : Byt D) (pos k bn ri m : Nat) : Byt (Go.splice (grown (moved B pos k) bn k) k ((D.drop ri).take m)) := by
  have h1 : Byt (moved B pos k) := hB.splice ((hB.drop pos).take k) 0
  refine Byt.splice ?_ ((hD.drop ri).take m) k
  unfold grown
  split
  · refine Byt.splice ?_ (h1.take k) 0
    intro x hx
    rw [List.eq_of_mem_replicate hx]
    omega
  · exact h1

/-- BETWEEN TWO CALLS, the first behind us. -/
structure Mid (n0 n1 k p : Nat) (B D : List Int) (lines : Int) (it S : Nat) (X : List Int) (E : Nat) (L : Int) (ev : Bool) (ri : Nat) : Prop where
  it1 : 1 ≤ it
  it22 : it ≤ 22
  hE : E = k + ri
  hri : ri ≤ n1
  ES : E ≤ S
  len : X.length = S
  byt : Byt X
  kept : ∀ j, j < k → X.getD j 0 = B.getD (p + j) 0
  red : ∀ j, j < ri → X.getD (k + j) 0 = D.getD j 0
  hL : L = lines + nls (B.take p)
  bound : S = n0 ∨ S < 4 * (k + ri)
  pos : 0 < n0
  done : ev = true → ri = n1
  more : ev = false → E = S ∧ 2 ^ (it - 1) ≤ S
/-- AT THE END. -/
structure Fin (n0 n1 k p : Nat) (B D : List Int) (lines : Int) (S : Nat) (X : List Int) (E : Nat) (L : Int) (ev : Bool) : Prop where
  hE : E = k + (if 0 < n0 then n1 else 0)
  ES : E ≤ S
  len : X.length = S
  kept : ∀ j, j < k → X.getD j 0 = B.getD (p + j) 0
  red : 0 < n0 → ∀ j, j < n1 → X.getD (k + j) 0 = D.getD j 0
  hL : L = lines + nls (B.take p)
  bound : S = n0 ∨ S < 4 * E
  hev : ev = decide (0 < n0)
theorem Mid.fin {n0 n1 k p : Nat} {B D : List Int} {lines : Int} {it S : Nat} {X : List Int} {E : Nat} {L : Int} {ri : Nat} (h : Mid n0 n1 k p B D lines it S X E L true ri) : Fin n0 n1 k p B D lines S X E L true := by
  have h1 := h.done rfl
  have h2 := h.pos
  have h3 := h.hE
  refine ⟨by rw [if_pos h2]; omega, h.ES, h.len, h.kept, fun _ j hj => h.red j (by omega), h.hL, ?_, by simp [h2]⟩
  rcases h.bound with h | h
  · exact .inl h
  · exact .inr (by omega)

section
variable {n0 n1 k p e : Nat} {B D : List Int} {lines : Int}
theorem first_more (hB : B.length = n0) (hD : D.length = n1) (bB : Byt B) (bD : Byt D) (h1 : p ≤ e) (h2 : e ≤ n0) (hk : k = e - p) (hs : n0 + n1 ≤ 1048576) {m : Nat} (hm : m = min (n1 - 0) (size2 n0 k - k)) (h0 : 0 < m) :
    Mid n0 n1 k p B D lines 1 (size2 n0 k) (Go.splice (grown (moved B p k) n0 k) k ((D.drop 0).take m)) (k + m) (lines + nls (B.take p)) (decide (n1 - 0 < size2 n0 k - k)) (0 + m) := by
  have hg := fun j => fill_get B D p e k n0 0 m j hB hk h1 h2 (by rw [hD]; exact hm)
  have hlen := fill_length B D p e k n0 0 m hB hk h1 h2 (by rw [hD]; exact hm)
  have hs2 : size2 n0 k = 2 * n0 ∧ n0 / 2 < k ∨ size2 n0 k = n0 ∧ ¬ n0 / 2 < k := by
    unfold size2
    by_cases h : n0 / 2 < k
    · exact .inl ⟨if_pos h, h⟩
    · exact .inr ⟨if_neg h, h⟩
  have hp : 0 < n0 := by rcases hs2 with ⟨h, _⟩ | ⟨h, _⟩ <;> omega
  refine ⟨Nat.le_refl _, by omega, by omega, by omega, by omega, hlen, bB.fill bD _ _ _ _ _, fun j hj => ?_, fun j hj => ?_, rfl, ?_, hp, fun h => ?_, fun h => ?_⟩
  · rw [hg, if_pos hj]
  · rw [hg, if_neg (by omega), if_pos (by omega)]
    congr 1
    omega
  · rcases hs2 with ⟨h, h3⟩ | ⟨h, h3⟩
    · right; omega
    · left; exact h
  · have := of_decide_eq_true h
    omega
  · have := of_decide_eq_false h
    refine ⟨by omega, ?_⟩
    show 1 ≤ _
    omega
theorem first_end (hB : B.length = n0) (hD : D.length = n1) (bB : Byt B) (bD : Byt D) (h1 : p ≤ e) (h2 : e ≤ n0) (hk : k = e - p) (hs : n0 + n1 ≤ 1048576) {m : Nat} (hm : m = min (n1 - 0) (size2 n0 k - k)) (h0 : ¬ 0 < m) :
    Fin n0 n1 k p B D lines (size2 n0 k) (Go.splice (grown (moved B p k) n0 k) k ((D.drop 0).take m)) (k + m) (lines + nls (B.take p)) (decide (n1 - 0 < size2 n0 k - k)) := by
  have hg := fun j => fill_get B D p e k n0 0 m j hB hk h1 h2 (by rw [hD]; exact hm)
  have hlen := fill_length B D p e k n0 0 m hB hk h1 h2 (by rw [hD]; exact hm)
  have hs2 : size2 n0 k = 2 * n0 ∧ n0 / 2 < k ∨ size2 n0 k = n0 ∧ ¬ n0 / 2 < k := by
    unfold size2
    by_cases h : n0 / 2 < k
    · exact .inl ⟨if_pos h, h⟩
    · exact .inr ⟨if_neg h, h⟩
  by_cases hp : 0 < n0
  · have hn : n1 = 0 := by rcases hs2 with ⟨h, _⟩ | ⟨h, _⟩ <;> omega
    refine ⟨by rw [if_pos hp]; omega, by omega, hlen, fun j hj => by rw [hg, if_pos hj], fun _ j hj => by omega, rfl, ?_, ?_⟩
    · rcases hs2 with ⟨h, h3⟩ | ⟨h, h3⟩
      · right; omega
      · left; exact h
    · rw [decide_eq_decide]
      constructor
      · intro _; exact hp
      · intro _
        rcases hs2 with ⟨h, _⟩ | ⟨h, _⟩ <;> omega
  · refine ⟨by rw [if_neg hp]; omega, by omega, hlen, fun j hj => by rw [hg, if_pos hj], fun h => absurd h hp, rfl, ?_, ?_⟩
    · left
      rcases hs2 with ⟨h, _⟩ | ⟨h, _⟩ <;> omega
    · rw [decide_eq_decide]
      constructor
      · intro _
        rcases hs2 with ⟨h, _⟩ | ⟨h, _⟩ <;> omega
      · intro h; exact absurd h hp
theorem next_facts (hB : B.length = n0) (hD : D.length = n1) (bB : Byt B) (bD : Byt D) (h1 : p ≤ e) (h2 : e ≤ n0) (hk : k = e - p) (hs : n0 + n1 ≤ 1048576) {it S : Nat} {X : List Int} {E : Nat} {L : Int} {ri m : Nat} (h : Mid n0 n1 k p B D lines it S X E L false ri) (hm : m = min (n1 - ri) (size2 S E - E)) :
    size2 S E = 2 * S ∧ E = S ∧ 0 < S ∧ m = min (n1 - ri) S ∧ it ≤ 21 ∧ (∀ j, j < E → (Go.splice (grown (moved X 0 E) S E) E ((D.drop ri).take m)).getD j 0 = X.getD j 0) ∧ (∀ j, j < m → (Go.splice (grown (moved X 0 E) S E) E ((D.drop ri).take m)).getD (E + j) 0 = D.getD (ri + j) 0) ∧
      (Go.splice (grown (moved X 0 E) S E) E ((D.drop ri).take m)).length = size2 S E := by
  obtain ⟨hES, hpw⟩ := h.more rfl
  have hS0 : 0 < S := Nat.lt_of_lt_of_le (Nat.pow_pos (by omega)) hpw
  have hsz : size2 S E = 2 * S := if_pos (by omega)
  have hE := h.hE
  have hri := h.hri
  have hit : it ≤ 21 := by
    rcases Nat.lt_or_ge it 22 with h3 | h3
    · omega
    · have h4 : 2 ^ 21 ≤ 2 ^ (it - 1) := Nat.pow_le_pow_right (by omega) (by omega)
      have : (2 : Nat) ^ 21 = 2097152 := by decide
      omega
  have hg := fun j => fill_get X D 0 E E S ri m j h.len rfl (Nat.zero_le _) h.ES (by rw [hD]; exact hm)
  refine ⟨hsz, hES, hS0, by rw [hm, hsz]; omega, hit, fun j hj => ?_, fun j hj => ?_, fill_length X D 0 E E S ri m h.len rfl (Nat.zero_le _) h.ES (by rw [hD]; exact hm)⟩
  · rw [hg, if_pos hj, Nat.zero_add]
  · rw [hg, if_neg (by omega), if_pos (by omega)]
    congr 2
    omega
theorem next_more (hB : B.length = n0) (hD : D.length = n1) (bB : Byt B) (bD : Byt D) (h1 : p ≤ e) (h2 : e ≤ n0) (hk : k = e - p) (hs : n0 + n1 ≤ 1048576) {it S : Nat} {X : List Int} {E : Nat} {L : Int} {ri m : Nat} (h : Mid n0 n1 k p B D lines it S X E L false ri) (hm : m = min (n1 - ri) (size2 S E - E)) (h0 : 0 < m) :
    Mid n0 n1 k p B D lines (it + 1) (size2 S E) (Go.splice (grown (moved X 0 E) S E) E ((D.drop ri).take m)) (E + m) (L + nls (X.take 0)) (decide (n1 - ri < size2 S E - E)) (ri + m) := by
  obtain ⟨hsz, hES, hS0, hm2, hit, g1, g2, hlen⟩ := next_facts hB hD bB bD h1 h2 hk hs h hm
  have hE := h.hE
  have hri := h.hri
  obtain ⟨_, hpw⟩ := h.more rfl
  refine ⟨by omega, by omega, by omega, by omega, by omega, hlen, h.byt.fill bD _ _ _ _ _, fun j hj => ?_, fun j hj => ?_, ?_, .inr (by omega), h.pos, fun h => ?_, fun h9 => ?_⟩
  · rw [g1 j (by omega)]; exact h.kept j hj
  · by_cases hj2 : j < ri
    · rw [g1 (k + j) (by omega)]; exact h.red j hj2
    · obtain ⟨t, rfl⟩ : ∃ t, j = ri + t := ⟨j - ri, by omega⟩
      have := g2 t (by omega)
      rw [show k + (ri + t) = E + t by omega]
      exact this
  · rw [h.hL]
    show _ + ((0 : Nat) : Int) = _
    omega
  · have := of_decide_eq_true h
    omega
  · have := of_decide_eq_false h9
    refine ⟨by omega, ?_⟩
    have h3 := h.it1
    have h4 : 2 ^ (it + 1 - 1) = 2 * 2 ^ (it - 1) := by
      rw [show it + 1 - 1 = (it - 1) + 1 by omega, Nat.pow_succ]
      omega
    omega
theorem next_end (hB : B.length = n0) (hD : D.length = n1) (bB : Byt B) (bD : Byt D) (h1 : p ≤ e) (h2 : e ≤ n0) (hk : k = e - p) (hs : n0 + n1 ≤ 1048576) {it S : Nat} {X : List Int} {E : Nat} {L : Int} {ri m : Nat} (h : Mid n0 n1 k p B D lines it S X E L false ri) (hm : m = min (n1 - ri) (size2 S E - E)) (h0 : ¬ 0 < m) :
    Fin n0 n1 k p B D lines (size2 S E) (Go.splice (grown (moved X 0 E) S E) E ((D.drop ri).take m)) (E + m) (L + nls (X.take 0)) (decide (n1 - ri < size2 S E - E)) := by
  obtain ⟨hsz, hES, hS0, hm2, hit, g1, g2, hlen⟩ := next_facts hB hD bB bD h1 h2 hk hs h hm
  have hE := h.hE
  have hri := h.hri
  have hp := h.pos
  have hr : ri = n1 := by omega
  refine ⟨by rw [if_pos hp]; omega, by omega, hlen, fun j hj => ?_, fun _ j hj => ?_, ?_, .inr (by omega), ?_⟩
  · rw [g1 j (by omega)]; exact h.kept j hj
  · rw [g1 (k + j) (by omega)]; exact h.red j (by omega)
  · rw [h.hL]
    show _ + ((0 : Nat) : Int) = _
    omega
  · rw [decide_eq_decide]
    constructor
    · intro _; exact hp
    · intro _; omega
end
end Go.Proofs.Qxb6614898aDoor
