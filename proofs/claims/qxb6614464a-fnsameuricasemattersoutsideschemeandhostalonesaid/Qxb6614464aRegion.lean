/-
  THE WALKS of zzURIRegion and zzInRegion.
-/
import Derived.Test.Qxb6614464aCut
namespace Go.Proofs.Qxb6614464a
open Go.RowKit Uri
set_option linter.unusedVariables false
set_option maxHeartbeats 4000000
set_option maxRecDepth 1000000

theorem ret_int3 {k : IntKind} {a b c a' b' c' : Int} (h : a = a') (h2 : b = b') (h3 : c = c') : Ending.returned (.tuple #[.int k a, .int k b, .int k c]) = .returned (.tuple #[.int k a', .int k b', .int k c']) := by rw [h, h2, h3]

theorem inreg_any (k : Nat) (r : Nat × Nat × Nat) (w : World) :
    Calls Try.prog 15 #[.int .i64 k, .int .i64 r.1, .int .i64 r.2.1, .int .i64 r.2.2] w fun e w' => e = .returned (.bool (inReg r k)) ∧ w = w' := by
  obtain ⟨a, b, c⟩ := r
  unfold inReg
  simp only
  by_cases h1 : k < a
  · go_enter Try.func15, Try.ntmps15
    go_wp2
    go_ret
    exact ⟨ret_bool (by simp [h1]), rfl⟩
  · by_cases h2 : b ≤ k
    · by_cases h3 : k < c
      · go_enter Try.func15, Try.ntmps15
        go_wp2
        go_ret
        exact ⟨ret_bool (by simp [h1, h2, h3]), rfl⟩
      · go_enter Try.func15, Try.ntmps15
        go_wp2
        go_ret
        exact ⟨ret_bool (by simp [h1, h2, h3]), rfl⟩
    · go_enter Try.func15, Try.ntmps15
      go_wp2
      go_ret
      exact ⟨ret_bool (by simp [h1, h2]), rfl⟩

theorem byte_eq (b : UInt8) (c : UInt8) : (((b.toNat : Int)) == ((c.toNat : Nat) : Int)) = (b == c) := by
  rw [Bool.eq_iff_iff, beq_iff_eq, beq_iff_eq]
  exact ⟨fun h => UInt8.toNat_inj.1 (by omega), fun h => by rw [h]⟩
theorem colon_at (l : List UInt8) (k : Nat) (hk : k < l.length) (h : ∀ j, j < k → l.getD j 0 ≠ 58) (he : l.getD k 0 = 58) : colon l = k := by
  unfold colon
  rw [List.findIdx_eq hk]
  refine ⟨by simpa [List.getD, hk] using he, fun j hj => ?_⟩
  have := h j hj
  simpa [List.getD, show j < l.length by omega] using this
theorem colon_none (l : List UInt8) (h : ∀ j, j < l.length → l.getD j 0 ≠ 58) : colon l = l.length := by
  unfold colon
  rw [List.findIdx_eq_length]
  intro x hx
  obtain ⟨j, hj, rfl⟩ := List.mem_iff_getElem.1 hx
  have := h j hj
  simpa [List.getD, hj] using this

theorem region_none (s : ByteArray) (w : World) (hs : s.size ≤ 1048576) (hc : ¬ colon (bl s) < (bl s).length) :
    Calls Try.prog 14 #[.string s] w fun e w' => e = .returned (.tuple #[.int .i64 0, .int .i64 0, .int .i64 0]) ∧ w = w' := by
  have HN : Hid (∀ k (h : k < s.size), ((s[k].toNat : Int) == 58) = false) := by
    show ∀ k (h : k < s.size), _
    intro k hk
    have := byte_eq s[k] 58
    rw [show ((58 : UInt8).toNat : Int) = 58 from rfl] at this
    rw [this, bl_get s k hk, beq_eq_false_iff_ne]
    intro e
    apply hc
    unfold colon
    rw [List.findIdx_lt_length]
    refine ⟨(bl s).getD k 0, ?_, by rw [e]; rfl⟩
    rw [List.getD_eq_getElem?_getD, List.getElem?_eq_getElem (by rw [bl_len]; exact hk)]
    exact List.getElem_mem _
  clear hc
  go_enter Try.func14, Try.ntmps14
  go_wp2
  go_loop [5, 6] (fun c i => c = .int .i64 (-1) ∧ ∃ k : Nat, k ≤ s.size ∧ i = .int .i64 k) (fun _ i => s.size - (intOf i).toNat)
  case atStart => exact ⟨rfl, 0, Nat.zero_le _, rfl⟩
  case round =>
    obtain ⟨rfl, k, hk, rfl⟩ := hrel
    by_cases hlt : k < s.size
    · have ht := HN.out k hlt
      go_wp2
      go_round
      case rel => exact ⟨rfl, k + 1, by omega, by go_num⟩
      case measure => simp [intOf]; omega
    · go_wp2
      go_ret3
      exact ⟨rfl, rfl⟩

theorem colon_facts (s : ByteArray) (c : Nat) (hcc : colon (bl s) = c) (hc : c < s.size) : (∀ k (h : k < s.size), k < c → ((s[k].toNat : Int) == 58) = false) ∧ ((s[c].toNat : Int) == 58) = true := by
  subst hcc
  constructor
  · intro k hk h
    have := byte_eq s[k] 58
    rw [show ((58 : UInt8).toNat : Int) = 58 from rfl] at this
    rw [this, bl_get s k hk]
    have := List.not_of_lt_findIdx (p := (· == 58)) (xs := bl s) h
    rw [List.getD_eq_getElem?_getD, List.getElem?_eq_getElem (by rw [bl_len]; exact hk)]
    simpa using this
  · have := byte_eq s[colon (bl s)] 58
    rw [show ((58 : UInt8).toNat : Int) = 58 from rfl] at this
    rw [this, bl_get s _ hc]
    have := List.findIdx_getElem (p := (· == 58)) (xs := bl s) (w := by rw [← bl_len] at hc; exact hc)
    rw [List.getD_eq_getElem?_getD, List.getElem?_eq_getElem (by rw [bl_len]; exact hc)]
    exact this

theorem region_plain (s : ByteArray) (w : World) (c : Nat) (HCC : Hid (colon (bl s) = c)) (hs : s.size ≤ 1048576) (hc : c < s.size) (HS : Hid (slashes (bl s) = false)) :
    Calls Try.prog 14 #[.string s] w fun e w' => e = .returned (.tuple #[.int .i64 c, .int .i64 0, .int .i64 0]) ∧ w = w' := by
  have HF : Hid _ := colon_facts s c HCC.out hc
  go_enter Try.func14, Try.ntmps14
  go_wp2
  go_loop [5, 6] (fun q i => q = .int .i64 (-1) ∧ ∃ k : Nat, k ≤ c ∧ i = .int .i64 k) (fun _ i => s.size - (intOf i).toNat)
  case atStart => exact ⟨rfl, 0, Nat.zero_le _, rfl⟩
  case round =>
    obtain ⟨rfl, k, hk, rfl⟩ := hrel
    by_cases hlt : k < c
    · have hks : k < s.size := by omega
      have ht := HF.out.1 k hks hlt
      go_wp2
      go_round
      case rel => exact ⟨rfl, k + 1, by omega, by go_num⟩
      case measure => simp [intOf]; omega
    · obtain rfl : k = c := by omega
      have ht := HF.out.2
      by_cases h2 : k + 2 < s.size
      · have h1 : k + 1 < s.size := by omega
        have e1 : ((s[k + 1].toNat : Int) == 47) = ((bl s).getD (k + 1) 0 == 47) := by rw [← bl_get s (k + 1) h1]; exact byte_eq s[k + 1] 47
        have e2 : ((s[k + 2].toNat : Int) == 47) = ((bl s).getD (k + 2) 0 == 47) := by rw [← bl_get s (k + 2) h2]; exact byte_eq s[k + 2] 47
        have hs' := HS.out
        unfold slashes at hs'
        rw [HCC.out, bl_len, decide_eq_true h2, Bool.true_and, ← e1, ← e2] at hs'
        cases g1 : ((s[k + 1].toNat : Int) == 47) with
        | false =>
          clear e1 e2 hs'
          go_wp2
          go_ret3
          exact ⟨rfl, rfl⟩
        | true =>
          rw [g1, Bool.true_and] at hs'
          clear e1 e2
          go_wp2
          go_ret3
          exact ⟨rfl, rfl⟩
      · go_wp2
        go_ret3
        exact ⟨rfl, rfl⟩

/-- The authority's end, as the loop meets it. -/
theorem end_facts (s : ByteArray) (c e : Nat) (hcc : colon (bl s) = c) (he : endAt (bl s) = e) (h3 : c + 2 < s.size) :
    c + 3 + e ≤ s.size ∧ (∀ k (h : k < s.size), c + 3 ≤ k → k < c + 3 + e → ((s[k].toNat : Int) != 47) = true ∧ ((s[k].toNat : Int) != 63) = true ∧ ((s[k].toNat : Int) != 35) = true) ∧
    (∀ h : c + 3 + e < s.size, ((s[c + 3 + e].toNat : Int) != 47) = false ∨ (((s[c + 3 + e].toNat : Int) != 47) = true ∧ ((s[c + 3 + e].toNat : Int) != 63) = false) ∨ (((s[c + 3 + e].toNat : Int) != 47) = true ∧ ((s[c + 3 + e].toNat : Int) != 63) = true ∧ ((s[c + 3 + e].toNat : Int) != 35) = false)) := by
  have hlen : (auth (bl s)).length = s.size - (c + 3) := by unfold auth; rw [List.length_drop, bl_len, hcc]
  have hget : ∀ q, q < (auth (bl s)).length → (h : c + 3 + q < s.size) → (auth (bl s)).getD q 0 = s[c + 3 + q] := by
    intro q hq h
    rw [bl_get s _ h]
    unfold auth
    rw [hcc]
    simp [List.getD]
  have hle : e ≤ (auth (bl s)).length := by rw [← he]; exact List.findIdx_le_length
  have hnot : ∀ x : UInt8, isEnd x = false → ((x.toNat : Int) != 47) = true ∧ ((x.toNat : Int) != 63) = true ∧ ((x.toNat : Int) != 35) = true := by
    intro x hx
    unfold isEnd at hx
    simp only [Bool.or_eq_false_iff] at hx
    have a1 := byte_eq x 47
    have a2 := byte_eq x 63
    have a3 := byte_eq x 35
    rw [hx.1] at a1; rw [hx.2.1] at a2; rw [hx.2.2] at a3
    exact ⟨by simpa [bne] using a1, by simpa [bne] using a2, by simpa [bne] using a3⟩
  refine ⟨by omega, fun k h h1 h2 => ?_, fun h => ?_⟩
  · have hq : k - (c + 3) < (auth (bl s)).length := by omega
    have hk : c + 3 + (k - (c + 3)) = k := by omega
    have hx := List.not_of_lt_findIdx (p := isEnd) (xs := auth (bl s)) (i := k - (c + 3)) (by show _ < endAt (bl s); omega)
    have g := hget _ hq (by omega)
    rw [List.getD_eq_getElem?_getD, List.getElem?_eq_getElem hq, Option.getD_some] at g
    rw [g] at hx
    simp only [hk] at hx
    exact hnot _ (by simpa using hx)
  · have hq : e < (auth (bl s)).length := by omega
    have hx := List.findIdx_getElem (p := isEnd) (xs := auth (bl s)) (w := by show endAt (bl s) < _; omega)
    change isEnd ((auth (bl s))[endAt (bl s)]) = true at hx
    simp only [he] at hx
    have g := hget e hq h
    rw [List.getD_eq_getElem?_getD, List.getElem?_eq_getElem hq, Option.getD_some] at g
    rw [g] at hx
    unfold isEnd at hx
    simp only [Bool.or_eq_true, beq_iff_eq] at hx
    rcases hx with hx | hx | hx
    · left; rw [hx]; rfl
    · right; left; rw [hx]; exact ⟨rfl, rfl⟩
    · right; right; rw [hx]; exact ⟨rfl, rfl, rfl⟩
theorem host_step (l : List UInt8) (c e q : Nat) (hcc : colon l = c) (he : endAt l = e) (hq : q < e) : atFrom ((auth l).take e) (q + 1) = if l.getD (c + 3 + q) 0 = 64 then q + 1 else atFrom ((auth l).take e) q := by
  rw [atFrom]
  have : ((auth l).take e).getD q 0 = l.getD (c + 3 + q) 0 := by
    unfold auth
    rw [hcc]
    simp [List.getD, hq]
  rw [this]

theorem region_auth (s : ByteArray) (w : World) (c e : Nat) (HCC : Hid (colon (bl s) = c)) (HE : Hid (endAt (bl s) = e)) (hs : s.size ≤ 1048576) (hc : c + 2 < s.size) (HS : Hid (slashes (bl s) = true)) :
    Calls Try.prog 14 #[.string s] w fun r w' => r = .returned (.tuple #[.int .i64 c, .int .i64 ((c : Int) + 3 + (hostAt (bl s) : Int)), .int .i64 ((c : Int) + 3 + (e : Int))]) ∧ w = w' := by
  have HF : Hid _ := colon_facts s c HCC.out (by omega)
  have HG : Hid _ := end_facts s c e HCC.out HE.out hc
  have hle := HG.out.1
  have hg1 : ((s[c + 1].toNat : Int) == 47) = true := by
    have := HS.out
    unfold slashes at this
    simp only [Bool.and_eq_true, HCC.out] at this
    rw [← this.2.1, ← bl_get s (c + 1) (by omega)]
    exact byte_eq s[c + 1] 47
  have hg2 : ((s[c + 2].toNat : Int) == 47) = true := by
    have := HS.out
    unfold slashes at this
    simp only [Bool.and_eq_true, HCC.out] at this
    rw [← this.2.2, ← bl_get s (c + 2) (by omega)]
    exact byte_eq s[c + 2] 47
  have HH : Hid (hostAt (bl s) = atFrom ((auth (bl s)).take e) e) := by
    show _ = _
    unfold hostAt lastAt
    rw [HE.out]
    congr 1
    rw [List.length_take, Nat.min_eq_left]
    rw [← HE.out]
    exact List.findIdx_le_length
  go_enter Try.func14, Try.ntmps14
  go_wp2
  go_loop [5, 6] (fun q i => q = .int .i64 (-1) ∧ ∃ k : Nat, k ≤ c ∧ i = .int .i64 k) (fun _ i => s.size - (intOf i).toNat)
  case atStart => exact ⟨rfl, 0, Nat.zero_le _, rfl⟩
  case round =>
    obtain ⟨rfl, k, hk, rfl⟩ := hrel
    by_cases hlt : k < c
    · have hks : k < s.size := by omega
      have ht := HF.out.1 k hks hlt
      go_wp2
      go_round
      case rel => exact ⟨rfl, k + 1, by omega, by go_num⟩
      case measure => simp [intOf]; omega
    · obtain rfl : k = c := by omega
      have ht := HF.out.2
      go_wp2
      go_loop [8] (fun q => ∃ m : Nat, m ≤ e ∧ q = .int .i64 ((k : Int) + 3 + (m : Int))) (fun q => s.size - (intOf q).toNat)
      case atStart => exact ⟨0, Nat.zero_le _, by go_num⟩
      case round =>
        obtain ⟨m, hm, rfl⟩ := hrel
        clear ht hg1 hg2
        by_cases hme : m < e
        · have hps : k + 3 + m < s.size := by omega
          obtain ⟨t1, t2, t3⟩ := HG.out.2.1 (k + 3 + m) hps (by omega) (by omega)
          go_wp2
          go_round
          case rel => exact ⟨m + 1, by omega, by go_num⟩
          case measure => simp [intOf]; omega
        · obtain rfl : m = e := by omega
          have hcases : ¬ k + 3 + m < s.size ∨ ∃ h : k + 3 + m < s.size, ((s[k + 3 + m].toNat : Int) != 47) = false ∨ (((s[k + 3 + m].toNat : Int) != 47) = true ∧ ((s[k + 3 + m].toNat : Int) != 63) = false) ∨ (((s[k + 3 + m].toNat : Int) != 47) = true ∧ ((s[k + 3 + m].toNat : Int) != 63) = true ∧ ((s[k + 3 + m].toNat : Int) != 35) = false) := by
            by_cases h : k + 3 + m < s.size
            · exact .inr ⟨h, HG.out.2.2 h⟩
            · exact .inl h
          have HK : Hid (∀ j, j < m → ∀ h : k + 3 + j < s.size, ((s[k + 3 + j].toNat : Int) == 64) = true → atFrom ((auth (bl s)).take m) (j + 1) = j + 1) := by
            show ∀ j, j < m → _
            intro j hj h ht
            rw [host_step (bl s) k m j HCC.out HE.out hj, if_pos]
            rw [← bl_get s _ h]
            have := byte_eq s[k + 3 + j] 64
            rw [show ((64 : UInt8).toNat : Int) = 64 from rfl, ht] at this
            exact eq_of_beq this.symm
          have HK2 : Hid (∀ j, j < m → ∀ h : k + 3 + j < s.size, ((s[k + 3 + j].toNat : Int) == 64) = false → atFrom ((auth (bl s)).take m) (j + 1) = atFrom ((auth (bl s)).take m) j) := by
            show ∀ j, j < m → _
            intro j hj h ht
            rw [host_step (bl s) k m j HCC.out HE.out hj, if_neg]
            rw [← bl_get s _ h]
            intro e
            rw [e] at ht
            exact absurd ht (by decide)
          have HL : Hid (∀ j, atFrom ((auth (bl s)).take m) j ≤ j) := fun j => atFrom_le _ j
          clear HG HF HS
          rcases hcases with hx | ⟨hx, t1 | ⟨t1, t2⟩ | ⟨t1, t2, t3⟩⟩
          all_goals
            go_wp2
            go_loop [9, 10] (fun h j => ∃ q : Nat, q ≤ m ∧ j = .int .i64 ((k : Int) + 3 + (q : Int)) ∧ h = .int .i64 ((k : Int) + 3 + (atFrom ((auth (bl s)).take m) q : Int))) (fun _ j => s.size - (intOf j).toNat)
            case atStart => exact ⟨0, Nat.zero_le _, by go_num, by go_num⟩
            case round =>
              obtain ⟨q, hq, rfl, rfl⟩ := hrel
              have hq' := HL.out q
              by_cases hqm : q < m
              · have hps : k + 3 + q < s.size := by omega
                cases g : ((s[k + 3 + q].toNat : Int) == 64) with
                | true =>
                  have HA : Hid _ := HK.out q hqm hps g
                  go_wp2
                  go_round
                  case rel => exact ⟨q + 1, by omega, by go_num, by rw [HA.out]; go_num⟩
                  case measure => simp [intOf]; omega
                | false =>
                  have HA : Hid _ := HK2.out q hqm hps g
                  go_wp2
                  go_round
                  case rel => exact ⟨q + 1, by omega, by go_num, by rw [HA.out]⟩
                  case measure => simp [intOf]; omega
              · obtain rfl : q = m := by omega
                go_wp2
                go_ret3
                exact ⟨ret_int3 rfl (by rw [HH.out]) rfl, rfl⟩
theorem region_any (s : ByteArray) (w : World) (hs : s.size ≤ 1048576) :
    Calls Try.prog 14 #[.string s] w fun r w' => r = .returned (.tuple #[.int .i64 (region (bl s)).1, .int .i64 (region (bl s)).2.1, .int .i64 (region (bl s)).2.2]) ∧ w = w' := by
  unfold region
  by_cases hc : colon (bl s) < (bl s).length
  · rw [if_pos hc]
    cases hn : slashes (bl s) with
    | false => exact region_plain s w _ rfl hs hc hn
    | true =>
      refine (region_auth s w _ _ rfl rfl hs (by have := (slashes_get _ hn).1; rwa [bl_len] at this) hn).mono ?_
      rintro r w' ⟨rfl, rfl⟩
      exact ⟨ret_int3 rfl (by simp) (by simp), rfl⟩
  · rw [if_neg hc]
    exact region_none s w hs hc
end Go.Proofs.Qxb6614464a
