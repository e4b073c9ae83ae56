/-
  THE SCANNER's SMALL CALLS: bytes.Count at one newline, zzCountNL, zzClone, ZZNewScanner, ZZScannerState.
-/
import Derived.Test.Qxb6614898aDoorScan
import Derived.Test.Qxb6614898aDoorDefLaw
namespace Go.Proofs.Qxb6614898aDoor
open Go.RowKit Go.Joins
set_option linter.unusedVariables false
set_option maxHeartbeats 4000000
set_option maxRecDepth 1000000

/-- How many newlines. -/
def nls (zs : List Int) : Nat := zs.count 10
theorem u8_eq10 (x : Int) (h0 : 0 ≤ x) (h1 : x < 256) : (UInt8.ofNat x.toNat == (10 : Int).toNat.toUInt8) = (x == 10) := by
  rw [Bool.eq_iff_iff]
  simp only [beq_iff_eq]
  constructor
  · intro h
    have := congrArg UInt8.toNat h
    simp at this
    omega
  · intro h; rw [h]
theorem count10 (zs : List Int) (hb : ∀ x ∈ zs, 0 ≤ x ∧ x < 256) : Lib.countByte (Lib.bytesOf zs) (10 : Int).toNat.toUInt8 = nls zs := by
  unfold nls Lib.countByte
  induction zs with
  | nil => rfl
  | cons x r ih =>
    have ih := ih (fun y hy => hb y (by simp [hy]))
    have hx := hb x (by simp)
    have e : Lib.bytesOf (x :: r) = UInt8.ofNat x.toNat :: Lib.bytesOf r := rfl
    rw [e, List.count_cons, List.count_cons, u8_eq10 x hx.1 hx.2, ih]

theorem cnt_some (b o n c nb no nc : Nat) (zs : List Int) (w : World) (hz : zs.length = n) (hb : ∀ x ∈ zs, 0 ≤ x ∧ x < 256) (hc : ∀ i, i < n → w.cell? ⟨b, o + i, none⟩ = some (.int .u8 (zs.getD i 0)))
    (hnl : w.cell? ⟨nb, no, none⟩ = some (.int .u8 10)) :
    Calls Tryd.prog 26 #[.slice (some ⟨b, o, none⟩) n c, .slice (some ⟨nb, no, none⟩) 1 nc] w fun e w' => e = .returned (.int .i64 (nls zs)) ∧ w = w' := by
  have he := count10 zs hb
  have hr := Lib.run_countSlice (P := Tryd.prog) w b o n c zs hz hc 10
  rw [he] at hr
  clear he hc hb hz
  generalize nls zs = v at *
  have HR : Hid _ := hr
  clear hr
  go_enter Tryd.func26, Tryd.ntmps26
  go_wp2
  rw [run_callFunc_extern Tryd.func29 (by kernel_rfl) (by kernel_rfl) (by kernel_rfl) (e := Extern.BytealgCount.count) (by kernel_rfl), HR.out]
  simp only [Result.andThen]
  rw [Oper.upon_value]
  go_wp2
  go_ret
  exact ⟨rfl, rfl⟩

theorem nls_take (zs : List Int) (k : Nat) (hk : k < zs.length) : nls (zs.take (k + 1)) = nls (zs.take k) + (if (zs.getD k 0 == 10) = true then 1 else 0) := by
  unfold nls
  have e : zs.getD k 0 = zs[k] := by simp [List.getD, hk]
  rw [e, List.take_add_one, List.getElem?_eq_getElem hk, List.count_append]
  simp [List.count_cons]
/-- zzCountNL. -/
theorem cnl_any (a : Option Addr) (n c : Nat) (zs : List Int) (w : World) (hn : n ≤ 4194304) (h : Sl .u8 w a n zs) :
    Calls Tryd.prog 18 #[.slice a n c] w fun e w' => e = .returned (.int .i64 (nls zs)) ∧ w = w' := by
  have H : Hid _ := h
  clear h
  go_enter Tryd.func18, Tryd.ntmps18
  go_wp2
  go_loop [3, 4] (fun s i => ∃ k q : Nat, k ≤ n ∧ q ≤ k ∧ i = .int .i64 k ∧ s = .int .i64 q ∧ Hid (q = nls (zs.take k))) (fun _ i => n - (intOf i).toNat)
  case atStart => exact ⟨0, 0, Nat.zero_le _, Nat.zero_le _, rfl, rfl, rfl⟩
  case round =>
    obtain ⟨k, q, hk, hq, rfl, rfl, HN⟩ := hrel
    by_cases hlt : k < n
    · obtain ⟨b, o, rfl, _, hc⟩ := H.out.2 (by omega)
      have hx := hc k hlt
      clear hc
      have HT : Hid _ := nls_take zs k (by have := H.out.1; omega)
      generalize hxv : zs.getD k 0 = x at *
      clear hxv
      go_wp2
      · have ht : (x == 10) = true := by assumption
        go_round
        case rel => exact ⟨k + 1, q + 1, by omega, by omega, by go_num, by go_num, by show _ = _; rw [HT.out, ← HN.out, if_pos ht]⟩
        case measure => simp [intOf]; omega
      · have ht : (x == 10) = false := by assumption
        go_round
        case rel => exact ⟨k + 1, q, by omega, by omega, by go_num, rfl, by show _ = _; rw [HT.out, ← HN.out, if_neg (by simp [ht])]; rfl⟩
        case measure => simp [intOf]; omega
    · obtain rfl : k = n := by omega
      have e : q = nls zs := by rw [HN.out, List.take_of_length_le (by have := H.out.1; omega)]
      subst e
      go_wp2
      go_ret
      exact ⟨rfl, rfl⟩

/-- zzClone: the bytes anew in a block of their own (nil at nil). -/
theorem clone_any (a : Option Addr) (n c : Nat) (zs : List Int) (w : World) (hn : n ≤ 4194304) (h : Arg .u8 w a n c zs) :
    Calls Tryd.prog 15 #[.slice a n c] w fun e w' => ∃ a', e = .returned (.slice a' n n) ∧ Below w.heap.size w w' ∧ Rb w' a' n zs ∧ ∀ x, a' = some x → w.heap.size ≤ x.block ∧ x.block < w'.heap.size := by
  obtain ⟨hz, h2⟩ := h
  rcases h2 with ⟨rfl, rfl, rfl⟩ | ⟨x, rfl, hc⟩
  · have he := Lib.run_eql_slice_nil (P := Tryd.prog) w 22 5 none 0 0 0 0 Tryd.underlying22
    go_enter Tryd.func15, Tryd.ntmps15
    go_wp2
    go_ret
    exact ⟨none, rfl, Below.refl _ w, ⟨hz, .inl ⟨rfl, rfl⟩⟩, fun x hx => by cases hx⟩
  · have hm := run_mk (T := 22) (E := 5) (k := .u8) (by8 := 1) Tryd.underlying22 Tryd.info5 (by decide) n hn w
    have hcp := fun ty => run_clone (T := 22) (E := 5) (k := .u8) (by8 := 1) Tryd.underlying22 Tryd.info5 w ty x n c zs hz hc
    have he := Lib.run_eql_slice_nil (P := Tryd.prog) w 22 5 (some x) n c 0 0 Tryd.underlying22
    clear hc
    go_enter Tryd.func15, Tryd.ntmps15
    go_wp2
    go_ret
    exact ⟨_, rfl, (Below.refl _ w).alloc (Nat.le_refl _) _, ⟨hz, .inr ⟨_, rfl, alloc_heap _ _⟩⟩, fun y hy => by obtain rfl := Option.some.inj hy; exact ⟨Nat.le_refl _, by simp⟩⟩

theorem results_tmp6 {fn : Func} {t u v x y z : Tmp} (h : fn.results = #[.tmp t, .tmp u, .tmp v, .tmp x, .tmp y, .tmp z]) (tmps : Array Value) (P : Program) (w : World) :
    (results fn tmps).run P w = .ok (.tuple #[tmps.getD t undef, tmps.getD u undef, tmps.getD v undef, tmps.getD x undef, tmps.getD y undef, tmps.getD z undef]) w := by
  simp [results, h]
/-- ZZScannerState. -/
theorem state_at (W : World) (bs br : Nat) (ba : Option Addr) (bn : Nat) (B : List Int) (da : Option Addr) (dn : Nat) (D : List Int) (pos en lines : Int) (eof : Bool) (ri : Int) (h : Sn W bs br ba bn B da dn D pos en lines eof ri) :
    Calls Tryd.prog 17 #[.pointer (some ⟨bs, 0, none⟩)] W fun e w' => e = .returned (.tuple #[.slice ba bn bn, .int .i64 pos, .int .i64 en, .int .i64 lines, .bool eof, .nilIface]) ∧ ∃ m, w' = W.drewN m := by
  obtain ⟨c0, c1, c2, c3, c4, c5, c6, cf⟩ := h.cells
  clear h c0 cf
  cases eof <;> (
  go_enter Tryd.func17, Tryd.ntmps17
  go_wp2
  go_quiet (fail)
  go_wp2
  (try simp only [Exit.inBlock, Exit.then])
  refine bodyPost_ret (results_tmp6 rfl _ _ _) rfl ?_
  exact ⟨rfl, _, rfl⟩)

/-- ZZNewScanner. -/
theorem new_at (w : World) (ba : Option Addr) (bn : Nat) (B : List Int) (da : Option Addr) (dn : Nat) (D : List Int) (pos en lines : Int) (eof : Bool) (hB : Rb w ba bn B) (hD : Rb w da dn D) (hne : ∀ x y, ba = some x → da = some y → x.block ≠ y.block) :
    Calls Tryd.prog 14 #[.slice da dn dn, .slice ba bn bn, .int .i64 pos, .int .i64 en, .int .i64 lines, .bool eof] w fun e w' => e = .returned (.pointer (some ⟨w.heap.size + 1, 0, none⟩)) ∧ Below w.heap.size w w' ∧ w'.heap.size = w.heap.size + 2 ∧ Sn w' (w.heap.size + 1) w.heap.size ba bn B da dn D pos en lines eof 0 := by
  have HB : Hid _ := hB
  have HD : Hid _ := hD
  clear hB hD
  go_enter Tryd.func14, Tryd.ntmps14
  go_wp2
  go_ret
  have hk : ∀ (w : World) (o : Obj) (k : Nat) (v : Obj), w.heap[k]? = some v → (w.alloc o).heap[k]? = some v := fun w o k v h => by
    have hlt : k < w.heap.size := (Array.getElem?_eq_some_iff.1 h).1
    show (w.heap.push o)[k]? = some v
    rw [Array.getElem?_push_lt hlt]
    exact (Array.getElem?_eq_getElem hlt).symm.trans h
  have hR : ∀ (w : World) (o : Obj) (a : Option Addr) (n : Nat) (zs : List Int), Rb w a n zs → Rb (w.alloc o) a n zs := fun w o a n zs h => by
    refine ⟨h.1, ?_⟩
    rcases h.2 with h2 | ⟨b, h1, h2⟩
    · exact .inl h2
    · exact .inr ⟨b, h1, hk _ _ _ _ h2⟩
  have hbel := (Below.refl w.heap.size w).alloc (Nat.le_refl _) (Obj.cells #[Value.slice da dn dn, Value.int IntKind.i64 0, Value.int IntKind.i64 (-1)] 67)
  have hsc := alloc_heap (w.alloc (Obj.cells #[Value.slice da dn dn, Value.int IntKind.i64 0, Value.int IntKind.i64 (-1)] 67)) (.cells (scA w.heap.size eof ba bn pos en lines [Value.slice none 0 0, Value.slice none 0 0, Value.slice none 0 0, Value.slice none 0 0, Value.bool false,
          Value.int IntKind.i64 0, Value.int IntKind.u64 0, Value.slice none 0 0, Value.bool false,
          Value.slice none 0 0, Value.slice none 0 0, Value.bool false]) 62 (0, 0))
  have e : (w.alloc (Obj.cells #[Value.slice da dn dn, Value.int IntKind.i64 0, Value.int IntKind.i64 (-1)] 67)).heap.size = w.heap.size + 1 := by simp
  rw [e] at hsc
  have hrd := hk _ (.cells (scA w.heap.size eof ba bn pos en lines [Value.slice none 0 0, Value.slice none 0 0, Value.slice none 0 0, Value.slice none 0 0, Value.bool false,
          Value.int IntKind.i64 0, Value.int IntKind.u64 0, Value.slice none 0 0, Value.bool false,
          Value.slice none 0 0, Value.slice none 0 0, Value.bool false]) 62 (0, 0)) _ _ (alloc_heap w (.cells #[.slice da dn dn, .int .i64 0, .int .i64 (-1)] 67))
  exact ⟨rfl, hbel.alloc hbel.size _, by simp, ⟨⟨_, hsc⟩, ⟨_, hrd⟩, hR _ _ _ _ _ (hR _ _ _ _ _ HB.out), hR _ _ _ _ _ (hR _ _ _ _ _ HD.out), hne⟩⟩
end Go.Proofs.Qxb6614898aDoor
