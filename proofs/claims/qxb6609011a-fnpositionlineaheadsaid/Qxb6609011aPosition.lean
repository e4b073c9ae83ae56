/-
  THE WALK of position: bytes.Count at the newline (the model's entry internal/bytealg.Count is run), bytes.LastIndexByte, position, ZZposition.
-/
import Derived.Test.Qxb6609011aWalks
import Derived.Shelf.Bytes.SlCountOne
import Derived.Lib.SlBytesConst
namespace Go.Proofs.Qxb6609011a
open Go.RowKit Pos

theorem u8_eq (x : Int) (h0 : 0 ≤ x) (h1 : x < 256) : (x.toNat.toUInt8 == (10 : Int).toNat.toUInt8) = decide (x = 10) := by
  rw [Bool.eq_iff_iff]
  simp only [beq_iff_eq, decide_eq_true_eq]
  constructor
  · intro h
    have := congrArg UInt8.toNat h
    simp only [Nat.toUInt8, UInt8.toNat_ofNat'] at this
    omega
  · intro h; rw [h]
theorem count_cnt (zs : List Int) (hb : ∀ x ∈ zs, 0 ≤ x ∧ x < 256) : Lib.countByte (Lib.bytesOf zs) (10 : Int).toNat.toUInt8 = cnt zs := by
  induction zs with
  | nil => rfl
  | cons x r ih =>
    have h := hb x (by simp)
    have ih := ih (fun y hy => hb y (by simp [hy]))
    unfold Lib.countByte Lib.bytesOf at *
    rw [List.map_cons, List.count_cons, ih, u8_eq x h.1 h.2, cnt]
    simp only [decide_eq_true_eq]
    omega

/-- bytes.Count at a separator that is the one byte 10. -/
theorem bcount_some (b o n c b2 o2 d : Nat) (xs : List Int) (w : World) (hx : xs.length = n) (hb : ∀ x ∈ xs, 0 ≤ x ∧ x < 256) (hc : ∀ i, i < n → w.cell? ⟨b, o + i, none⟩ = some (.int .u8 (xs.getD i 0))) (hc2 : w.cell? ⟨b2, o2, none⟩ = some (.int .u8 10)) :
    Calls Try.prog 13 #[.slice (some ⟨b, o, none⟩) n c, .slice (some ⟨b2, o2, none⟩) 1 d] w fun e w' => e = .returned (.int .i64 (cnt xs)) ∧ w' = w := by
  have he := count_cnt xs hb
  go_enter Try.func13, Try.ntmps13
  go_wp2
  rw [run_callFunc_extern Try.func16 (by kernel_rfl) (by kernel_rfl) (by kernel_rfl) (e := Extern.BytealgCount.count) (by kernel_rfl), Lib.run_countSlice w b o n c xs hx hc 10, he]
  simp only [Result.andThen]
  rw [Oper.upon_value]
  clear he
  go_wp2
  go_ret
  exact ⟨rfl, rfl⟩
theorem bcount_nil (b2 o2 d : Nat) (w : World) (hc2 : w.cell? ⟨b2, o2, none⟩ = some (.int .u8 10)) :
    Calls Try.prog 13 #[.slice none 0 0, .slice (some ⟨b2, o2, none⟩) 1 d] w fun e w' => e = .returned (.int .i64 0) ∧ w' = w := by
  go_enter Try.func13, Try.ntmps13
  go_wp2
  rw [run_callFunc_extern Try.func16 (by kernel_rfl) (by kernel_rfl) (by kernel_rfl) (e := Extern.BytealgCount.count) (by kernel_rfl), Lib.run_countNil w 0 0 10]
  simp only [Result.andThen]
  rw [Oper.upon_value]
  go_wp2
  go_ret
  exact ⟨rfl, rfl⟩

/-- bytes.LastIndexByte at the newline. -/
theorem blast_some (b o n c : Nat) (zs : List Int) (w : World) (hn : n ≤ 2097152) (hc : ∀ i, i < n → w.cell? ⟨b, o + i, none⟩ = some (.int .u8 (zs.getD i 0))) :
    Calls Try.prog 14 #[.slice (some ⟨b, o, none⟩) n c, .int .u8 10] w fun e w' => e = .returned (.int .i64 (lastFrom zs n)) ∧ w' = w := by
  go_enter Try.func14, Try.ntmps14
  go_wp2_with fail
  refine (last_some b o n c zs _ hn hc).mono ?_
  rintro e w' ⟨rfl, rfl⟩
  go_wp2
  go_ret
  exact ⟨rfl, rfl⟩
theorem blast_nil (w : World) :
    Calls Try.prog 14 #[.slice none 0 0, .int .u8 10] w fun e w' => e = .returned (.int .i64 (-1)) ∧ w' = w := by
  go_enter Try.func14, Try.ntmps14
  go_wp2_with fail
  refine (last_nil _).mono ?_
  rintro e w' ⟨rfl, rfl⟩
  go_wp2
  go_ret
  exact ⟨rfl, rfl⟩

theorem getD_take (zs : List Int) (m i : Nat) (h : i < m) : (zs.take m).getD i 0 = zs.getD i 0 := by simp [List.getD, h]

/-- position. -/
theorem position_some (b o n c m : Nat) (zs : List Int) (w : World) (hm : m ≤ n) (hnc : n ≤ c) (hn : n ≤ 2097152) (hz : n ≤ zs.length) (hb : ∀ x ∈ zs, 0 ≤ x ∧ x < 256)
    (hc : ∀ i, i < n → w.cell? ⟨b, o + i, none⟩ = some (.int .u8 (zs.getD i 0))) :
    Calls Try.prog 12 #[.slice (some ⟨b, o, none⟩) n c, .int .i64 m] w fun e w' => e = .returned (.tuple #[.int .i64 (1 + (cnt (zs.take m) : Int)), .int .i64 (max (col (zs.take m) : Int) 1)]) ∧ Below w.heap.size w w' := by
  have kc := fun (w : World) (C : Array Value) (n c : Nat) => Lib.run_convert_bytes_const (P := Try.prog) w 22 5 C n c Try.underlying22 Try.underlying5
  go_enter Try.func12, Try.ntmps12
  go_wp2_with fail
  have hc1 : ∀ i, i < m → (w.alloc (Obj.cells #[Value.int IntKind.u8 10] 5 (1, 2))).cell? ⟨b, o + i, none⟩ = some (.int .u8 ((zs.take m).getD i 0)) := by
    intro i hi
    rw [getD_take zs m i hi]
    exact Lib.cell?_alloc_marked _ (hc i (by omega))
  have hc0 : ∀ i, i < m → (w.alloc (Obj.cells #[Value.int IntKind.u8 10] 5 (1, 2))).cell? ⟨b, o + i, none⟩ = some (.int .u8 (zs.getD i 0)) := by
    intro i hi
    exact Lib.cell?_alloc_marked _ (hc i (by omega))
  have hc2 : (w.alloc (Obj.cells #[Value.int IntKind.u8 10] 5 (1, 2))).cell? ⟨w.heap.size, 0, none⟩ = some (.int .u8 10) := by
    rw [World.cell?_alloc_mark]; rfl
  have hbl : Below w.heap.size w (w.alloc (Obj.cells #[Value.int IntKind.u8 10] 5 (1, 2))) := (Below.refl _ w).alloc (Nat.le_refl _) _
  have hle3 : (zs.take m).length = m := by simp; omega
  have hle : cnt (zs.take m) ≤ m := by have := cnt_le (zs.take m); omega
  have hle2 : col (zs.take m) ≤ m := by have := col_le (zs.take m); omega
  have HL : Hid (lastFrom zs m = (m : Int) - 1 - col (zs.take m)) := lastFrom_col zs m (by omega)
  have hL := lastFrom_bd zs m
  refine (bcount_some b o m c w.heap.size 0 1 (zs.take m) _ hle3 (fun x hx => hb x (List.mem_of_mem_take hx)) hc1 hc2).mono ?_
  rintro e w' ⟨rfl, rfl⟩
  clear hc hc1 hc2 hle3
  generalize hW1 : w.alloc (Obj.cells #[Value.int IntKind.u8 10] 5 (1, 2)) = W1 at *
  clear hW1 kc
  go_wp2_with fail
  refine (blast_some b o m c zs _ (by omega) hc0).mono ?_
  rintro e w' ⟨rfl, rfl⟩
  clear hc0
  go_wp2
  go_ret2
  refine ⟨ret_int2 rfl ?_, hbl⟩
  have := HL.out
  omega
theorem position_nil (w : World) :
    Calls Try.prog 12 #[.slice none 0 0, .int .i64 0] w fun e w' => e = .returned (.tuple #[.int .i64 1, .int .i64 1]) ∧ Below w.heap.size w w' := by
  have kc := fun (w : World) (C : Array Value) (n c : Nat) => Lib.run_convert_bytes_const (P := Try.prog) w 22 5 C n c Try.underlying22 Try.underlying5
  have hc2 : (w.alloc (Obj.cells #[Value.int IntKind.u8 10] 5 (1, 2))).cell? ⟨w.heap.size, 0, none⟩ = some (.int .u8 10) := by
    rw [World.cell?_alloc_mark]; rfl
  have hbl : Below w.heap.size w (w.alloc (Obj.cells #[Value.int IntKind.u8 10] 5 (1, 2))) := (Below.refl _ w).alloc (Nat.le_refl _) _
  go_enter Try.func12, Try.ntmps12
  go_wp2_with fail
  refine (bcount_nil w.heap.size 0 1 _ hc2).mono ?_
  rintro e w' ⟨rfl, rfl⟩
  go_wp2_with fail
  refine (blast_nil _).mono ?_
  rintro e w' ⟨rfl, rfl⟩
  go_wp2
  go_ret2
  exact ⟨rfl, hbl⟩
/-- ZZposition. -/
theorem zzposition_some (b o n c m : Nat) (zs : List Int) (w : World) (hm : m ≤ n) (hnc : n ≤ c) (hn : n ≤ 2097152) (hz : n ≤ zs.length) (hb : ∀ x ∈ zs, 0 ≤ x ∧ x < 256)
    (hc : ∀ i, i < n → w.cell? ⟨b, o + i, none⟩ = some (.int .u8 (zs.getD i 0))) :
    Calls Try.prog 6 #[.slice (some ⟨b, o, none⟩) n c, .int .i64 m] w fun e w' => e = .returned (.tuple #[.int .i64 (1 + (cnt (zs.take m) : Int)), .int .i64 (max (col (zs.take m) : Int) 1)]) ∧ Below w.heap.size w w' := by
  go_enter Try.func6, Try.ntmps6
  go_wp2_with fail
  refine (position_some b o n c m zs _ hm hnc hn hz hb hc).mono ?_
  rintro e w' ⟨rfl, hbl⟩
  go_wp2
  go_ret2
  exact ⟨rfl, hbl⟩
theorem zzposition_nil (w : World) :
    Calls Try.prog 6 #[.slice none 0 0, .int .i64 0] w fun e w' => e = .returned (.tuple #[.int .i64 1, .int .i64 1]) ∧ Below w.heap.size w w' := by
  go_enter Try.func6, Try.ntmps6
  go_wp2_with fail
  refine (position_nil _).mono ?_
  rintro e w' ⟨rfl, hbl⟩
  go_wp2
  go_ret2
  exact ⟨rfl, hbl⟩
end Go.Proofs.Qxb6609011a
