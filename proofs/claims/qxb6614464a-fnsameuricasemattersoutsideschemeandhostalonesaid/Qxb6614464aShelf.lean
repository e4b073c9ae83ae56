/-
  DERIVED: THE SHELF's CONTRACTS AT THIS DUMP, IN PLAIN WORDS (tools/lay-plain.mjs out of 'TryShelf.lean', which tools/lay-shelf.mjs wrote): THE SAME DECLARATIONS UNDER THE SAME NAMES: 'import', 'namespace', 'open', 'def', 'theorem' AND NOTHING ELSE: no command of the shelf's: FOR A HAND-IN. Each laying: the table of numbers ('.._ren') and one theorem, a field a fact of the dump's own or the kernel's comparison; each contract: ONE APPLICATION.
-/
import Derived.Shelf.Strings.Runes
import Derived.Shelf.Strings.IndexAnyAll
import Derived.Test.Qxb6614464aProg
namespace Go.Proofs
open Go.Shelf
def Try.lays152_ren : Go.Shelf.Ren := ⟨fun | 152 => 27 | 137 => 34 | 119 => 35 | 224 => 36 | 225 => 37 | 217 => 38 | 266 => 40 | n => n, fun | 9 => 9 | 21 => 21 | 3 => 3 | 4 => 4 | 5 => 5 | 0 => 0 | 46 => 26 | n => n, fun | n => n⟩
theorem Try.lays152 : Go.Proofs.Lays.n152 Try.prog Try.lays152_ren := {
  mixed := by kernel_rfl
  f119 := Try.func35.trans (congrArg some (by kernel_rfl))
  f137 := Try.func34.trans (congrArg some (by kernel_rfl))
  f152 := Try.func27.trans (congrArg some (by kernel_rfl))
  f217 := Try.func38.trans (congrArg some (by kernel_rfl))
  f224 := Try.func36.trans (congrArg some (by kernel_rfl))
  f225 := Try.func37.trans (congrArg some (by kernel_rfl))
  f266 := Try.func40.trans (congrArg some (by kernel_rfl))
  t0 := Try.underlying0
  a0 := Try.isAgg0
  z0 := Try.sizeOf0
  v0 := Try.zeroValue0
  t3 := Try.underlying3
  a3 := Try.isAgg3
  z3 := Try.sizeOf3
  v3 := Try.zeroValue3
  t4 := Try.underlying4
  a4 := Try.isAgg4
  z4 := Try.sizeOf4
  v4 := Try.zeroValue4
  t5 := Try.underlying5
  a5 := Try.isAgg5
  z5 := Try.sizeOf5
  v5 := Try.zeroValue5
  t9 := Try.underlying9
  a9 := Try.isAgg9
  z9 := Try.sizeOf9
  v9 := Try.zeroValue9
  t21 := Try.underlying21
  a21 := Try.isAgg21
  z21 := Try.sizeOf21
  v21 := Try.zeroValue21
  t46 := Try.underlying26
  a46 := Try.isAgg26
  z46 := Try.sizeOf26
  v46 := Try.zeroValue26 }
open Go.RowKit Go.Lib in
theorem Try.strings_IndexRune_ascii (s : ByteArray) (r : Int) (w : World) (h0 : 0 ≤ r) (h1 : r < 128) :
    Calls Try.prog 27 #[.string s, .int .i32 r] w fun e w' => e = .returned (.int .i64 (Lib.indexByte s.data.toList r.toNat.toUInt8)) ∧ w' = w := Any.strings_IndexRune_ascii Try.lays152 s r w h0 h1
def Try.lays153_ren : Go.Shelf.Ren := ⟨fun | 153 => 23 | 152 => 27 | 226 => 28 | 227 => 29 | 228 => 30 | 137 => 34 | 119 => 35 | 224 => 36 | 225 => 37 | 217 => 38 | 266 => 40 | n => n, fun | 9 => 9 | 3 => 3 | 4 => 4 | 5 => 5 | 21 => 21 | 117 => 45 | 116 => 44 | 0 => 0 | 46 => 26 | 124 => 50 | n => n, fun | n => n⟩
theorem Try.lays153 : Go.Proofs.Lays.n153 Try.prog Try.lays153_ren := {
  mixed := by kernel_rfl
  f119 := Try.func35.trans (congrArg some (by kernel_rfl))
  f137 := Try.func34.trans (congrArg some (by kernel_rfl))
  f152 := Try.func27.trans (congrArg some (by kernel_rfl))
  f153 := Try.func23.trans (congrArg some (by kernel_rfl))
  f217 := Try.func38.trans (congrArg some (by kernel_rfl))
  f224 := Try.func36.trans (congrArg some (by kernel_rfl))
  f225 := Try.func37.trans (congrArg some (by kernel_rfl))
  f226 := Try.func28.trans (congrArg some (by kernel_rfl))
  f227 := Try.func29.trans (congrArg some (by kernel_rfl))
  f228 := Try.func30.trans (congrArg some (by kernel_rfl))
  f266 := Try.func40.trans (congrArg some (by kernel_rfl))
  t0 := Try.underlying0
  a0 := Try.isAgg0
  z0 := Try.sizeOf0
  v0 := Try.zeroValue0
  t3 := Try.underlying3
  a3 := Try.isAgg3
  z3 := Try.sizeOf3
  v3 := Try.zeroValue3
  t4 := Try.underlying4
  a4 := Try.isAgg4
  z4 := Try.sizeOf4
  v4 := Try.zeroValue4
  t5 := Try.underlying5
  a5 := Try.isAgg5
  z5 := Try.sizeOf5
  v5 := Try.zeroValue5
  t9 := Try.underlying9
  a9 := Try.isAgg9
  z9 := Try.sizeOf9
  v9 := Try.zeroValue9
  t21 := Try.underlying21
  a21 := Try.isAgg21
  z21 := Try.sizeOf21
  v21 := Try.zeroValue21
  t46 := Try.underlying26
  a46 := Try.isAgg26
  z46 := Try.sizeOf26
  v46 := Try.zeroValue26
  t116 := Try.underlying44
  a116 := Try.isAgg44
  z116 := Try.sizeOf44
  t117 := Try.underlying45
  a117 := Try.isAgg45
  z117 := Try.sizeOf45
  v117 := Try.zeroValue45
  t124 := Try.underlying50
  a124 := Try.isAgg50
  z124 := Try.sizeOf50
  v124 := Try.zeroValue50 }
open Go.RowKit Go.Lib in
theorem Try.strings_IndexAny_long (hv116 : ∀ w, (zeroValue 44).run Try.prog w = .ok (.agg (Array.replicate 256 (.bool false))) w) (s chars : ByteArray) (w : World) (h2 : 2 ≤ chars.size) (h8 : 8 < s.size) (hs : s.size < 4294967281) (hcs : chars.size < 4294967281) (hascii : ∀ (j : Nat) b, chars.data.toList[j]? = some b → b.toNat < 128) :
    Calls Try.prog 23 #[.string s, .string chars] w fun e w' => e = .returned (.int .i64 (Lib.indexAny s.data.toList chars.data.toList)) ∧ w' = ((w.alloc (.cells (Lib.setCells chars.data.toList) 44)).alloc (.cells (Lib.setCells chars.data.toList) 44)) := Any.strings_IndexAny_long Try.lays153 hv116 (by kernel_rfl) s chars w h2 h8 hs hcs hascii
end Go.Proofs
