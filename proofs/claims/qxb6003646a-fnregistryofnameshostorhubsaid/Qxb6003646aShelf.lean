/-
  THREE CONTRACTS OF THE SHELF, laid over this seat's translation in plain words by the kit's own tool (lay-plain.mjs): strings.IndexByte, utf8.ValidRune, strings.IndexAny at a text longer than 8 bytes.
-/
import Derived.Shelf.Small.Utf8
import Derived.Shelf.Small.Strs
import Derived.Shelf.Strings.IndexAnyAll
import Derived.Test.Qxb6003646aProg
namespace Go.Proofs
open Go.Shelf
open Go.Shelf
def Try.lays119_ren : Go.Shelf.Ren := ⟨fun | 119 => 44 | n => n, fun | 21 => 21 | 4 => 4 | n => n, fun | n => n⟩
theorem Try.lays119 : Go.Proofs.Lays.n119 Try.prog Try.lays119_ren := {
  mixed := by kernel_rfl
  f119 := Try.func44.trans (congrArg some (by kernel_rfl))
  t4 := Try.underlying4
  a4 := Try.isAgg4
  z4 := Try.sizeOf4
  v4 := Try.zeroValue4
  t21 := Try.underlying21
  a21 := Try.isAgg21
  z21 := Try.sizeOf21
  v21 := Try.zeroValue21 }
theorem Try.utf8_ValidRune (r : Int) (w : World) :
    Calls Try.prog 44 #[.int .i32 r] w fun e w' => e = .returned (.bool (Lib.validRune r)) ∧ w' = w := Any.utf8_ValidRune Try.lays119 r w
def Try.lays137_ren : Go.Shelf.Ren := ⟨fun | 137 => 43 | 217 => 39 | 266 => 45 | n => n, fun | 9 => 9 | 5 => 5 | 3 => 3 | n => n, fun | n => n⟩
theorem Try.lays137 : Go.Proofs.Lays.n137 Try.prog Try.lays137_ren := {
  mixed := by kernel_rfl
  f137 := Try.func43.trans (congrArg some (by kernel_rfl))
  f217 := Try.func39.trans (congrArg some (by kernel_rfl))
  f266 := Try.func45.trans (congrArg some (by kernel_rfl))
  t3 := Try.underlying3
  a3 := Try.isAgg3
  z3 := Try.sizeOf3
  v3 := Try.zeroValue3
  t5 := Try.underlying5
  a5 := Try.isAgg5
  z5 := Try.sizeOf5
  v5 := Try.zeroValue5
  t9 := Try.underlying9
  a9 := Try.isAgg9
  z9 := Try.sizeOf9
  v9 := Try.zeroValue9 }
open Go.RowKit in
theorem Try.strings_IndexByte (s : ByteArray) (c : Int) (w : World) :
    Calls Try.prog 43 #[.string s, .int .u8 c] w fun e w' => e = .returned (.int .i64 (Lib.indexByte s.data.toList c.toNat.toUInt8)) ∧ w' = w := Any.strings_IndexByte Try.lays137 s c w
def Try.lays153_ren : Go.Shelf.Ren := ⟨fun | 153 => 32 | 152 => 35 | 226 => 36 | 227 => 37 | 228 => 38 | 137 => 43 | 119 => 44 | 224 => 41 | 225 => 40 | 217 => 39 | 266 => 45 | n => n, fun | 9 => 9 | 3 => 3 | 4 => 4 | 5 => 5 | 21 => 21 | 117 => 46 | 116 => 45 | 0 => 0 | 46 => 50 | 124 => 52 | n => n, fun | n => n⟩
theorem Try.lays153 : Go.Proofs.Lays.n153 Try.prog Try.lays153_ren := {
  mixed := by kernel_rfl
  f119 := Try.func44.trans (congrArg some (by kernel_rfl))
  f137 := Try.func43.trans (congrArg some (by kernel_rfl))
  f152 := Try.func35.trans (congrArg some (by kernel_rfl))
  f153 := Try.func32.trans (congrArg some (by kernel_rfl))
  f217 := Try.func39.trans (congrArg some (by kernel_rfl))
  f224 := Try.func41.trans (congrArg some (by kernel_rfl))
  f225 := Try.func40.trans (congrArg some (by kernel_rfl))
  f226 := Try.func36.trans (congrArg some (by kernel_rfl))
  f227 := Try.func37.trans (congrArg some (by kernel_rfl))
  f228 := Try.func38.trans (congrArg some (by kernel_rfl))
  f266 := Try.func45.trans (congrArg some (by kernel_rfl))
  t0 := Try.underlying0
  a0 := Try.isAgg0
  z0 := Try.sizeOf0
  v0 := Try.zeroValue0
  t3 := Try.underlying3
  a3 := Try.isAgg3
  z3 := Try.sizeOf3
  v3 := Try.zeroValue3
  t4 := Try.underlying4
  a4 := Try.isAgg4
  z4 := Try.sizeOf4
  v4 := Try.zeroValue4
  t5 := Try.underlying5
  a5 := Try.isAgg5
  z5 := Try.sizeOf5
  v5 := Try.zeroValue5
  t9 := Try.underlying9
  a9 := Try.isAgg9
  z9 := Try.sizeOf9
  v9 := Try.zeroValue9
  t21 := Try.underlying21
  a21 := Try.isAgg21
  z21 := Try.sizeOf21
  v21 := Try.zeroValue21
  t46 := Try.underlying50
  a46 := Try.isAgg50
  z46 := Try.sizeOf50
  v46 := Try.zeroValue50
  t116 := Try.underlying45
  a116 := Try.isAgg45
  z116 := Try.sizeOf45
  t117 := Try.underlying46
  a117 := Try.isAgg46
  z117 := Try.sizeOf46
  v117 := Try.zeroValue46
  t124 := Try.underlying52
  a124 := Try.isAgg52
  z124 := Try.sizeOf52
  v124 := Try.zeroValue52 }
open Go.RowKit Go.Lib in
theorem Try.strings_IndexAny_long (hv116 : ∀ w, (zeroValue 45).run Try.prog w = .ok (.agg (Array.replicate 256 (.bool false))) w) (s chars : ByteArray) (w : World) (h2 : 2 ≤ chars.size) (h8 : 8 < s.size) (hs : s.size < 4294967281) (hcs : chars.size < 4294967281) (hascii : ∀ (j : Nat) b, chars.data.toList[j]? = some b → b.toNat < 128) :
    Calls Try.prog 32 #[.string s, .string chars] w fun e w' => e = .returned (.int .i64 (Lib.indexAny s.data.toList chars.data.toList)) ∧ w' = ((w.alloc (.cells (Lib.setCells chars.data.toList) 45)).alloc (.cells (Lib.setCells chars.data.toList) 45)) := Any.strings_IndexAny_long Try.lays153 hv116 (by kernel_rfl) s chars w h2 h8 hs hcs hascii
end Go.Proofs
