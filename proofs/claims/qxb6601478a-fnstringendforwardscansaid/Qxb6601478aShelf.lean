/-
  THE CONTRACTS OF strings.IndexByte AND bytes.IndexByte, AT THIS PROGRAM: laid by the tool of the kit for this program.
-/
import Derived.Shelf.Bytes.SlIndexAt
import Derived.Shelf.Small.Strs
import Derived.Test.Qxb6601478aProg
namespace Go.Proofs
open Go.Shelf
def Try.lays137_ren : Go.Shelf.Ren := ⟨fun | 137 => 25 | 217 => 28 | 266 => 30 | n => n, fun | 9 => 9 | 5 => 5 | 3 => 3 | n => n, fun | n => n⟩
theorem Try.lays137 : Go.Proofs.Lays.n137 Try.prog Try.lays137_ren := {
  mixed := by kernel_rfl
  f137 := Try.func25.trans (congrArg some (by kernel_rfl))
  f217 := Try.func28.trans (congrArg some (by kernel_rfl))
  f266 := Try.func30.trans (congrArg some (by kernel_rfl))
  t3 := Try.underlying3
  a3 := Try.isAgg3
  z3 := Try.sizeOf3
  v3 := Try.zeroValue3
  t5 := Try.underlying5
  a5 := Try.isAgg5
  z5 := Try.sizeOf5
  v5 := Try.zeroValue5
  t9 := Try.underlying9
  a9 := Try.isAgg9
  z9 := Try.sizeOf9
  v9 := Try.zeroValue9 }
open Go.RowKit in
theorem Try.strings_IndexByte (s : ByteArray) (c : Int) (w : World) :
    Calls Try.prog 25 #[.string s, .int .u8 c] w fun e w' => e = .returned (.int .i64 (Lib.indexByte s.data.toList c.toNat.toUInt8)) ∧ w' = w := Any.strings_IndexByte Try.lays137 s c w
def Try.lays187_ren : Go.Shelf.Ren := ⟨fun | 187 => 24 | 255 => 27 | n => n, fun | 37 => 24 | 5 => 5 | 3 => 3 | n => n, fun | n => n⟩
theorem Try.lays187 : Go.Proofs.Lays.n187 Try.prog Try.lays187_ren := {
  mixed := by kernel_rfl
  f187 := Try.func24.trans (congrArg some (by kernel_rfl))
  f255 := Try.func27.trans (congrArg some (by kernel_rfl))
  t3 := Try.underlying3
  a3 := Try.isAgg3
  z3 := Try.sizeOf3
  v3 := Try.zeroValue3
  t5 := Try.underlying5
  a5 := Try.isAgg5
  z5 := Try.sizeOf5
  v5 := Try.zeroValue5
  t37 := Try.underlying24
  a37 := Try.isAgg24
  z37 := Try.sizeOf24
  v37 := Try.zeroValue24 }
open Go.RowKit Go.Lib in
theorem Try.bytes_IndexByte_at (a : Addr) (n c : Nat) (xs : List Int) (cv : Int) (w : World) (hx : xs.length = n) (hc : ∀ i, i < n → w.cell? (a.add i) = some (.int .u8 (xs.getD i 0))) :
    Calls Try.prog 24 #[.slice (some a) n c, .int .u8 cv] w fun e w' => e = .returned (.int .i64 (Lib.indexByte (Lib.bytesOf xs) cv.toNat.toUInt8)) ∧ w' = w := Any.bytes_IndexByte_at Try.lays187 a n c xs cv w hx hc
end Go.Proofs
