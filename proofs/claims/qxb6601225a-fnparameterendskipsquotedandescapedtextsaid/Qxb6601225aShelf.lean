/-
  THE CONTRACTS OF strings.Builder THAT THE ROAD NEEDS, AT THIS PROGRAM: laid by the tool of the kit for this program; WriteByte's laying by hand (the tool found no body that names the type of the empty interface; it is 20 here too).
-/
import Derived.Shelf.Strings.Builder1
import Derived.Test.Qxb6601225aProg
namespace Go.Proofs
open Go.Shelf
def Try.lays169_ren : Go.Shelf.Ren := ⟨fun | 169 => 55 | n => n, fun | 70 => 68 | 9 => 9 | 0 => 0 | 72 => 70 | 37 => 44 | 127 => 81 | 3 => 3 | 5 => 5 | n => n, fun | n => n⟩
theorem Try.lays169 : Go.Proofs.Lays.n169 Try.prog Try.lays169_ren := {
  mixed := by kernel_rfl
  f169 := Try.func55.trans (congrArg some (by kernel_rfl))
  t0 := Try.underlying0
  a0 := Try.isAgg0
  z0 := Try.sizeOf0
  v0 := Try.zeroValue0
  t3 := Try.underlying3
  a3 := Try.isAgg3
  z3 := Try.sizeOf3
  v3 := Try.zeroValue3
  t9 := Try.underlying9
  a9 := Try.isAgg9
  z9 := Try.sizeOf9
  v9 := Try.zeroValue9
  t37 := Try.underlying44
  a37 := Try.isAgg44
  z37 := Try.sizeOf44
  v37 := Try.zeroValue44
  t70 := Try.underlying68
  a70 := Try.isAgg68
  z70 := Try.sizeOf68
  v70 := Try.zeroValue68
  t72 := Try.underlying70
  a72 := Try.isAgg70
  z72 := Try.sizeOf70
  v72 := Try.zeroValue70
  t127 := Try.underlying81
  a127 := Try.isAgg81
  z127 := Try.sizeOf81
  v127 := Try.zeroValue81 }
theorem Try.Builder_Extra_169 : Builder.Extra Try.prog Try.lays169_ren := {
  sizeBuilder := by kernel_rfl
  liesBuilder := by kernel_rfl
  t5 := Try.underlying5
  a5 := Try.isAgg5
  z5 := Try.sizeOf5
  v5 := Try.zeroValue5
  infoByte := by kernel_rfl
  cellsByte := by kernel_rfl
  sizeByte := by kernel_rfl
  neB5 := by decide }
open Go.RowKit in
theorem Try.Builder_String_any (B b : Nat) (l : List UInt8) (w : World) (h : Lib.IsBuilder 70 5 B b (Lib.byteCells l) w) (hBw : B ≤ w.heap.size) :
    Calls Try.prog 55 #[.pointer (some ⟨b, 0, none⟩)] w fun e w' => e = .returned (.string ⟨l.toArray⟩) ∧ Below B w w' := Any.Builder_String_any Try.lays169 Try.Builder_Extra_169 B b l w h hBw
def Try.lays167_ren : Go.Shelf.Ren := ⟨fun | 167 => 54 | 240 => 64 | 276 => 69 | n => n, fun | 0 => 0 | 4 => 4 | 5 => 5 | 9 => 9 | 20 => 20 | 37 => 44 | 70 => 68 | 72 => 70 | 75 => 72 | 80 => 63 | 164 => 86 | 3 => 3 | n => n, fun | n => n⟩
theorem Try.lays167 : Go.Proofs.Lays.n167 Try.prog Try.lays167_ren := {
  mixed := by kernel_rfl
  f167 := Try.func54.trans (congrArg some (by kernel_rfl))
  f240 := Try.func64.trans (congrArg some (by kernel_rfl))
  f276 := Try.func69.trans (congrArg some (by kernel_rfl))
  t0 := Try.underlying0
  a0 := Try.isAgg0
  z0 := Try.sizeOf0
  v0 := Try.zeroValue0
  t4 := Try.underlying4
  a4 := Try.isAgg4
  z4 := Try.sizeOf4
  v4 := Try.zeroValue4
  t5 := Try.underlying5
  a5 := Try.isAgg5
  z5 := Try.sizeOf5
  v5 := Try.zeroValue5
  t9 := Try.underlying9
  a9 := Try.isAgg9
  z9 := Try.sizeOf9
  v9 := Try.zeroValue9
  t20 := Try.underlying20
  a20 := Try.isAgg20
  z20 := Try.sizeOf20
  v20 := Try.zeroValue20
  t37 := Try.underlying44
  a37 := Try.isAgg44
  z37 := Try.sizeOf44
  v37 := Try.zeroValue44
  t70 := Try.underlying68
  a70 := Try.isAgg68
  z70 := Try.sizeOf68
  v70 := Try.zeroValue68
  t72 := Try.underlying70
  a72 := Try.isAgg70
  z72 := Try.sizeOf70
  v72 := Try.zeroValue70
  t75 := Try.underlying72
  a75 := Try.isAgg72
  z75 := Try.sizeOf72
  v75 := Try.zeroValue72
  t164 := Try.underlying86
  a164 := Try.isAgg86
  z164 := Try.sizeOf86
  v164 := Try.zeroValue86 }
theorem Try.Builder_Extra_167 : Builder.Extra Try.prog Try.lays167_ren := {
  sizeBuilder := by kernel_rfl
  liesBuilder := by kernel_rfl
  t5 := Try.underlying5
  a5 := Try.isAgg5
  z5 := Try.sizeOf5
  v5 := Try.zeroValue5
  infoByte := by kernel_rfl
  cellsByte := by kernel_rfl
  sizeByte := by kernel_rfl
  neB5 := by decide }
open Go.RowKit in
theorem Try.Builder_WriteByte (B b : Nat) (bs : List Value) (c : Int) (w : World) (h : Lib.IsBuilder 70 5 B b bs w) (hlen : bs.length + 1 ≤ 140737488355328) (hBw : B ≤ w.heap.size) :
    Calls Try.prog 54 #[.pointer (some ⟨b, 0, none⟩), .int .u8 c] w fun e w' => e = .returned .nilIface ∧ (Lib.BuilderAt 70 5 B b (.pointer (some ⟨b, 0, none⟩)) (bs ++ [.int .u8 c]) w' ∧ Below B w w') := Any.Builder_WriteByte Try.lays167 Try.Builder_Extra_167 B b bs c w h hlen hBw
end Go.Proofs
