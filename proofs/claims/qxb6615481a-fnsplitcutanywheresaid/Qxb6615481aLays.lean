/- strings.FieldsFunc at this dump: the shelf's laying in plain words (written by the kit's own tool lay-plain). -/
import Derived.Shelf.Lays
import Derived.Test.Qxb6615481aProg
namespace Go.Proofs
open Go.Shelf
def Try.laysFF_ren : Go.Shelf.Ren := ⟨fun | 229 => 11 | n => n, fun | 9 => 9 | 40 => 30 | 31 => 24 | 152 => 31 | 3 => 3 | 0 => 0 | 4 => 4 | 21 => 21 | 154 => 33 | n => n, fun | n => n⟩
theorem Try.laysFF : Go.Proofs.Lays.n229 Try.prog Try.laysFF_ren := {
  mixed := by kernel_rfl
  f229 := Try.func11.trans (congrArg some (by kernel_rfl))
  t0 := Try.underlying0
  a0 := Try.isAgg0
  z0 := Try.sizeOf0
  v0 := Try.zeroValue0
  t3 := Try.underlying3
  a3 := Try.isAgg3
  z3 := Try.sizeOf3
  v3 := Try.zeroValue3
  t4 := Try.underlying4
  a4 := Try.isAgg4
  z4 := Try.sizeOf4
  v4 := Try.zeroValue4
  t9 := Try.underlying9
  a9 := Try.isAgg9
  z9 := Try.sizeOf9
  v9 := Try.zeroValue9
  t21 := Try.underlying21
  a21 := Try.isAgg21
  z21 := Try.sizeOf21
  v21 := Try.zeroValue21
  t31 := Try.underlying24
  a31 := Try.isAgg24
  z31 := Try.sizeOf24
  v31 := Try.zeroValue24
  t40 := Try.underlying30
  a40 := Try.isAgg30
  z40 := Try.sizeOf30
  v40 := Try.zeroValue30
  t152 := Try.underlying31
  a152 := Try.isAgg31
  z152 := Try.sizeOf31
  v152 := Try.zeroValue31
  t154 := Try.underlying33
  a154 := Try.isAgg33
  z154 := Try.sizeOf33
  v154 := Try.zeroValue33 }
end Go.Proofs
