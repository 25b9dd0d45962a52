/- The program's numbers of the library's decoding of runes, as the shelf's contract asks for them (the kit's tool printed it; the numbers are this seat's). No condition. -/
import Derived.Shelf.Lays7
import Derived.Test.YtgalfebplancdaaDoorWords
namespace Go.Proofs.YtgalfebplancdaaDoor
open Go.Shelf

def sh32_ren : Go.Shelf.Ren := ⟨fun | 32 => 11 | 49 => 12 | n => n, fun | 30 => 22 | 21 => 21 | 3 => 3 | 0 => 0 | 5 => 5 | 4 => 4 | 33 => 33 | 66 => 35 | 25 => 36 | 69 => 39 | 68 => 38 | n => n, fun | 2 => 0 | 3 => 1 | n => n⟩
theorem sh32 : Go.Proofs.Lays7.n32 Tryd.prog sh32_ren := {
  mixed := by kernel_rfl
  f32 := Tryd.func11.trans (congrArg some (by kernel_rfl))
  f49 := Tryd.func12.trans (congrArg some (by kernel_rfl))
  t0 := Tryd.underlying0
  a0 := Tryd.isAgg0
  z0 := Tryd.sizeOf0
  v0 := Tryd.zeroValue0
  i0 := by kernel_rfl
  t3 := Tryd.underlying3
  a3 := Tryd.isAgg3
  z3 := Tryd.sizeOf3
  v3 := Tryd.zeroValue3
  i3 := by kernel_rfl
  t4 := Tryd.underlying4
  a4 := Tryd.isAgg4
  z4 := Tryd.sizeOf4
  v4 := Tryd.zeroValue4
  i4 := by kernel_rfl
  t5 := Tryd.underlying5
  a5 := Tryd.isAgg5
  z5 := Tryd.sizeOf5
  v5 := Tryd.zeroValue5
  i5 := by kernel_rfl
  t21 := Tryd.underlying21
  a21 := Tryd.isAgg21
  z21 := Tryd.sizeOf21
  v21 := Tryd.zeroValue21
  i21 := by kernel_rfl
  t25 := Tryd.underlying36
  a25 := Tryd.isAgg36
  z25 := Tryd.sizeOf36
  v25 := Tryd.zeroValue36
  i25 := by kernel_rfl
  t30 := Tryd.underlying22
  a30 := Tryd.isAgg22
  z30 := Tryd.sizeOf22
  v30 := Tryd.zeroValue22
  i30 := by kernel_rfl
  t33 := Tryd.underlying33
  a33 := Tryd.isAgg33
  z33 := Tryd.sizeOf33
  v33 := Tryd.zeroValue33
  i33 := by kernel_rfl
  t66 := Tryd.underlying35
  a66 := Tryd.isAgg35
  z66 := Tryd.sizeOf35
  t68 := Tryd.underlying38
  a68 := Tryd.isAgg38
  z68 := Tryd.sizeOf38
  v68 := Tryd.zeroValue38
  i68 := by kernel_rfl
  t69 := Tryd.underlying39
  a69 := Tryd.isAgg39
  z69 := Tryd.sizeOf39
  v69 := Tryd.zeroValue39
  i69 := by kernel_rfl
  g2 := by kernel_rfl
  g3 := by kernel_rfl }
end Go.Proofs.YtgalfebplancdaaDoor
