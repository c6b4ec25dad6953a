/- Contracts of Go's library at this dump, laid by the kit's shelf (its plain mode). -/
import Derived.Shelf.Small.Utf8
import Derived.Shelf.Strconv.IsPrint
import Derived.Shelf.Strconv.Escaped
import Derived.Test.YtiicdalodfjgaaaGreatFmtProg
namespace Go.Proofs
open Go.Shelf
def Tryz.lays119_ren : Go.Shelf.Ren := ⟨fun | 119 => 88 | n => n, fun | 21 => 21 | 4 => 4 | n => n, fun | n => n⟩
theorem Tryz.lays119 : Go.Proofs.Lays.n119 Tryz.prog Tryz.lays119_ren := {
  mixed := by kernel_rfl
  f119 := Tryz.func88.trans (congrArg some (by kernel_rfl))
  t4 := Tryz.underlying4
  a4 := Tryz.isAgg4
  z4 := Tryz.sizeOf4
  v4 := Tryz.zeroValue4
  t21 := Tryz.underlying21
  a21 := Tryz.isAgg21
  z21 := Tryz.sizeOf21
  v21 := Tryz.zeroValue21 }
theorem Tryz.utf8_ValidRune (r : Int) (w : World) :
    Calls Tryz.prog 88 #[.int .i32 r] w fun e w' => e = .returned (.bool (Lib.validRune r)) ∧ w' = w := Any.utf8_ValidRune Tryz.lays119 r w
def Tryz.lays339_ren : Go.Shelf.Ren := ⟨fun | 339 => 91 | 345 => 93 | 346 => 94 | n => n, fun | 21 => 21 | 4 => 4 | 49 => 135 | 234 => 136 | 131 => 28 | 3 => 3 | 0 => 0 | 51 => 115 | 236 => 138 | 46 => 111 | n => n, fun | 20 => 3 | 21 => 4 | 22 => 5 | 23 => 6 | n => n⟩
theorem Tryz.lays339 : Go.Proofs.Lays.n339 Tryz.prog Tryz.lays339_ren := {
  mixed := by kernel_rfl
  f339 := Tryz.func91.trans (congrArg some (by kernel_rfl))
  f345 := Tryz.func93.trans (congrArg some (by kernel_rfl))
  f346 := Tryz.func94.trans (congrArg some (by kernel_rfl))
  t0 := Tryz.underlying0
  a0 := Tryz.isAgg0
  z0 := Tryz.sizeOf0
  v0 := Tryz.zeroValue0
  t3 := Tryz.underlying3
  a3 := Tryz.isAgg3
  z3 := Tryz.sizeOf3
  v3 := Tryz.zeroValue3
  t4 := Tryz.underlying4
  a4 := Tryz.isAgg4
  z4 := Tryz.sizeOf4
  v4 := Tryz.zeroValue4
  t21 := Tryz.underlying21
  a21 := Tryz.isAgg21
  z21 := Tryz.sizeOf21
  v21 := Tryz.zeroValue21
  t46 := Tryz.underlying111
  a46 := Tryz.isAgg111
  z46 := Tryz.sizeOf111
  v46 := Tryz.zeroValue111
  t49 := Tryz.underlying135
  a49 := Tryz.isAgg135
  z49 := Tryz.sizeOf135
  v49 := Tryz.zeroValue135
  t51 := Tryz.underlying115
  a51 := Tryz.isAgg115
  z51 := Tryz.sizeOf115
  v51 := Tryz.zeroValue115
  t131 := Tryz.underlying28
  a131 := Tryz.isAgg28
  z131 := Tryz.sizeOf28
  v131 := Tryz.zeroValue28
  t234 := Tryz.underlying136
  a234 := Tryz.isAgg136
  z234 := Tryz.sizeOf136
  v234 := Tryz.zeroValue136
  t236 := Tryz.underlying138
  a236 := Tryz.isAgg138
  z236 := Tryz.sizeOf138
  v236 := Tryz.zeroValue138
  g20 := by kernel_rfl
  g21 := by kernel_rfl
  g22 := by kernel_rfl
  g23 := by kernel_rfl }
open Go.RowKit in
theorem Tryz.strconv_IsPrint_latin (r : Int) (w : World) (hr : r ≤ 255) :
    Calls Tryz.prog 91 #[.int .i32 r] w fun e w' => e = .returned (.bool (Lib.isPrintLatin r)) ∧ w' = w := Any.strconv_IsPrint_latin Tryz.lays339 r w hr
end Go.Proofs
