/-
  Parts of the proof (Shf).
-/
import Derived.Shelf.Small.Bits
import Derived.Shelf.LaysM
import Derived.Test.YtplpafbkalkchaaGreatDoorProg
set_option linter.unusedSimpArgs false
set_option linter.unusedVariables false

namespace Go.Proofs.YtplpafbkalkchaaGreatDoor
open Go.Shelf
def shflays128_ren : Go.Shelf.Ren := ⟨fun | 128 => 272 | n => n, fun | 51 => 151 | 3 => 3 | 4 => 4 | 46 => 152 | 5 => 5 | 9 => 9 | n => n, fun | n => n⟩
theorem shflays128 : Go.Proofs.Lays.n128 Tryz.prog shflays128_ren := {
  mixed := by kernel_rfl
  f128 := Tryz.func272.trans (congrArg some (by kernel_rfl))
  t3 := Tryz.underlying3
  a3 := Tryz.isAgg3
  z3 := Tryz.sizeOf3
  v3 := Tryz.zeroValue3
  t4 := Tryz.underlying4
  a4 := Tryz.isAgg4
  z4 := Tryz.sizeOf4
  v4 := Tryz.zeroValue4
  t5 := Tryz.underlying5
  a5 := Tryz.isAgg5
  z5 := Tryz.sizeOf5
  v5 := Tryz.zeroValue5
  t9 := Tryz.underlying9
  a9 := Tryz.isAgg9
  z9 := Tryz.sizeOf9
  v9 := Tryz.zeroValue9
  t46 := Tryz.underlying152
  a46 := Tryz.isAgg152
  z46 := Tryz.sizeOf152
  v46 := Tryz.zeroValue152
  t51 := Tryz.underlying151
  a51 := Tryz.isAgg151
  z51 := Tryz.sizeOf151
  v51 := Tryz.zeroValue151 }
theorem shfLen32 (x : Int) (w : World) (h0 : 0 ≤ x) (h1 : x ≤ 4294967295) :
    Calls Tryz.prog 272 #[.int .u32 x] w fun e w' => e = .returned (.int .i64 (Lib.bitLen x.toNat)) ∧ w' = w := Any.bits_Len32 shflays128 x w h0 h1
def shflays133_ren : Go.Shelf.Ren := ⟨fun | 133 => 254 | 128 => 272 | n => n, fun | 51 => 151 | 3 => 3 | 4 => 4 | 46 => 152 | 5 => 5 | 9 => 9 | n => n, fun | n => n⟩
theorem shflays133 : Go.Proofs.Lays.n133 Tryz.prog shflays133_ren := {
  mixed := by kernel_rfl
  f128 := Tryz.func272.trans (congrArg some (by kernel_rfl))
  f133 := Tryz.func254.trans (congrArg some (by kernel_rfl))
  t3 := Tryz.underlying3
  a3 := Tryz.isAgg3
  z3 := Tryz.sizeOf3
  v3 := Tryz.zeroValue3
  t4 := Tryz.underlying4
  a4 := Tryz.isAgg4
  z4 := Tryz.sizeOf4
  v4 := Tryz.zeroValue4
  t5 := Tryz.underlying5
  a5 := Tryz.isAgg5
  z5 := Tryz.sizeOf5
  v5 := Tryz.zeroValue5
  t9 := Tryz.underlying9
  a9 := Tryz.isAgg9
  z9 := Tryz.sizeOf9
  v9 := Tryz.zeroValue9
  t46 := Tryz.underlying152
  a46 := Tryz.isAgg152
  z46 := Tryz.sizeOf152
  v46 := Tryz.zeroValue152
  t51 := Tryz.underlying151
  a51 := Tryz.isAgg151
  z51 := Tryz.sizeOf151
  v51 := Tryz.zeroValue151 }
theorem shfLeadingZeros32 (x : Int) (w : World) (h0 : 0 ≤ x) (h1 : x ≤ 4294967295) :
    Calls Tryz.prog 254 #[.int .u32 x] w fun e w' => e = .returned (.int .i64 (32 - (Lib.bitLen x.toNat : Int))) ∧ w' = w := Any.bits_LeadingZeros32 shflays133 x w h0 h1
end Go.Proofs.YtplpafbkalkchaaGreatDoor
