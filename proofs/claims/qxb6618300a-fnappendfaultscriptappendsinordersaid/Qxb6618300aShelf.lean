/-
  The contract of slices.Grow, proved once in the library, laid at the dump of seat b6618300a (made by the tool lay-plain of the kit).
-/
import Derived.Shelf.Spec.SlicesGrow
import Derived.Test.Qxb6618300aProg
namespace Go.Proofs
open Go.Shelf
def Try.growF_ren : Go.Shelf.Ren := ⟨fun | 4 => 7 | n => n, fun | 22 => 25 | 25 => 27 | 3 => 3 | 4 => 4 | 9 => 9 | 20 => 20 | 0 => 0 | n => n, fun | n => n⟩
theorem Try.growF : Go.Proofs.Lays8.n4 Try.prog Try.growF_ren := {
  mixed := by kernel_rfl
  f4 := ⟨Try.f7.name, by decide, Try.func7.trans (congrArg some (by kernel_rfl))⟩
  t0 := Try.underlying0
  a0 := Try.isAgg0
  z0 := Try.sizeOf0
  v0 := Try.zeroValue0
  t3 := Try.underlying3
  a3 := Try.isAgg3
  z3 := Try.sizeOf3
  v3 := Try.zeroValue3
  t4 := Try.underlying4
  a4 := Try.isAgg4
  z4 := Try.sizeOf4
  v4 := Try.zeroValue4
  t9 := Try.underlying9
  a9 := Try.isAgg9
  z9 := Try.sizeOf9
  v9 := Try.zeroValue9
  t20 := Try.underlying20
  a20 := Try.isAgg20
  z20 := Try.sizeOf20
  v20 := Try.zeroValue20
  t22 := Try.underlying25
  a22 := Try.isAgg25
  z22 := Try.sizeOf25
  v22 := Try.zeroValue25 }
end Go.Proofs
