/-
  The contracts of binary.BigEndian.AppendUint16, 32, 64, proved once in the library, laid at the dump of seat b6616613a (made by the tools lay-shelf and lay-plain of the kit).
-/
import Derived.Shelf.Bin.BEAppendUint16
import Derived.Shelf.Bin.BEAppendUint32
import Derived.Shelf.Bin.BEAppendUint64
import Derived.Test.Qxb6616613aProg
namespace Go.Proofs
open Go.Shelf
def Try.laysBin38_ren : Go.Shelf.Ren := ⟨fun | 38 => 8 | n => n, fun | 37 => 30 | 22 => 23 | 23 => 32 | 0 => 0 | 45 => 35 | 5 => 5 | n => n, fun | n => n⟩
theorem Try.laysBin38 : Go.Proofs.LaysBin.n38 Try.prog Try.laysBin38_ren := {
  mixed := by kernel_rfl
  f38 := Try.func8.trans (congrArg some (by kernel_rfl))
  t0 := Try.underlying0
  a0 := Try.isAgg0
  z0 := Try.sizeOf0
  v0 := Try.zeroValue0
  i0 := by kernel_rfl
  t5 := Try.underlying5
  a5 := Try.isAgg5
  z5 := Try.sizeOf5
  v5 := Try.zeroValue5
  i5 := by kernel_rfl
  t22 := Try.underlying23
  a22 := Try.isAgg23
  z22 := Try.sizeOf23
  v22 := Try.zeroValue23
  i22 := by kernel_rfl
  t23 := Try.underlying32
  a23 := Try.isAgg32
  z23 := Try.sizeOf32
  v23 := Try.zeroValue32
  i23 := by kernel_rfl
  t37 := Try.underlying30
  a37 := Try.isAgg30
  z37 := Try.sizeOf30
  v37 := Try.zeroValue30
  i37 := by kernel_rfl
  t45 := Try.underlying35
  a45 := Try.isAgg35
  z45 := Try.sizeOf35
  v45 := Try.zeroValue35
  i45 := by kernel_rfl }
open Go.RowKit in
theorem Try.binary_BE_AppendUint16 (B n v : Nat) (hv : v < 65536) (sv : Value) (xs : List Value) (w : World) (hown : w.ownsRow B 5 1 sv n xs) (hBw : B ≤ w.heap.size) (hlim : n + 2 ≤ 140737488355328) :
    Calls Try.prog 8 #[.agg #[], sv, .int .u16 v] w fun e w' => ∃ v', e = .returned v' ∧ w'.ownsRow B 5 1 v' (n + 2) (xs ++ Lib.byteCells (Lib.beBytes 2 v)) ∧ Below B w w' := Any.binary_BE_AppendUint16 Try.laysBin38 B n v hv sv xs w hown hBw hlim
def Try.laysBin41_ren : Go.Shelf.Ren := ⟨fun | 41 => 9 | n => n, fun | 37 => 30 | 22 => 23 | 29 => 34 | 0 => 0 | 45 => 35 | 5 => 5 | n => n, fun | n => n⟩
theorem Try.laysBin41 : Go.Proofs.LaysBin.n41 Try.prog Try.laysBin41_ren := {
  mixed := by kernel_rfl
  f41 := Try.func9.trans (congrArg some (by kernel_rfl))
  t0 := Try.underlying0
  a0 := Try.isAgg0
  z0 := Try.sizeOf0
  v0 := Try.zeroValue0
  i0 := by kernel_rfl
  t5 := Try.underlying5
  a5 := Try.isAgg5
  z5 := Try.sizeOf5
  v5 := Try.zeroValue5
  i5 := by kernel_rfl
  t22 := Try.underlying23
  a22 := Try.isAgg23
  z22 := Try.sizeOf23
  v22 := Try.zeroValue23
  i22 := by kernel_rfl
  t29 := Try.underlying34
  a29 := Try.isAgg34
  z29 := Try.sizeOf34
  v29 := Try.zeroValue34
  i29 := by kernel_rfl
  t37 := Try.underlying30
  a37 := Try.isAgg30
  z37 := Try.sizeOf30
  v37 := Try.zeroValue30
  i37 := by kernel_rfl
  t45 := Try.underlying35
  a45 := Try.isAgg35
  z45 := Try.sizeOf35
  v45 := Try.zeroValue35
  i45 := by kernel_rfl }
open Go.RowKit in
theorem Try.binary_BE_AppendUint32 (B n v : Nat) (hv : v < 4294967296) (sv : Value) (xs : List Value) (w : World) (hown : w.ownsRow B 5 1 sv n xs) (hBw : B ≤ w.heap.size) (hlim : n + 4 ≤ 140737488355328) :
    Calls Try.prog 9 #[.agg #[], sv, .int .u32 v] w fun e w' => ∃ v', e = .returned v' ∧ w'.ownsRow B 5 1 v' (n + 4) (xs ++ Lib.byteCells (Lib.beBytes 4 v)) ∧ Below B w w' := Any.binary_BE_AppendUint32 Try.laysBin41 B n v hv sv xs w hown hBw hlim
def Try.laysBin44_ren : Go.Shelf.Ren := ⟨fun | 44 => 10 | n => n, fun | 37 => 30 | 22 => 23 | 33 => 22 | 0 => 0 | 45 => 35 | 5 => 5 | n => n, fun | n => n⟩
theorem Try.laysBin44 : Go.Proofs.LaysBin.n44 Try.prog Try.laysBin44_ren := {
  mixed := by kernel_rfl
  f44 := Try.func10.trans (congrArg some (by kernel_rfl))
  t0 := Try.underlying0
  a0 := Try.isAgg0
  z0 := Try.sizeOf0
  v0 := Try.zeroValue0
  i0 := by kernel_rfl
  t5 := Try.underlying5
  a5 := Try.isAgg5
  z5 := Try.sizeOf5
  v5 := Try.zeroValue5
  i5 := by kernel_rfl
  t22 := Try.underlying23
  a22 := Try.isAgg23
  z22 := Try.sizeOf23
  v22 := Try.zeroValue23
  i22 := by kernel_rfl
  t33 := Try.underlying22
  a33 := Try.isAgg22
  z33 := Try.sizeOf22
  v33 := Try.zeroValue22
  i33 := by kernel_rfl
  t37 := Try.underlying30
  a37 := Try.isAgg30
  z37 := Try.sizeOf30
  v37 := Try.zeroValue30
  i37 := by kernel_rfl
  t45 := Try.underlying35
  a45 := Try.isAgg35
  z45 := Try.sizeOf35
  v45 := Try.zeroValue35
  i45 := by kernel_rfl }
open Go.RowKit in
theorem Try.binary_BE_AppendUint64 (B n v : Nat) (hv : v < 18446744073709551616) (sv : Value) (xs : List Value) (w : World) (hown : w.ownsRow B 5 1 sv n xs) (hBw : B ≤ w.heap.size) (hlim : n + 8 ≤ 140737488355328) :
    Calls Try.prog 10 #[.agg #[], sv, .int .u64 v] w fun e w' => ∃ v', e = .returned v' ∧ w'.ownsRow B 5 1 v' (n + 8) (xs ++ Lib.byteCells (Lib.beBytes 8 v)) ∧ Below B w w' := Any.binary_BE_AppendUint64 Try.laysBin44 B n v hv sv xs w hown hBw hlim
end Go.Proofs
