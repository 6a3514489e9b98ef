/-
  The contract of path.Join, proved once in the library, laid at the dump of seat b6616397a (made by the tools lay-shelf and lay-plain of the kit).
-/
import Derived.Shelf.Path.Join
import Derived.Test.Qxb6616397aProg
namespace Go.Proofs
open Go.Shelf
def Try.laysPah31_ren : Go.Shelf.Ren := ⟨fun | 31 => 14 | 30 => 16 | 46 => 17 | 47 => 18 | 48 => 19 | n => n, fun | 26 => 26 | 9 => 9 | 3 => 3 | 0 => 0 | 4 => 4 | 30 => 27 | 5 => 5 | 42 => 29 | 48 => 33 | n => n, fun | n => n⟩
theorem Try.laysPah31 : Go.Proofs.Lays.ph31 Try.prog Try.laysPah31_ren := {
  mixed := by kernel_rfl
  f30 := Try.func16.trans (congrArg some (by kernel_rfl))
  f31 := Try.func14.trans (congrArg some (by kernel_rfl))
  f46 := Try.func17.trans (congrArg some (by kernel_rfl))
  f47 := Try.func18.trans (congrArg some (by kernel_rfl))
  f48 := Try.func19.trans (congrArg some (by kernel_rfl))
  t0 := Try.underlying0
  a0 := Try.isAgg0
  z0 := Try.sizeOf0
  v0 := Try.zeroValue0
  t3 := Try.underlying3
  a3 := Try.isAgg3
  z3 := Try.sizeOf3
  v3 := Try.zeroValue3
  t4 := Try.underlying4
  a4 := Try.isAgg4
  z4 := Try.sizeOf4
  v4 := Try.zeroValue4
  t5 := Try.underlying5
  a5 := Try.isAgg5
  z5 := Try.sizeOf5
  v5 := Try.zeroValue5
  t9 := Try.underlying9
  a9 := Try.isAgg9
  z9 := Try.sizeOf9
  v9 := Try.zeroValue9
  t26 := Try.underlying26
  a26 := Try.isAgg26
  z26 := Try.sizeOf26
  v26 := Try.zeroValue26
  t30 := Try.underlying27
  a30 := Try.isAgg27
  z30 := Try.sizeOf27
  v30 := Try.zeroValue27
  t42 := Try.underlying29
  a42 := Try.isAgg29
  z42 := Try.sizeOf29
  v42 := Try.zeroValue29
  t48 := Try.underlying33
  a48 := Try.isAgg33
  z48 := Try.sizeOf33
  v48 := Try.zeroValue33
  info5 := by kernel_rfl }
open Go.RowKit Go.Lib in
theorem Try.path_Join (bk o c : Nat) (xs : List ByteArray) (w : World) (hcells : ∀ (j : Nat) x, xs[j]? = some x → w.cell? ⟨bk, o + j, none⟩ = some (.string x)) (hbk : bk < w.heap.size) (hlen : Pa.lens (xs.map (·.data.toList)) + xs.length ≤ 281474976710656) :
    Calls Try.prog 14 #[.slice (some ⟨bk, o, none⟩) xs.length c] w fun e w' => e = .returned (.string ⟨(Pa.joinL (xs.map (·.data.toList))).toArray⟩) ∧ Below w.heap.size w w' := Any.path_Join Try.laysPah31 bk o c xs w hcells hbk hlen
end Go.Proofs
