/-
  THE WALKS OF THE SEAT b6616397a: a contract a function.
-/
import Derived.Test.Qxb6616397aRows
import Derived.Test.Qxb6616397aShelf
import Derived.Test.Qxb6616397aPlain
import Derived.WalkKit
import Derived.ProofKit
namespace Go.Proofs.Qxb6616397a.Walks
open Go.RowKit Go.Lib
open Go.Proofs.Qxb6616397a

/-- path.Join of two strings that lie in a block made just ahead. -/
theorem join2 (a b : ByteArray) (w : World) (h : a.size + b.size ≤ 10000000) :
    Calls Try.prog 14 #[.slice (some ⟨w.heap.size, 0, none⟩) 2 2] (w.alloc (.cells #[.string a, .string b] 9)) fun e w' =>
      e = .returned (.string ⟨(Pa.join [a.data.toList, b.data.toList]).toArray⟩) ∧ Below w.heap.size w w' := by
  have hc : ∀ (j : Nat) x, [a, b][j]? = some x → (w.alloc (.cells #[.string a, .string b] 9)).cell? ⟨w.heap.size, 0 + j, none⟩ = some (.string x) := by
    intro j x hj
    match j, hj with
    | 0, hj => simp at hj; subst hj; simp [go_sem]
    | 1, hj => simp at hj; subst hj; simp [go_sem]
    | j + 2, hj => simp at hj
  have hl : Pa.lens ([a, b].map (·.data.toList)) + [a, b].length ≤ 281474976710656 := by
    simp only [Pa.lens, List.map_cons, List.map_nil, List.sum_cons, List.sum_nil, List.length_cons, List.length_nil, ← Lib.size_eq]
    omega
  refine (Try.path_Join w.heap.size 0 2 [a, b] _ hc (by simp) hl).mono ?_
  rintro e w' ⟨rfl, hb⟩
  refine ⟨by rw [Pa.joinL_eq_join]; rfl, ?_⟩
  exact ((Below.refl _ w).alloc (Nat.le_refl _) _).trans (hb.mono (by simp))

theorem size_mk (l : List UInt8) : (⟨l.toArray⟩ : ByteArray).size = l.length := rfl

set_option maxHeartbeats 400000 in
theorem dir15 (x : ByteArray) (w : World) (hx : x.size ≤ 1048576) :
    Calls Try.prog 15 #[.string x] w fun e w' => e = .returned (.string ⟨(Plain.dirL x.data.toList).toArray⟩) ∧ Below w.heap.size w w' := by
  go_enter Try.func15, Try.ntmps15
  go_wp2_with fail
  refine (join2 ⟨#[47, 118, 97, 114, 47, 115, 97, 100, 109, 47, 112, 107, 103]⟩ x w (by rw [show (⟨#[47, 118, 97, 114, 47, 115, 97, 100, 109, 47, 112, 107, 103]⟩ : ByteArray).size = 13 from rfl]; omega)).mono ?_
  rintro e w' ⟨rfl, hb⟩
  go_wp2
  go_ret
  exact ⟨by rw [← Plain.join_dir]; rfl, hb⟩

set_option maxHeartbeats 400000 in
theorem info12 (x : ByteArray) (w : World) (hx : x.size ≤ 1048576) :
    Calls Try.prog 12 #[.string x] w fun e w' => e = .returned (.string ⟨(Plain.fileL Plain.info x.data.toList).toArray⟩) ∧ Below w.heap.size w w' := by
  have hl := Plain.len_dirL x.data.toList
  rw [← Lib.size_eq] at hl
  go_enter Try.func12, Try.ntmps12
  go_wp2_with fail
  refine (dir15 x w hx).mono ?_
  rintro e w1 ⟨rfl, hb⟩
  go_wp2_with fail
  refine (join2 ⟨(Plain.dirL x.data.toList).toArray⟩ ⟨#[112, 107, 103, 105, 110, 102, 111]⟩ w1 (by rw [size_mk, show (⟨#[112, 107, 103, 105, 110, 102, 111]⟩ : ByteArray).size = 7 from rfl]; omega)).mono ?_
  rintro e w2 ⟨rfl, hb2⟩
  go_wp2
  go_ret
  exact ⟨by rw [← Plain.join_info]; rfl, hb.trans (hb2.mono hb.size)⟩

set_option maxHeartbeats 400000 in
theorem mark13 (x : ByteArray) (w : World) (hx : x.size ≤ 1048576) :
    Calls Try.prog 13 #[.string x] w fun e w' => e = .returned (.string ⟨(Plain.fileL Plain.mark x.data.toList).toArray⟩) ∧ Below w.heap.size w w' := by
  have hl := Plain.len_dirL x.data.toList
  rw [← Lib.size_eq] at hl
  go_enter Try.func13, Try.ntmps13
  go_wp2_with fail
  refine (dir15 x w hx).mono ?_
  rintro e w1 ⟨rfl, hb⟩
  go_wp2_with fail
  refine (join2 ⟨(Plain.dirL x.data.toList).toArray⟩ ⟨#[33, 73, 45, 76, 111, 99, 107, 33]⟩ w1 (by rw [size_mk, show (⟨#[33, 73, 45, 76, 111, 99, 107, 33]⟩ : ByteArray).size = 8 from rfl]; omega)).mono ?_
  rintro e w2 ⟨rfl, hb2⟩
  go_wp2
  go_ret
  exact ⟨by rw [← Plain.join_mark]; rfl, hb.trans (hb2.mono hb.size)⟩

set_option maxHeartbeats 400000 in
theorem info6 (x : ByteArray) (w : World) (hx : x.size ≤ 1048576) :
    Calls Try.prog 6 #[.string x] w fun e w' => e = .returned (.string ⟨(Plain.fileL Plain.info x.data.toList).toArray⟩) ∧ Below w.heap.size w w' := by
  go_enter Try.func6, Try.ntmps6
  go_wp2_with fail
  refine (info12 x w hx).mono ?_
  rintro e w1 ⟨rfl, hb⟩
  go_wp2
  go_ret
  exact ⟨rfl, hb⟩

set_option maxHeartbeats 400000 in
theorem mark7 (x : ByteArray) (w : World) (hx : x.size ≤ 1048576) :
    Calls Try.prog 7 #[.string x] w fun e w' => e = .returned (.string ⟨(Plain.fileL Plain.mark x.data.toList).toArray⟩) ∧ Below w.heap.size w w' := by
  go_enter Try.func7, Try.ntmps7
  go_wp2_with fail
  refine (mark13 x w hx).mono ?_
  rintro e w1 ⟨rfl, hb⟩
  go_wp2
  go_ret
  exact ⟨rfl, hb⟩

/-! the two bounds on the length -/
set_option maxHeartbeats 400000 in
theorem small5 (x : ByteArray) (w : World) (hx : x.size ≤ 1048576) :
    Calls Try.prog 5 #[.string x] w fun e w' => e = .returned (.bool true) ∧ w' = w := by
  have h1 : ¬ (1048576 < (x.size : Int)) := by omega
  go_enter Try.func5, Try.ntmps5
  go_wp2
  go_ret
  exact ⟨rfl, rfl⟩

set_option maxHeartbeats 400000 in
theorem large5 (x : ByteArray) (w : World) (hx : 1048576 < x.size) :
    Calls Try.prog 5 #[.string x] w fun e w' => e = .returned (.bool false) ∧ w' = w := by
  have h1 : 1048576 < (x.size : Int) := by omega
  go_enter Try.func5, Try.ntmps5
  go_wp2
  go_ret
  exact ⟨rfl, rfl⟩

set_option maxHeartbeats 400000 in
theorem small10 (x : ByteArray) (w : World) (hx : x.size ≤ 1048576) :
    Calls Try.prog 10 #[.string x] w fun e w' => e = .returned (.bool true) ∧ w' = w := by
  have h1 : ¬ (1048576 < (x.size : Int)) := by omega
  go_enter Try.func10, Try.ntmps10
  go_wp2
  go_ret
  exact ⟨rfl, rfl⟩

set_option maxHeartbeats 400000 in
theorem large10 (x : ByteArray) (w : World) (hx : 1048576 < x.size) :
    Calls Try.prog 10 #[.string x] w fun e w' => e = .returned (.bool false) ∧ w' = w := by
  have h1 : 1048576 < (x.size : Int) := by omega
  go_enter Try.func10, Try.ntmps10
  go_wp2
  go_ret
  exact ⟨rfl, rfl⟩

end Go.Proofs.Qxb6616397a.Walks
