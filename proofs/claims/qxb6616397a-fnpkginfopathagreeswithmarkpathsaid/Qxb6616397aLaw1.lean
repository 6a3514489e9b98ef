/-
  THE WALK OF FnPkginfoPathAgreesWithMarkPath.
-/
import Derived.Test.Qxb6616397aLaw2
namespace Go.Proofs.Qxb6616397a.Walks
open Go.RowKit Go.Lib
open Go.Proofs.Qxb6616397a

theorem last_byte (P : ByteArray) (c : UInt8) (t : List UInt8) (h : P.data.toList = t ++ [c]) (h0 : P.size - 1 < P.size) : P[P.size - 1].toNat = c.toNat := by
  have hs : P.size - 1 = t.length := by rw [size_eq, h]; simp
  have e : P.data.toList[P.size - 1]? = some c := by rw [h, hs]; simp
  rw [Array.getElem?_toList] at e
  have e2 : P.data[P.size - 1]? = some P[P.size - 1] := by
    rw [Array.getElem?_eq_getElem (by exact h0)]
    rfl
  rw [e2] at e
  rw [Option.some.inj e]

/-- What is known of the two paths. -/
structure Two (x : List UInt8) (P M D : ByteArray) : Prop where
  p : P.data.toList = Plain.fileL Plain.info x
  m : M.data.toList = Plain.fileL Plain.mark x
  d : D.data.toList = Plain.sl (Plain.elems x) ++ [47]
  pn : P.size = D.size + 7
  mn : M.size = D.size + 8
  pd : P.extract 0 (P.size - 7) = D
  md : M.extract 0 (M.size - 8) = D
  ps : P.data.toList.drop (P.size - 7) = [112, 107, 103, 105, 110, 102, 111]
  mS : M.data.toList.drop (M.size - 8) = [33, 73, 45, 76, 111, 99, 107, 33]

theorem fileL_app (n x : List UInt8) : Plain.fileL n x = (Plain.sl (Plain.elems x) ++ [47]) ++ n := by
  simp [Plain.fileL]

theorem two (x : List UInt8) : ∃ P M D, Two x P M D := by
  refine ⟨⟨(Plain.fileL Plain.info x).toArray⟩, ⟨(Plain.fileL Plain.mark x).toArray⟩, ⟨(Plain.sl (Plain.elems x) ++ [47]).toArray⟩, ?_⟩
  have e1 : (ByteArray.mk (Plain.fileL Plain.info x).toArray).size - 7 = (Plain.sl (Plain.elems x) ++ [47]).length := by
    rw [size_mk, fileL_app, List.length_append]; exact Nat.add_sub_cancel _ _
  have e2 : (ByteArray.mk (Plain.fileL Plain.mark x).toArray).size - 8 = (Plain.sl (Plain.elems x) ++ [47]).length := by
    rw [size_mk, fileL_app, List.length_append]; exact Nat.add_sub_cancel _ _
  refine ⟨by simp, by simp, by simp, ?_, ?_, ?_, ?_, ?_, ?_⟩
  · rw [size_mk, size_mk, fileL_app, List.length_append]; rfl
  · rw [size_mk, size_mk, fileL_app, List.length_append]; rfl
  · rw [e1, extract_eq, List.drop_zero, Nat.sub_zero, List.toList_toArray, fileL_app, List.take_left]
  · rw [e2, extract_eq, List.drop_zero, Nat.sub_zero, List.toList_toArray, fileL_app, List.take_left]
  · rw [e1, List.toList_toArray, fileL_app, List.drop_left]; rfl
  · rw [e2, List.toList_toArray, fileL_app, List.drop_left]; rfl

set_option maxHeartbeats 1000000 in
theorem walk3 (a0 : ByteArray) (w0 : a0.size ≤ maxLen) (w : World) :
    Calls Try.prog 3 #[.string a0] w fun e w' => e = .returned (.bool true) ∧ Below w.heap.size w w' := by
  unfold maxLen at w0
  by_cases h1 : 1048576 < a0.size
  · go_enter Try.func3, Try.ntmps3
    go_wp2_with fail
    refine (large5 a0 _ h1).mono ?_
    rintro e w' ⟨rfl, rfl⟩
    go_wp2
    go_ret
    exact ⟨rfl, Below.refl _ _⟩
  have h1' : a0.size ≤ 1048576 := by omega
  clear h1
  by_cases h2 : 65536 < a0.size
  · have h2' : 65536 < (a0.size : Int) := by omega
    go_enter Try.func3, Try.ntmps3
    go_wp2_with fail
    refine (small5 a0 _ h1').mono ?_
    rintro e w' ⟨rfl, rfl⟩
    go_wp2
    go_ret
    exact ⟨rfl, Below.refl _ _⟩
  have h2' : ¬ (65536 < (a0.size : Int)) := by omega
  have h3 : a0.size ≤ 65536 := by omega
  clear h2 w0
  obtain ⟨P, M, D, T0⟩ := two a0.data.toList
  have hPl := Plain.len_fileL Plain.info a0.data.toList
  rw [← T0.p, ← size_eq, ← size_eq, show Plain.info.length = 7 from rfl] at hPl
  have hMn : M.size ≤ P.size + 1 := by rw [T0.pn, T0.mn]; omega
  have hP7 : 7 ≤ P.size := by rw [T0.pn]; omega
  have hM8 : 8 ≤ M.size := by rw [T0.mn]; omega
  have hP7' : (7 : Int) ≤ (P.size : Int) := by omega
  have hM8' : (8 : Int) ≤ (M.size : Int) := by omega
  have hD1 : 1 ≤ D.size := by rw [size_eq, T0.d]; simp
  have hD0 : 0 < D.size := by omega
  have hDi : (1 : Int) ≤ (D.size : Int) := by omega
  have hDs : D.size ≤ 65600 := by have := T0.pn; omega
  have hDz : ((D.size : Int) == 0) = false := by simpa using (by omega : ¬ D.size = 0)
  have hDl : D.size - 1 < D.size := by omega
  have hF : ((D[0].toNat : Int) != 47) = false := by
    obtain ⟨t, ht⟩ := Plain.sl_head (Plain.elems a0.data.toList)
    rw [head_byte D 47 t (by rw [T0.d, ht]) hD0]
    rfl
  have hL : ((D[D.size - 1].toNat : Int) != 47) = false := by
    rw [last_byte D 47 _ T0.d hDl]
    rfl
  have T : Hid (Two a0.data.toList P M D) := T0
  clear T0
  go_enter Try.func3, Try.ntmps3
  go_wp2_with fail
  refine (small5 a0 _ h1').mono ?_
  rintro e w' ⟨rfl, rfl⟩
  go_wp2_with fail
  refine (info6_same a0 a0.data.toList P _ h1' T.out.p rfl).mono ?_
  rintro e w1 ⟨rfl, hb1⟩
  go_wp2_with fail
  refine (mark7 a0 _ h1').mono ?_
  rintro e w2 ⟨rfl, hb2⟩
  rw [ba_eq M _ T.out.m]
  go_wp2_with fail
  refine (suffix8 P ⟨#[112, 107, 103, 105, 110, 102, 111]⟩ _ (by omega) hP7 T.out.ps).mono ?_
  rintro e w3 ⟨rfl, rfl⟩
  go_wp2_with fail
  refine (suffix8 M ⟨#[33, 73, 45, 76, 111, 99, 107, 33]⟩ _ (by omega) hM8 T.out.mS).mono ?_
  rintro e w4 ⟨rfl, rfl⟩
  have ePD : P.extract 0 (P.size - 7) = D := T.out.pd
  have eMD : M.extract 0 (M.size - 8) = D := T.out.md
  go_wp2_with fail
  refine (plain9 a0 _ (by omega)).mono ?_
  rintro e w5 ⟨⟨b, rfl, hg⟩, rfl⟩
  cases b with
  | false =>
    clear hg
    go_wp2
    go_ret
    exact ⟨rfl, hb1.trans (hb2.mono hb1.size)⟩
  | true =>
    have eD : ByteArray.mk #[47, 118, 97, 114, 47, 115, 97, 100, 109, 47, 112, 107, 103, 47] ++ a0 ++ ByteArray.mk #[47] = D := by
      rw [← ba_eq D _ T.out.d, Plain.elems_plain _ (hg rfl), ← ba_eq (_ ++ _) _ rfl]
      rw [app_data, app_data]
      rfl
    clear hg
    go_wp2
    go_ret
    exact ⟨rfl, hb1.trans (hb2.mono hb1.size)⟩

end Go.Proofs.Qxb6616397a.Walks
