/-
  THE WALK OF FnPkginfoPathCleanRoundTrip.
-/
import Derived.Test.Qxb6616397aWalks2
namespace Go.Proofs.Qxb6616397a.Walks
open Go.RowKit Go.Lib
open Go.Proofs.Qxb6616397a

theorem ba_eq (P : ByteArray) (l : List UInt8) (h : P.data.toList = l) : (⟨l.toArray⟩ : ByteArray) = P := by
  subst h; cases P; simp

/-- pkginfoPath at y, where y's elements are x's. -/
theorem info6_same (y : ByteArray) (x : List UInt8) (P : ByteArray) (w : World) (hy : y.size ≤ 1048576) (hP : P.data.toList = Plain.fileL Plain.info x) (he : Plain.elems y.data.toList = Plain.elems x) :
    Calls Try.prog 6 #[.string y] w fun e w' => e = .returned (.string P) ∧ Below w.heap.size w w' := by
  refine (info6 y w hy).mono ?_
  rintro e w' ⟨rfl, hb⟩
  refine ⟨?_, hb⟩
  rw [ba_eq P _ (by rw [hP, Plain.fileL, Plain.fileL, he])]

theorem head_byte (P : ByteArray) (c : UInt8) (t : List UInt8) (h : P.data.toList = c :: t) (h0 : 0 < P.size) : P[0].toNat = c.toNat := by
  have e : P.data.toList[0]? = some c := by rw [h]; rfl
  rw [Array.getElem?_toList] at e
  have e2 : P.data[0]? = some P[0] := by
    rw [Array.getElem?_eq_getElem (by exact h0)]
    rfl
  rw [e2] at e
  rw [Option.some.inj e]

theorem app_data (a b : ByteArray) : (a ++ b).data.toList = a.data.toList ++ b.data.toList := by
  rw [ByteArray.data_append, Array.toList_append]

theorem fileL_47 (n x : List UInt8) : ∃ t, Plain.fileL n x = 47 :: t := by
  obtain ⟨t, ht⟩ := Plain.sl_head (Plain.elems x)
  refine ⟨t ++ n, ?_⟩
  rw [Plain.fileL, List.append_cons, ht]
  rfl

set_option maxHeartbeats 1000000 in
theorem walk4 (a0 : ByteArray) (w0 : a0.size ≤ maxLen) (w : World) :
    Calls Try.prog 4 #[.string a0] w fun e w' => e = .returned (.bool true) ∧ Below w.heap.size w w' := by
  unfold maxLen at w0
  by_cases h1 : 1048576 < a0.size
  · go_enter Try.func4, Try.ntmps4
    go_wp2_with fail
    refine (large10 a0 _ h1).mono ?_
    rintro e w' ⟨rfl, rfl⟩
    go_wp2
    go_ret
    exact ⟨rfl, Below.refl _ _⟩
  have h1' : a0.size ≤ 1048576 := by omega
  clear h1
  by_cases h2 : 65536 < a0.size
  · have h2' : 65536 < (a0.size : Int) := by omega
    go_enter Try.func4, Try.ntmps4
    go_wp2_with fail
    refine (small10 a0 _ h1').mono ?_
    rintro e w' ⟨rfl, rfl⟩
    go_wp2
    go_ret
    exact ⟨rfl, Below.refl _ _⟩
  have h2' : ¬ (65536 < (a0.size : Int)) := by omega
  have h3 : a0.size ≤ 65536 := by omega
  clear h2 w0
  obtain ⟨P, hP0⟩ : ∃ P : ByteArray, P.data.toList = Plain.fileL Plain.info a0.data.toList := ⟨⟨_⟩, rfl⟩
  have hPl := Plain.len_fileL Plain.info a0.data.toList
  rw [← hP0, ← size_eq, ← size_eq, show Plain.info.length = 7 from rfl] at hPl
  have hP8 : 8 ≤ P.size := by rw [size_eq, hP0]; simp [Plain.fileL, Plain.info]
  have hP0' : 0 < P.size := by omega
  have hPn : P.size = (Plain.sl (Plain.elems a0.data.toList)).length + 8 := by rw [size_eq, hP0]; simp [Plain.fileL, Plain.info]
  have hP : Hid (P.data.toList = Plain.fileL Plain.info a0.data.toList) := hP0
  have hF : ((P[0].toNat : Int) != 47) = false := by
    obtain ⟨t, ht⟩ := fileL_47 Plain.info a0.data.toList
    rw [head_byte P 47 t (by rw [hP0, ht]) hP0']
    rfl
  have hdrop : Hid (P.data.toList.drop (P.size - 8) = [47, 112, 107, 103, 105, 110, 102, 111]) := by
    show _ = _
    rw [hPn, Nat.add_sub_cancel, hP0, Plain.fileL, List.drop_left]
    rfl
  have htake : Hid (P.data.toList.take (P.size - 8) = Plain.sl (Plain.elems a0.data.toList)) := by
    show _ = _
    rw [hPn, Nat.add_sub_cancel, hP0, Plain.fileL, List.take_left]
  clear hP0 hPn
  have hP8' : (8 : Int) ≤ (P.size : Int) := by omega
  go_enter Try.func4, Try.ntmps4
  go_wp2_with fail
  refine (small10 a0 _ h1').mono ?_
  rintro e w' ⟨rfl, rfl⟩
  go_wp2_with fail
  refine (info6_same a0 a0.data.toList P _ h1' hP.out rfl).mono ?_
  rintro e w1 ⟨rfl, hb1⟩
  go_wp2_with fail
  refine (suffix8 P ⟨#[47, 112, 107, 103, 105, 110, 102, 111]⟩ _ (by omega) hP8 hdrop.out).mono ?_
  rintro e w2 ⟨rfl, rfl⟩
  go_wp2_with fail
  refine (info6_same _ a0.data.toList P _ (by simp only [ByteArray.size_append, show (⟨#[47]⟩ : ByteArray).size = 1 from rfl]; omega) hP.out (by rw [app_data, app_data]; exact Plain.elems_slashes _)).mono ?_
  rintro e w2 ⟨rfl, hb2⟩
  go_wp2_with fail
  refine (info6_same _ a0.data.toList P _ (by simp only [ByteArray.size_append, show (⟨#[46, 47]⟩ : ByteArray).size = 2 from rfl]; omega) hP.out (by rw [app_data]; exact Plain.elems_dot _)).mono ?_
  rintro e w3 ⟨rfl, hb3⟩
  go_wp2_with fail
  generalize hD : P.extract 0 (P.size - 8) = D
  have hDl : Hid (D.data.toList = Plain.sl (Plain.elems a0.data.toList)) := by
    show _ = _
    rw [← hD, extract_data, List.drop_zero, Nat.sub_zero]
    exact htake.out
  have hDs : D.size ≤ 65600 := by
    rw [← hD, ByteArray.size_extract]
    omega
  clear hD htake hdrop
  by_cases h14 : D.size < 14
  · refine (prefix11_no D ⟨#[47, 118, 97, 114, 47, 115, 97, 100, 109, 47, 112, 107, 103, 47]⟩ _ h14).mono ?_
    rintro e w4 ⟨rfl, rfl⟩
    go_wp2
    go_ret
    exact ⟨rfl, (hb1.trans (hb2.mono hb1.size)).trans (hb3.mono (Nat.le_trans hb1.size hb2.size))⟩
  · have h14' : 14 ≤ D.size := by omega
    have h14i : (14 : Int) ≤ (D.size : Int) := by omega
    refine (prefix11 D ⟨#[47, 118, 97, 114, 47, 115, 97, 100, 109, 47, 112, 107, 103, 47]⟩ _ h14').mono ?_
    rintro e w4 ⟨rfl, rfl⟩
    generalize hB : (D.data.toList.take (ByteArray.mk #[47, 118, 97, 114, 47, 115, 97, 100, 109, 47, 112, 107, 103, 47]).size == (ByteArray.mk #[47, 118, 97, 114, 47, 115, 97, 100, 109, 47, 112, 107, 103, 47]).data.toList) = B
    cases B with
    | false =>
      clear hB
      go_wp2
      go_ret
      exact ⟨rfl, (hb1.trans (hb2.mono hb1.size)).trans (hb3.mono (Nat.le_trans hb1.size hb2.size))⟩
    | true =>
      have hB' : D.data.toList.take 14 = Plain.base ++ [47] := eq_of_beq hB
      have hE : Hid (Plain.elems (D.data.toList.drop 14) = Plain.elems a0.data.toList) := by
        apply Plain.elems_back
        rw [← hDl.out, List.append_cons, ← hB', List.take_append_drop]
      clear hB hB'
      go_wp2_with fail
      refine (info6_same _ a0.data.toList P _ (by rw [ByteArray.size_extract]; omega) hP.out (by rw [extract_data, List.take_of_length_le (by rw [List.length_drop, ← size_eq]; exact Nat.le_refl _)]; exact hE.out)).mono ?_
      rintro e w5 ⟨rfl, hb5⟩
      go_wp2
      go_ret
      exact ⟨rfl, ((hb1.trans (hb2.mono hb1.size)).trans (hb3.mono (Nat.le_trans hb1.size hb2.size))).trans (hb5.mono (Nat.le_trans (Nat.le_trans hb1.size hb2.size) hb3.size))⟩

end Go.Proofs.Qxb6616397a.Walks
