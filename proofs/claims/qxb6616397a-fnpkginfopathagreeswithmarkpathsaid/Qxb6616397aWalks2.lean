/-
  THE WALKS OF THE SEAT b6616397a, 2: hasSuffix, hasPrefix, isPlainName.
-/
import Derived.Test.Qxb6616397aWalks
namespace Go.Proofs.Qxb6616397a.Walks
open Go.RowKit Go.Lib
open Go.Proofs.Qxb6616397a

theorem ret_bool {a b : Bool} (h : a = b) : Ending.returned (.bool a) = .returned (.bool b) := by rw [h]

set_option maxHeartbeats 400000 in
theorem suffix8 (s t : ByteArray) (w : World) (hs : s.size ≤ 10000000) (hle : t.size ≤ s.size) (h : s.data.toList.drop (s.size - t.size) = t.data.toList) :
    Calls Try.prog 8 #[.string s, .string t] w fun e w' => e = .returned (.bool true) ∧ w' = w := by
  have H : Hid (s.data.toList.drop (s.size - t.size) = t.data.toList) := h
  clear h
  have h1 : ¬ ((s.size : Int) < (t.size : Int)) := by omega
  have h2 : (t.size : Int) ≤ (s.size : Int) := by omega
  go_enter Try.func8, Try.ntmps8
  go_wp2
  go_ret
  refine ⟨ret_bool ?_, rfl⟩
  rw [extract_toList, toList_data, H.out, List.take_of_length_le]
  · simp
  · rw [← size_eq]; omega

set_option maxHeartbeats 400000 in
theorem prefix11 (s t : ByteArray) (w : World) (hle : t.size ≤ s.size)  :
    Calls Try.prog 11 #[.string s, .string t] w fun e w' => e = .returned (.bool (s.data.toList.take t.size == t.data.toList)) ∧ w' = w := by
  have h1 : ¬ ((s.size : Int) < (t.size : Int)) := by omega
  have h2 : (t.size : Int) ≤ (s.size : Int) := by omega
  go_enter Try.func11, Try.ntmps11
  go_wp2
  go_ret
  refine ⟨ret_bool ?_, rfl⟩
  rw [extract_toList, toList_data]
  simp

set_option maxHeartbeats 400000 in
theorem prefix11_no (s t : ByteArray) (w : World) (hle : s.size < t.size)  :
    Calls Try.prog 11 #[.string s, .string t] w fun e w' => e = .returned (.bool false) ∧ w' = w := by
  have h1 : (s.size : Int) < (t.size : Int) := by omega
  go_enter Try.func11, Try.ntmps11
  go_wp2
  go_ret
  exact ⟨rfl, rfl⟩

def PlainEnd (x : ByteArray) (e : Ending) : Prop := ∃ b, e = .returned (.bool b) ∧ (b = true → Plain.Good x.data.toList)

theorem take_snoc (s : ByteArray) (k : Nat) (h : k < s.size) : s.data.toList.take (k + 1) = s.data.toList.take k ++ [s[k]] := by
  rw [List.take_succ_eq_append_getElem (by simpa using h)]; rfl

set_option maxHeartbeats 400000 in
theorem plain9 (x : ByteArray) (w : World) (hx : x.size ≤ 10000000) :
    Calls Try.prog 9 #[.string x] w fun e w' => PlainEnd x e ∧ w' = w := by
  by_cases h0 : x.size = 0
  · have h0' : ((x.size : Int) == 0) = true := by simp [h0]
    go_enter Try.func9, Try.ntmps9
    go_wp2
    go_ret
    exact ⟨⟨false, rfl, by simp⟩, rfl⟩
  have h0' : ((x.size : Int) == 0) = false := by simpa using h0
  by_cases h1 : (x.toList == [46]) = true
  · go_enter Try.func9, Try.ntmps9
    go_wp2
    go_ret
    exact ⟨⟨false, rfl, by simp⟩, rfl⟩
  have h1' : (x.toList == [46]) = false := by simpa using h1
  by_cases h2 : (x.toList == [46, 46]) = true
  · go_enter Try.func9, Try.ntmps9
    go_wp2
    go_ret
    exact ⟨⟨false, rfl, by simp⟩, rfl⟩
  have h2' : (x.toList == [46, 46]) = false := by simpa using h2
  have HG : Hid (47 ∉ x.data.toList → Plain.Good x.data.toList) := by
    intro hn
    rw [toList_data] at h1' h2'
    refine ⟨hn, ?_, by simpa using h1', by simpa using h2'⟩
    intro he
    rw [size_eq, he] at h0
    exact h0 rfl
  clear h0 h1 h2
  go_enter Try.func9, Try.ntmps9
  go_wp2
  go_loop [3] (fun i => ∃ k : Nat, k ≤ x.size ∧ i = .int .i64 k ∧ Hid (47 ∉ x.data.toList.take k)) (fun i => x.size - (RowKit.intOf i).toNat)
  case atStart => exact ⟨0, Nat.zero_le _, rfl, by simp [Hid]⟩
  case round =>
    obtain ⟨k, hk, rfl, hn⟩ := hrel
    by_cases hlt : k < x.size
    · have hT : (k : Int) < (x.size : Int) := by omega
      have HN : Hid (x[k].toNat ≠ 47 → 47 ∉ x.data.toList.take (k + 1)) := by
        intro h47 hm
        rw [take_snoc x k hlt, List.mem_append] at hm
        rcases hm with hm | hm
        · exact hn.out hm
        · simp at hm
          exact h47 (by rw [← hm]; rfl)
      by_cases h47 : x[k].toNat = 47
      · have e47 : ((x[k].toNat : Int) == 47) = true := by simp [h47]
        clear h47
        go_wp2
        go_ret
        exact ⟨⟨false, rfl, by simp⟩, rfl⟩
      · have e47 : ((x[k].toNat : Int) == 47) = false := by simpa using (by omega : ¬ (x[k].toNat : Int) = 47)
        have HN' : Hid (47 ∉ x.data.toList.take (k + 1)) := HN.out h47
        clear h47 HN
        go_wp2
        go_round
        case rel => exact ⟨k + 1, by omega, by go_num, HN'⟩
        case measure => simp [RowKit.intOf]; omega
    · have hT : ¬ ((k : Int) < (x.size : Int)) := by omega
      go_wp2
      go_ret
      refine ⟨⟨true, rfl, fun _ => HG.out ?_⟩, rfl⟩
      have := hn.out
      rwa [List.take_of_length_le (by rw [← size_eq]; omega)] at this

end Go.Proofs.Qxb6616397a.Walks
