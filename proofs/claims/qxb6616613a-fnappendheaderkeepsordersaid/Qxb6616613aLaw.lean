/-
  THE WALK OF FnAppendHeaderKeepsOrder.
-/
import Derived.Test.Qxb6616613aWalks2
namespace Go.Proofs.Qxb6616613a.Walks
open Go.RowKit
open Go.Proofs.Qxb6616613a

theorem Bytes.kept {w w' : World} {g : Nat} {xs : List UInt8} (h : Bytes w g xs) (hg : g < w.heap.size) (hb : Below w.heap.size w w') : Bytes w' g xs :=
  fun j hj => (hb.cell (p := ⟨g, j, none⟩) hg).trans (h j hj)

theorem below_drewN {B q : Nat} {w w' : World} (h : Below B w w') : Below B w (w'.drewN q) := ⟨h.os, h.tape, h.output, h.size, h.block⟩

theorem cmpN_zero (a b : Nat) : (Plain.cmpN a b == 0) = decide (a = b) := by
  unfold Plain.cmpN
  rcases Nat.lt_trichotomy a b with h | h | h
  · rw [if_pos h]; simp; omega
  · subst h; simp
  · rw [if_neg (by omega), if_pos h]; simp; omega

set_option maxHeartbeats 1000000 in
theorem walk3 (t1 l1 t2 l2 : Nat) (h1 : t1 < 18446744073709551616) (h2 : l1 < 18446744073709551616) (h3 : t2 < 18446744073709551616) (h4 : l2 < 18446744073709551616) (w : World) :
    Calls Try.prog 3 #[.int .u64 t1, .int .u64 l1, .int .u64 t2, .int .u64 l2] w fun e w' => e = .returned (.bool true) ∧ Below w.heap.size w w' := by
  have hk := Plain.keeps t1 l1 t2 l2 h1 h2 h3 h4
  have hn1 : (Plain.vnum t1 ++ Plain.vnum l1).length ≤ 1000 := by
    have := Plain.vnum_length t1; have := Plain.vnum_length l1; rw [List.length_append]; omega
  have hn2 : (Plain.vnum t2 ++ Plain.vnum l2).length ≤ 1000 := by
    have := Plain.vnum_length t2; have := Plain.vnum_length l2; rw [List.length_append]; omega
  obtain ⟨X, eX⟩ : ∃ X, Plain.vnum t1 ++ Plain.vnum l1 = X := ⟨_, rfl⟩
  obtain ⟨Y, eY⟩ : ∃ Y, Plain.vnum t2 ++ Plain.vnum l2 = Y := ⟨_, rfl⟩
  rw [eX] at hn1 hk
  rw [eY] at hn2 hk
  have EX : Hid (Plain.vnum t1 ++ Plain.vnum l1 = X) := eX
  have EY : Hid (Plain.vnum t2 ++ Plain.vnum l2 = Y) := eY
  have HK : Hid (Plain.cmpL X Y = Plain.lexN t1 t2 (Plain.cmpN l1 l2)) := hk
  clear eX eY hk
  go_enter Try.func3, Try.ntmps3
  go_wp2_with fail
  refine (head4 t1 l1 h1 h2 _).mono ?_
  rintro e w1 ⟨v1, rfl, hh1, hb1⟩
  rw [EX.out] at hh1
  obtain ⟨g1, c1, rfl, hB1, hg1, hc1⟩ := hh1
  have Hc1 : Hid (Bytes w1 g1 X) := hc1
  clear hc1
  go_wp2_with fail
  refine (head4 t2 l2 h3 h4 _).mono ?_
  rintro e w2 ⟨v2, rfl, hh2, hb2⟩
  rw [EY.out] at hh2
  obtain ⟨g2, c2, rfl, hB2, hg2, hc2⟩ := hh2
  have hc1' := Bytes.kept Hc1.out hg1 hb2
  have HX : Hid (Bytes w2 g1 X) := hc1'
  have HY : Hid (Bytes w2 g2 Y) := hc2
  clear Hc1 hc1' hc2
  go_wp2_with fail
  refine (cmp5 t1 t2 _).mono ?_
  rintro e w3 ⟨rfl, rfl⟩
  have hz := cmpN_zero t1 t2
  by_cases ht : t1 = t2
  · have hz' : (Plain.cmpN t1 t2 == 0) = true := by rw [hz]; simp [ht]
    have HL : Hid (Plain.cmpL X Y = Plain.cmpN l1 l2) := by
      show _ = _
      rw [HK.out, Plain.lexN, if_neg (by omega), if_neg (by omega)]
    clear hz ht
    go_wp2_with fail
    refine (cmp5 l1 l2 _).mono ?_
    rintro e w4 ⟨rfl, rfl⟩
    go_wp2_with fail
    refine (cmp6 g1 c1 g2 c2 X Y _ HX.out HY.out hn1 hn2).mono ?_
    rintro e w5 ⟨rfl, q, rfl⟩
    rw [HL.out]
    go_wp2
    go_ret
    exact ⟨rfl, below_drewN (hb1.trans (hb2.mono hb1.size))⟩
  · have hz' : (Plain.cmpN t1 t2 == 0) = false := by rw [hz]; simp [ht]
    have HL : Hid (Plain.cmpL X Y = Plain.cmpN t1 t2) := by
      show _ = _
      rw [HK.out]
      unfold Plain.lexN
      rcases Nat.lt_trichotomy t1 t2 with h | h | h
      · rw [if_pos h, Plain.cmpN, if_pos h]
      · exact absurd h ht
      · rw [if_neg (by omega), if_pos h, Plain.cmpN, if_neg (by omega), if_pos h]
    clear hz
    go_wp2_with fail
    refine (cmp6 g1 c1 g2 c2 X Y _ HX.out HY.out hn1 hn2).mono ?_
    rintro e w5 ⟨rfl, q, rfl⟩
    rw [HL.out]
    go_wp2
    go_ret
    exact ⟨rfl, below_drewN (hb1.trans (hb2.mono hb1.size))⟩

end Go.Proofs.Qxb6616613a.Walks
