/-
  THE WALKS OF THE SEAT b6617660a: zzCompareBytes, zzEqualBytes, zzBytes.
-/
import Derived.Test.Qxb6617660aRows
import Derived.Test.Qxb6617660aPlain
import Derived.WalkKit
import Derived.ProofKit
import Derived.OwnWalk
import Derived.Deep.QuietTactic
import Derived.BigQuiet
namespace Go.Proofs.Qxb6617660a.Walks
open Go.RowKit
open Go.Proofs.Qxb6617660a

theorem ret_int {k : IntKind} {a b : Int} (h : a = b) : Ending.returned (.int k a) = .returned (.int k b) := by rw [h]

/-- The numbers zs lie where p leads (of no number nothing is said). -/
def Row (w : World) (p : Option Addr) (zs : List Int) : Prop :=
  zs = [] ∨ ∃ g o, p = some ⟨g, o, none⟩ ∧ ∀ (j : Nat) (hj : j < zs.length), w.cell? ⟨g, o + j, none⟩ = some (.int .u8 zs[j])

theorem Row.at {w : World} {p : Option Addr} {zs : List Int} (h : Row w p zs) {k : Nat} (hk : k < zs.length) : ∃ g o, p = some ⟨g, o, none⟩ ∧ w.cell? ⟨g, o + k, none⟩ = some (.int .u8 zs[k]) := by
  rcases h with h | ⟨g, o, hp, hc⟩
  · subst h; simp at hk
  · exact ⟨g, o, hp, hc k hk⟩

theorem drewN_more {w wr : World} (h : ∃ q, wr = w.drewN q) {n : Nat} : ∃ q, wr.drewN n = w.drewN q := by
  obtain ⟨q, rfl⟩ := h
  exact ⟨q + n, by simp⟩

set_option maxHeartbeats 1000000 in
theorem cmp6 (p1 p2 : Option Addr) (c1 c2 : Nat) (xs ys : List Int) (w : World) (hx : Row w p1 xs) (hy : Row w p2 ys) (lx : xs.length ≤ 2000000) (ly : ys.length ≤ 2000000) :
    Calls Try.prog 6 #[.slice p1 xs.length c1, .slice p2 ys.length c2] w fun e w' => e = .returned (.int .i64 (Plain.cmpL xs ys)) ∧ ∃ q, w' = w.drewN q := by
  have HX : Hid (Row w p1 xs) := hx
  have HY : Hid (Row w p2 ys) := hy
  clear hx hy
  by_cases hlt : ys.length < xs.length
  · have hlt' : (ys.length : Int) < (xs.length : Int) := by omega
    go_enter Try.func6, Try.ntmps6
    go_wp2
    go_loopw [6] (fun i wr => ∃ k : Nat, k ≤ ys.length ∧ i = .int .i64 k ∧ Hid (Plain.cmpL xs ys = Plain.cmpL (xs.drop k) (ys.drop k)) ∧ Hid (∃ q, wr = w.drewN q)) (fun i _ => ys.length - (RowKit.intOf i).toNat)
    case atStart => exact ⟨0, Nat.zero_le _, rfl, rfl, 0, rfl⟩
    case round =>
      obtain ⟨k, hk, rfl, hc, hq⟩ := hrel
      by_cases hkn : k < ys.length
      · have hT : (k : Int) < (ys.length : Int) := by omega
        have hT' : (k : Int) < (xs.length : Int) := by omega
        have hd := Plain.cmp_drop xs ys k (by omega) (by omega)
        rw [← hc.out] at hd
        obtain ⟨a, ha⟩ : ∃ a : Int, a = xs[k]'(by omega) := ⟨_, rfl⟩
        obtain ⟨b, hb⟩ : ∃ b : Int, b = ys[k]'(by omega) := ⟨_, rfl⟩
        rw [← ha, ← hb] at hd
        obtain ⟨g1, o1, rfl, hx⟩ := HX.out.at (by omega : k < xs.length)
        obtain ⟨g2, o2, rfl, hy⟩ := HY.out.at (by omega : k < ys.length)
        have hcx : wr.cell? ⟨g1, o1 + k, none⟩ = some (.int .u8 a) := by
          obtain ⟨q, rfl⟩ := hq.out; rw [ha]; exact hx
        have hcy : wr.cell? ⟨g2, o2 + k, none⟩ = some (.int .u8 b) := by
          obtain ⟨q, rfl⟩ := hq.out; rw [hb]; exact hy
        clear ha hb hx hy
        rcases Int.lt_trichotomy a b with h | h | h
        · have h1 := h
          have HD : Hid (Plain.cmpL xs ys = -1) := by rw [if_pos h] at hd; exact hd
          clear hd
          go_wp2
          go_quiet (fail)
          go_wp2
          go_ret
          exact ⟨ret_int HD.out.symm, drewN_more hq.out⟩
        · subst h
          have HD : Hid (Plain.cmpL xs ys = Plain.cmpL (xs.drop (k + 1)) (ys.drop (k + 1))) := by rw [if_neg (Int.lt_irrefl _), if_neg (Int.lt_irrefl _)] at hd; exact hd
          clear hd
          have h1 : ¬ a < a := by omega
          go_wp2
          go_quiet (fail)
          go_wp2
          go_quiet (fail)
          go_wp2
          go_roundw
          case rel => exact ⟨k + 1, by omega, by go_num, HD, by exact drewN_more hq.out⟩
          case measure => simp [RowKit.intOf]; omega
        · have h1 : ¬ a < b := by omega
          have h2 := h
          have HD : Hid (Plain.cmpL xs ys = 1) := by rw [if_neg (by omega), if_pos h] at hd; exact hd
          clear hd
          go_wp2
          go_quiet (fail)
          go_wp2
          go_quiet (fail)
          go_wp2
          go_ret
          exact ⟨ret_int HD.out.symm, drewN_more (drewN_more hq.out)⟩
      · have hT : ¬ (k : Int) < (ys.length : Int) := by omega
        have HD : Hid (Plain.cmpL xs ys = Plain.cmpN xs.length ys.length) := hc.out.trans (Plain.cmp_end xs ys k (by omega) (by omega))
        clear hc
        rcases Nat.lt_trichotomy xs.length ys.length with h | h | h
        · have h1 : (xs.length : Int) < (ys.length : Int) := by omega
          go_wp2
          go_ret
          exact ⟨ret_int (by rw [HD.out, Plain.cmpN, if_pos h]), hq.out⟩
        · exfalso
          omega
        · have h1 : ¬ (xs.length : Int) < (ys.length : Int) := by omega
          have h2 : (ys.length : Int) < (xs.length : Int) := by omega
          go_wp2
          go_ret
          exact ⟨ret_int (by rw [HD.out, Plain.cmpN, if_neg (by omega), if_pos h]), hq.out⟩
  · have hlt' : ¬ (ys.length : Int) < (xs.length : Int) := by omega
    go_enter Try.func6, Try.ntmps6
    go_wp2
    go_loopw [6] (fun i wr => ∃ k : Nat, k ≤ xs.length ∧ i = .int .i64 k ∧ Hid (Plain.cmpL xs ys = Plain.cmpL (xs.drop k) (ys.drop k)) ∧ Hid (∃ q, wr = w.drewN q)) (fun i _ => xs.length - (RowKit.intOf i).toNat)
    case atStart => exact ⟨0, Nat.zero_le _, rfl, rfl, 0, rfl⟩
    case round =>
      obtain ⟨k, hk, rfl, hc, hq⟩ := hrel
      by_cases hkn : k < xs.length
      · have hT : (k : Int) < (ys.length : Int) := by omega
        have hT' : (k : Int) < (xs.length : Int) := by omega
        have hd := Plain.cmp_drop xs ys k (by omega) (by omega)
        rw [← hc.out] at hd
        obtain ⟨a, ha⟩ : ∃ a : Int, a = xs[k]'(by omega) := ⟨_, rfl⟩
        obtain ⟨b, hb⟩ : ∃ b : Int, b = ys[k]'(by omega) := ⟨_, rfl⟩
        rw [← ha, ← hb] at hd
        obtain ⟨g1, o1, rfl, hx⟩ := HX.out.at (by omega : k < xs.length)
        obtain ⟨g2, o2, rfl, hy⟩ := HY.out.at (by omega : k < ys.length)
        have hcx : wr.cell? ⟨g1, o1 + k, none⟩ = some (.int .u8 a) := by
          obtain ⟨q, rfl⟩ := hq.out; rw [ha]; exact hx
        have hcy : wr.cell? ⟨g2, o2 + k, none⟩ = some (.int .u8 b) := by
          obtain ⟨q, rfl⟩ := hq.out; rw [hb]; exact hy
        clear ha hb hx hy
        rcases Int.lt_trichotomy a b with h | h | h
        · have h1 := h
          have HD : Hid (Plain.cmpL xs ys = -1) := by rw [if_pos h] at hd; exact hd
          clear hd
          go_wp2
          go_quiet (fail)
          go_wp2
          go_ret
          exact ⟨ret_int HD.out.symm, drewN_more hq.out⟩
        · subst h
          have HD : Hid (Plain.cmpL xs ys = Plain.cmpL (xs.drop (k + 1)) (ys.drop (k + 1))) := by rw [if_neg (Int.lt_irrefl _), if_neg (Int.lt_irrefl _)] at hd; exact hd
          clear hd
          have h1 : ¬ a < a := by omega
          go_wp2
          go_quiet (fail)
          go_wp2
          go_quiet (fail)
          go_wp2
          go_roundw
          case rel => exact ⟨k + 1, by omega, by go_num, HD, by exact drewN_more hq.out⟩
          case measure => simp [RowKit.intOf]; omega
        · have h1 : ¬ a < b := by omega
          have h2 := h
          have HD : Hid (Plain.cmpL xs ys = 1) := by rw [if_neg (by omega), if_pos h] at hd; exact hd
          clear hd
          go_wp2
          go_quiet (fail)
          go_wp2
          go_quiet (fail)
          go_wp2
          go_ret
          exact ⟨ret_int HD.out.symm, drewN_more (drewN_more hq.out)⟩
      · have hT : ¬ (k : Int) < (xs.length : Int) := by omega
        have HD : Hid (Plain.cmpL xs ys = Plain.cmpN xs.length ys.length) := hc.out.trans (Plain.cmp_end xs ys k (by omega) (by omega))
        clear hc
        rcases Nat.lt_trichotomy xs.length ys.length with h | h | h
        · have h1 : (xs.length : Int) < (ys.length : Int) := by omega
          go_wp2
          go_ret
          exact ⟨ret_int (by rw [HD.out, Plain.cmpN, if_pos h]), hq.out⟩
        · have h1 : ¬ (xs.length : Int) < (ys.length : Int) := by omega
          have h2 : ¬ (ys.length : Int) < (xs.length : Int) := by omega
          have HD' : Hid (Plain.cmpL xs ys = 0) := by have := HD.out; rw [Plain.cmpN, if_neg (by omega), if_neg (by omega)] at this; exact this
          clear h HD
          go_wp2
          go_ret
          exact ⟨ret_int HD'.out.symm, hq.out⟩
        · have h1 : ¬ (xs.length : Int) < (ys.length : Int) := by omega
          have h2 : (ys.length : Int) < (xs.length : Int) := by omega
          go_wp2
          go_ret
          exact ⟨ret_int (by rw [HD.out, Plain.cmpN, if_neg (by omega), if_pos h]), hq.out⟩

set_option maxHeartbeats 1000000 in
theorem eq7 (p1 p2 : Option Addr) (c1 c2 : Nat) (xs : List Int) (w : World) (hx : Row w p1 xs) (hy : Row w p2 xs) (lx : xs.length ≤ 2000000) :
    Calls Try.prog 7 #[.slice p1 xs.length c1, .slice p2 xs.length c2] w fun e w' => e = .returned (.bool true) ∧ ∃ q, w' = w.drewN q := by
  have HX : Hid (Row w p1 xs) := hx
  have HY : Hid (Row w p2 xs) := hy
  clear hx hy
  go_enter Try.func7, Try.ntmps7
  go_wp2
  go_loopw [5] (fun i wr => ∃ k : Nat, k ≤ xs.length ∧ i = .int .i64 k ∧ Hid (∃ q, wr = w.drewN q)) (fun i _ => xs.length - (RowKit.intOf i).toNat)
  case atStart => exact ⟨0, Nat.zero_le _, rfl, 0, rfl⟩
  case round =>
    obtain ⟨k, hk, rfl, hq⟩ := hrel
    by_cases hkn : k < xs.length
    · have hT : (k : Int) < (xs.length : Int) := by omega
      obtain ⟨a, ha⟩ : ∃ a : Int, a = xs[k]'(by omega) := ⟨_, rfl⟩
      obtain ⟨g1, o1, rfl, hx⟩ := HX.out.at (by omega : k < xs.length)
      obtain ⟨g2, o2, rfl, hy⟩ := HY.out.at (by omega : k < xs.length)
      have hcx : wr.cell? ⟨g1, o1 + k, none⟩ = some (.int .u8 a) := by
        obtain ⟨q, rfl⟩ := hq.out; rw [ha]; exact hx
      have hcy : wr.cell? ⟨g2, o2 + k, none⟩ = some (.int .u8 a) := by
        obtain ⟨q, rfl⟩ := hq.out; rw [ha]; exact hy
      clear ha hx hy
      go_wp2
      go_quiet (fail)
      go_wp2
      go_roundw
      case rel => exact ⟨k + 1, by omega, by go_num, by exact drewN_more hq.out⟩
      case measure => simp [RowKit.intOf]; omega
    · have hT : ¬ (k : Int) < (xs.length : Int) := by omega
      go_wp2
      go_ret
      exact ⟨rfl, hq.out⟩

/-! the bound on the lengths -/
set_option maxHeartbeats 400000 in
theorem small4 (p1 p2 : Option Addr) (n1 c1 n2 c2 : Nat) (w : World) (h : n1 + n2 ≤ 1048576) :
    Calls Try.prog 4 #[.slice p1 n1 c1, .slice p2 n2 c2] w fun e w' => e = .returned (.bool true) ∧ w' = w := by
  have h1 : ¬ (1048576 < (n1 : Int)) := by omega
  have h2 : ¬ (1048576 < (n2 : Int)) := by omega
  have h3 : ¬ (1048576 < (n1 : Int) + (n2 : Int)) := by omega
  go_enter Try.func4, Try.ntmps4
  go_wp2
  go_ret
  exact ⟨rfl, rfl⟩

set_option maxHeartbeats 400000 in
theorem large4 (p1 p2 : Option Addr) (n1 c1 n2 c2 : Nat) (w : World) (h : 1048576 < n1 + n2) :
    Calls Try.prog 4 #[.slice p1 n1 c1, .slice p2 n2 c2] w fun e w' => e = .returned (.bool false) ∧ w' = w := by
  by_cases k1 : 1048576 < n1
  · have h1 : 1048576 < (n1 : Int) := by omega
    go_enter Try.func4, Try.ntmps4
    go_wp2
    go_ret
    exact ⟨rfl, rfl⟩
  have h1 : ¬ (1048576 < (n1 : Int)) := by omega
  by_cases k2 : 1048576 < n2
  · have h2 : 1048576 < (n2 : Int) := by omega
    go_enter Try.func4, Try.ntmps4
    go_wp2
    go_ret
    exact ⟨rfl, rfl⟩
  have h2 : ¬ (1048576 < (n2 : Int)) := by omega
  have h3 : 1048576 < (n1 : Int) + (n2 : Int) := by omega
  go_enter Try.func4, Try.ntmps4
  go_wp2
  go_ret
  exact ⟨rfl, rfl⟩

end Go.Proofs.Qxb6617660a.Walks
