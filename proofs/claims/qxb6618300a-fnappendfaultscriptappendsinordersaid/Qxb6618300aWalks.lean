/-
  THE WALKS OF THE SEAT b6618300a: zzBytes, and the bound on the total length.
-/
import Derived.Test.Qxb6618300aRows
import Derived.WalkKit
import Derived.ProofKit
import Derived.OwnWalk
import Derived.Deep.QuietTactic
import Derived.BigQuiet
namespace Go.Proofs.Qxb6618300a.Walks
open Go.RowKit
open Go.Proofs.Qxb6618300a

/-- The strings xs lie where p leads (of no string nothing is said). -/
def SRow (w : World) (p : Option Addr) (xs : List ByteArray) : Prop :=
  xs = [] ∨ ∃ g o, p = some ⟨g, o, none⟩ ∧ g < w.heap.size ∧ ∀ (j : Nat) (hj : j < xs.length), w.cell? ⟨g, o + j, none⟩ = some (.string xs[j])

theorem SRow.at {w : World} {p : Option Addr} {xs : List ByteArray} (h : SRow w p xs) {k : Nat} (hk : k < xs.length) : ∃ g o, p = some ⟨g, o, none⟩ ∧ g < w.heap.size ∧ w.cell? ⟨g, o + k, none⟩ = some (.string xs[k]) := by
  rcases h with h | ⟨g, o, hp, hg, hc⟩
  · subst h; simp at hk
  · exact ⟨g, o, hp, hg, hc k hk⟩

theorem SRow.kept {w w' : World} {p : Option Addr} {xs : List ByteArray} (h : SRow w p xs) {B : Nat} (hb : Below B w w') (hB : w.heap.size ≤ B) : SRow w' p xs := by
  rcases h with h | ⟨g, o, hp, hg, hc⟩
  · exact .inl h
  · exact .inr ⟨g, o, hp, Nat.lt_of_lt_of_le hg hb.size, fun j hj => (hb.cell (p := ⟨g, o + j, none⟩) (Nat.lt_of_lt_of_le hg hB)).trans (hc j hj)⟩

/-- Some int is handed back. -/
def IntEnd (e : Ending) : Prop := ∃ r : Int, e = .returned (.int .i64 r)
/-- Some bool is handed back. -/
def BoolEnd (e : Ending) : Prop := ∃ b : Bool, e = .returned (.bool b)

set_option maxHeartbeats 400000 in
theorem zz5 (p : Option Addr) (c : Nat) (xs : List ByteArray) (acc : Int) (w : World) (hx : SRow w p xs) (lx : xs.length ≤ 2000000) :
    Calls Try.prog 5 #[.slice p xs.length c, .int .i64 acc] w fun e w' => IntEnd e ∧ w' = w := by
  have HX : Hid (SRow w p xs) := hx
  clear hx
  go_enter Try.func5, Try.ntmps5
  go_wp2
  go_loop [1, 5] (fun a i => ∃ (k : Nat) (r : Int), k ≤ xs.length ∧ i = .int .i64 k ∧ a = .int .i64 r) (fun _ i => xs.length - (RowKit.intOf i).toNat)
  case atStart => exact ⟨0, acc, Nat.zero_le _, rfl, rfl⟩
  case round =>
    obtain ⟨k, r, hk, rfl, rfl⟩ := hrel
    by_cases hkn : k < xs.length
    · have hT : (k : Int) < (xs.length : Int) := by omega
      obtain ⟨s, hs⟩ : ∃ s, s = xs[k] := ⟨_, rfl⟩
      obtain ⟨g, o, rfl, hg, hx⟩ := HX.out.at hkn
      rw [← hs] at hx
      clear hs
      go_wp2
      · go_ret
        exact ⟨⟨_, rfl⟩, rfl⟩
      · go_round
        case rel => exact ⟨k + 1, _, by omega, by go_num, rfl⟩
        case measure => simp [RowKit.intOf]; omega
    · have hT : ¬ (k : Int) < (xs.length : Int) := by omega
      go_wp2
      go_ret
      exact ⟨⟨_, rfl⟩, rfl⟩

set_option maxHeartbeats 2000000 in
theorem zz4 (p1 p2 p3 p4 : Option Addr) (c1 c2 c3 c4 : Nat) (xs ys zs us : List ByteArray) (sp : Int) (w : World) (h1 : SRow w p1 xs) (h2 : SRow w p2 ys) (h3 : SRow w p3 zs) (h4 : SRow w p4 us) :
    Calls Try.prog 4 #[.slice p1 xs.length c1, .slice p2 ys.length c2, .slice p3 zs.length c3, .slice p4 us.length c4, .int .i64 sp] w fun e w' => BoolEnd e ∧ w' = w := by
  have HX1 : Hid (SRow w p1 xs) := h1
  have HX2 : Hid (SRow w p2 ys) := h2
  have HX3 : Hid (SRow w p3 zs) := h3
  have HX4 : Hid (SRow w p4 us) := h4
  clear h1 h2 h3 h4
  go_enter Try.func4, Try.ntmps4
  go_wp2
  any_goals (first | (go_ret; exact ⟨⟨_, rfl⟩, rfl⟩) | skip)
  go_loop [11, 12] (fun a i => ∃ (k : Nat) (r : Int), k ≤ xs.length ∧ i = .int .i64 k ∧ a = .int .i64 r) (fun _ i => xs.length - (RowKit.intOf i).toNat)
  case atStart => exact ⟨0, _, Nat.zero_le _, rfl, rfl⟩
  case round =>
    obtain ⟨k0, r0, hk0, rfl, rfl⟩ := hrel
    by_cases hkn : k0 < xs.length
    · have hT : (k0 : Int) < (xs.length : Int) := by omega
      obtain ⟨s, hs⟩ : ∃ s, s = xs[k0] := ⟨_, rfl⟩
      obtain ⟨g, o, rfl, hg, hx⟩ := HX1.out.at hkn
      rw [← hs] at hx
      clear hs
      go_wp2
      any_goals (first | (go_ret; exact ⟨⟨_, rfl⟩, rfl⟩) | skip)
      go_round
      case rel => exact ⟨k0 + 1, _, by omega, by go_num, rfl⟩
      case measure => simp [RowKit.intOf]; omega
    · have hT : ¬ (k0 : Int) < (xs.length : Int) := by omega
      go_wp2
      any_goals (first | (go_ret; exact ⟨⟨_, rfl⟩, rfl⟩) | skip)
      go_loop [11, 13] (fun a i => ∃ (k : Nat) (r : Int), k ≤ ys.length ∧ i = .int .i64 k ∧ a = .int .i64 r) (fun _ i => ys.length - (RowKit.intOf i).toNat)
      case atStart => exact ⟨0, _, Nat.zero_le _, rfl, rfl⟩
      case round =>
        obtain ⟨k1, r1, hk1, rfl, rfl⟩ := hrel
        by_cases hkn : k1 < ys.length
        · have hT : (k1 : Int) < (ys.length : Int) := by omega
          obtain ⟨s, hs⟩ : ∃ s, s = ys[k1] := ⟨_, rfl⟩
          obtain ⟨g, o, rfl, hg, hx⟩ := HX2.out.at hkn
          rw [← hs] at hx
          clear hs
          go_wp2
          any_goals (first | (go_ret; exact ⟨⟨_, rfl⟩, rfl⟩) | skip)
          go_round
          case rel => exact ⟨k1 + 1, _, by omega, by go_num, rfl⟩
          case measure => simp [RowKit.intOf]; omega
        · have hT : ¬ (k1 : Int) < (ys.length : Int) := by omega
          go_wp2
          any_goals (first | (go_ret; exact ⟨⟨_, rfl⟩, rfl⟩) | skip)
          go_loop [11, 14] (fun a i => ∃ (k : Nat) (r : Int), k ≤ zs.length ∧ i = .int .i64 k ∧ a = .int .i64 r) (fun _ i => zs.length - (RowKit.intOf i).toNat)
          case atStart => exact ⟨0, _, Nat.zero_le _, rfl, rfl⟩
          case round =>
            obtain ⟨k2, r2, hk2, rfl, rfl⟩ := hrel
            by_cases hkn : k2 < zs.length
            · have hT : (k2 : Int) < (zs.length : Int) := by omega
              obtain ⟨s, hs⟩ : ∃ s, s = zs[k2] := ⟨_, rfl⟩
              obtain ⟨g, o, rfl, hg, hx⟩ := HX3.out.at hkn
              rw [← hs] at hx
              clear hs
              go_wp2
              any_goals (first | (go_ret; exact ⟨⟨_, rfl⟩, rfl⟩) | skip)
              go_round
              case rel => exact ⟨k2 + 1, _, by omega, by go_num, rfl⟩
              case measure => simp [RowKit.intOf]; omega
            · have hT : ¬ (k2 : Int) < (zs.length : Int) := by omega
              go_wp2
              any_goals (first | (go_ret; exact ⟨⟨_, rfl⟩, rfl⟩) | skip)
              go_loop [11, 15] (fun a i => ∃ (k : Nat) (r : Int), k ≤ us.length ∧ i = .int .i64 k ∧ a = .int .i64 r) (fun _ i => us.length - (RowKit.intOf i).toNat)
              case atStart => exact ⟨0, _, Nat.zero_le _, rfl, rfl⟩
              case round =>
                obtain ⟨k3, r3, hk3, rfl, rfl⟩ := hrel
                by_cases hkn : k3 < us.length
                · have hT : (k3 : Int) < (us.length : Int) := by omega
                  obtain ⟨s, hs⟩ : ∃ s, s = us[k3] := ⟨_, rfl⟩
                  obtain ⟨g, o, rfl, hg, hx⟩ := HX4.out.at hkn
                  rw [← hs] at hx
                  clear hs
                  go_wp2
                  any_goals (first | (go_ret; exact ⟨⟨_, rfl⟩, rfl⟩) | skip)
                  go_round
                  case rel => exact ⟨k3 + 1, _, by omega, by go_num, rfl⟩
                  case measure => simp [RowKit.intOf]; omega
                · have hT : ¬ (k3 : Int) < (us.length : Int) := by omega
                  go_wp2
                  all_goals (go_ret; exact ⟨⟨_, rfl⟩, rfl⟩)

end Go.Proofs.Qxb6618300a.Walks
