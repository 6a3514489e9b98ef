/-
  THE WALKS OF THE SEAT b6616613a, 2: cmpU64, cmpBytes, AppendHeader.
-/
import Derived.Test.Qxb6616613aWalks
import Derived.Test.Qxb6616613aPlain
import Derived.Deep.QuietTactic
import Derived.BigQuiet
namespace Go.Proofs.Qxb6616613a.Walks
open Go.RowKit
open Go.Proofs.Qxb6616613a

theorem ret_int {k : IntKind} {a b : Int} (h : a = b) : Ending.returned (.int k a) = .returned (.int k b) := by rw [h]

/-- A slice of bytes that lies in a block of its own. -/
def Bytes (w : World) (g : Nat) (xs : List UInt8) : Prop := ∀ (j : Nat) (hj : j < xs.length), w.cell? ⟨g, j, none⟩ = some (.int .u8 xs[j].toNat)

theorem drewN_more {w wr : World} (h : ∃ q, wr = w.drewN q) {n : Nat} : ∃ q, wr.drewN n = w.drewN q := by
  obtain ⟨q, rfl⟩ := h
  exact ⟨q + n, by simp⟩

set_option maxHeartbeats 400000 in
theorem cmp5 (a b : Nat) (w : World) : Calls Try.prog 5 #[.int .u64 a, .int .u64 b] w fun e w' => e = .returned (.int .i64 (Plain.cmpN a b)) ∧ w' = w := by
  rcases Nat.lt_trichotomy a b with h | h | h
  · have h1 : (a : Int) < (b : Int) := by omega
    go_enter Try.func5, Try.ntmps5
    go_wp2
    go_ret
    exact ⟨ret_int (by unfold Plain.cmpN; rw [if_pos h]), rfl⟩
  · subst h
    go_enter Try.func5, Try.ntmps5
    go_wp2
    go_ret
    exact ⟨ret_int (by unfold Plain.cmpN; simp), rfl⟩
  · have h1 : ¬ (a : Int) < (b : Int) := by omega
    have h2 : (b : Int) < (a : Int) := by omega
    go_enter Try.func5, Try.ntmps5
    go_wp2
    go_ret
    exact ⟨ret_int (by unfold Plain.cmpN; rw [if_neg (by omega), if_pos h]), rfl⟩

set_option maxHeartbeats 1000000 in
theorem cmp6 (g1 c1 g2 c2 : Nat) (xs ys : List UInt8) (w : World) (hx : Bytes w g1 xs) (hy : Bytes w g2 ys) (lx : xs.length ≤ 1000) (ly : ys.length ≤ 1000) :
    Calls Try.prog 6 #[.slice (some ⟨g1, 0, none⟩) xs.length c1, .slice (some ⟨g2, 0, none⟩) ys.length c2] w fun e w' => e = .returned (.int .i64 (Plain.cmpL xs ys)) ∧ ∃ q, w' = w.drewN q := by
  have HX : Hid (Bytes w g1 xs) := hx
  have HY : Hid (Bytes w g2 ys) := hy
  clear hx hy
  by_cases hlt : ys.length < xs.length
  · have hlt' : (ys.length : Int) < (xs.length : Int) := by omega
    go_enter Try.func6, Try.ntmps6
    go_wp2
    go_loopw [6] (fun i wr => ∃ k : Nat, k ≤ ys.length ∧ i = .int .i64 k ∧ Hid (Plain.cmpL xs ys = Plain.cmpL (xs.drop k) (ys.drop k)) ∧ Hid (∃ q, wr = w.drewN q)) (fun i _ => ys.length - (RowKit.intOf i).toNat)
    case atStart => exact ⟨0, Nat.zero_le _, rfl, rfl, 0, rfl⟩
    case round =>
      obtain ⟨k, hk, rfl, hc, hq⟩ := hrel
      by_cases hkn : k < ys.length
      · have hT : (k : Int) < (ys.length : Int) := by omega
        have hT' : (k : Int) < (xs.length : Int) := by omega
        have hd := Plain.cmp_drop xs ys k (by omega) (by omega)
        rw [← hc.out] at hd
        obtain ⟨a, ha⟩ : ∃ a : Nat, a = (xs[k]'(by omega)).toNat := ⟨_, rfl⟩
        obtain ⟨b, hb⟩ : ∃ b : Nat, b = (ys[k]'(by omega)).toNat := ⟨_, rfl⟩
        rw [← ha, ← hb] at hd
        have hcx : wr.cell? ⟨g1, k, none⟩ = some (.int .u8 (a : Int)) := by
          obtain ⟨q, rfl⟩ := hq.out; rw [ha]; exact HX.out k (by omega)
        have hcy : wr.cell? ⟨g2, k, none⟩ = some (.int .u8 (b : Int)) := by
          obtain ⟨q, rfl⟩ := hq.out; rw [hb]; exact HY.out k (by omega)
        clear ha hb
        rcases Nat.lt_trichotomy a b with h | h | h
        · have h1 : (a : Int) < (b : Int) := by omega
          have HD : Hid (Plain.cmpL xs ys = -1) := by rw [if_pos h] at hd; exact hd
          clear hd
          go_wp2
          go_quiet (fail)
          go_wp2
          go_ret
          exact ⟨ret_int HD.out.symm, drewN_more hq.out⟩
        · subst h
          have HD : Hid (Plain.cmpL xs ys = Plain.cmpL (xs.drop (k + 1)) (ys.drop (k + 1))) := by rw [if_neg (Nat.lt_irrefl _), if_neg (Nat.lt_irrefl _)] at hd; exact hd
          clear hd
          have h1 : ¬ (a : Int) < (a : Int) := by omega
          go_wp2
          go_quiet (fail)
          go_wp2
          go_quiet (fail)
          go_wp2
          go_roundw
          case rel => exact ⟨k + 1, by omega, by go_num, HD, by exact drewN_more hq.out⟩
          case measure => simp [RowKit.intOf]; omega
        · have h1 : ¬ (a : Int) < (b : Int) := by omega
          have h2 : (b : Int) < (a : Int) := by omega
          have HD : Hid (Plain.cmpL xs ys = 1) := by rw [if_neg (by omega), if_pos h] at hd; exact hd
          clear hd
          go_wp2
          go_quiet (fail)
          go_wp2
          go_quiet (fail)
          go_wp2
          go_ret
          exact ⟨ret_int HD.out.symm, drewN_more (drewN_more hq.out)⟩
      · have hT : ¬ (k : Int) < (ys.length : Int) := by omega
        have HD : Hid (Plain.cmpL xs ys = Plain.cmpN xs.length ys.length) := hc.out.trans (Plain.cmp_end xs ys k (by omega) (by omega))
        clear hc
        rcases Nat.lt_trichotomy xs.length ys.length with h | h | h
        · have h1 : (xs.length : Int) < (ys.length : Int) := by omega
          go_wp2
          go_ret
          exact ⟨ret_int (by rw [HD.out, Plain.cmpN, if_pos h]), hq.out⟩
        · exfalso
          omega
        · have h1 : ¬ (xs.length : Int) < (ys.length : Int) := by omega
          have h2 : (ys.length : Int) < (xs.length : Int) := by omega
          go_wp2
          go_ret
          exact ⟨ret_int (by rw [HD.out, Plain.cmpN, if_neg (by omega), if_pos h]), hq.out⟩
  · have hlt' : ¬ (ys.length : Int) < (xs.length : Int) := by omega
    go_enter Try.func6, Try.ntmps6
    go_wp2
    go_loopw [6] (fun i wr => ∃ k : Nat, k ≤ xs.length ∧ i = .int .i64 k ∧ Hid (Plain.cmpL xs ys = Plain.cmpL (xs.drop k) (ys.drop k)) ∧ Hid (∃ q, wr = w.drewN q)) (fun i _ => xs.length - (RowKit.intOf i).toNat)
    case atStart => exact ⟨0, Nat.zero_le _, rfl, rfl, 0, rfl⟩
    case round =>
      obtain ⟨k, hk, rfl, hc, hq⟩ := hrel
      by_cases hkn : k < xs.length
      · have hT : (k : Int) < (ys.length : Int) := by omega
        have hT' : (k : Int) < (xs.length : Int) := by omega
        have hd := Plain.cmp_drop xs ys k (by omega) (by omega)
        rw [← hc.out] at hd
        obtain ⟨a, ha⟩ : ∃ a : Nat, a = (xs[k]'(by omega)).toNat := ⟨_, rfl⟩
        obtain ⟨b, hb⟩ : ∃ b : Nat, b = (ys[k]'(by omega)).toNat := ⟨_, rfl⟩
        rw [← ha, ← hb] at hd
        have hcx : wr.cell? ⟨g1, k, none⟩ = some (.int .u8 (a : Int)) := by
          obtain ⟨q, rfl⟩ := hq.out; rw [ha]; exact HX.out k (by omega)
        have hcy : wr.cell? ⟨g2, k, none⟩ = some (.int .u8 (b : Int)) := by
          obtain ⟨q, rfl⟩ := hq.out; rw [hb]; exact HY.out k (by omega)
        clear ha hb
        rcases Nat.lt_trichotomy a b with h | h | h
        · have h1 : (a : Int) < (b : Int) := by omega
          have HD : Hid (Plain.cmpL xs ys = -1) := by rw [if_pos h] at hd; exact hd
          clear hd
          go_wp2
          go_quiet (fail)
          go_wp2
          go_ret
          exact ⟨ret_int HD.out.symm, drewN_more hq.out⟩
        · subst h
          have HD : Hid (Plain.cmpL xs ys = Plain.cmpL (xs.drop (k + 1)) (ys.drop (k + 1))) := by rw [if_neg (Nat.lt_irrefl _), if_neg (Nat.lt_irrefl _)] at hd; exact hd
          clear hd
          have h1 : ¬ (a : Int) < (a : Int) := by omega
          go_wp2
          go_quiet (fail)
          go_wp2
          go_quiet (fail)
          go_wp2
          go_roundw
          case rel => exact ⟨k + 1, by omega, by go_num, HD, by exact drewN_more hq.out⟩
          case measure => simp [RowKit.intOf]; omega
        · have h1 : ¬ (a : Int) < (b : Int) := by omega
          have h2 : (b : Int) < (a : Int) := by omega
          have HD : Hid (Plain.cmpL xs ys = 1) := by rw [if_neg (by omega), if_pos h] at hd; exact hd
          clear hd
          go_wp2
          go_quiet (fail)
          go_wp2
          go_quiet (fail)
          go_wp2
          go_ret
          exact ⟨ret_int HD.out.symm, drewN_more (drewN_more hq.out)⟩
      · have hT : ¬ (k : Int) < (xs.length : Int) := by omega
        have HD : Hid (Plain.cmpL xs ys = Plain.cmpN xs.length ys.length) := hc.out.trans (Plain.cmp_end xs ys k (by omega) (by omega))
        clear hc
        rcases Nat.lt_trichotomy xs.length ys.length with h | h | h
        · have h1 : (xs.length : Int) < (ys.length : Int) := by omega
          go_wp2
          go_ret
          exact ⟨ret_int (by rw [HD.out, Plain.cmpN, if_pos h]), hq.out⟩
        · have h1 : ¬ (xs.length : Int) < (ys.length : Int) := by omega
          have h2 : ¬ (ys.length : Int) < (xs.length : Int) := by omega
          have HD' : Hid (Plain.cmpL xs ys = 0) := by have := HD.out; rw [Plain.cmpN, if_neg (by omega), if_neg (by omega)] at this; exact this
          clear h HD
          go_wp2
          go_ret
          exact ⟨ret_int HD'.out.symm, hq.out⟩
        · have h1 : ¬ (xs.length : Int) < (ys.length : Int) := by omega
          have h2 : (ys.length : Int) < (xs.length : Int) := by omega
          go_wp2
          go_ret
          exact ⟨ret_int (by rw [HD.out, Plain.cmpN, if_neg (by omega), if_pos h]), hq.out⟩

/-- appendVarNumber, whatever the number. -/
theorem var7 (B n v : Nat) (hv : v < 18446744073709551616) (sv : Value) (xs : List Value) (w : World) (hown : w.ownsRow B 5 1 sv n xs) (hBw : B ≤ w.heap.size) (hlim : n + 9 ≤ 1000000) :
    Calls Try.prog 7 #[sv, .int .u64 v] w fun e w' => ∃ v', e = .returned v' ∧ w'.ownsRow B 5 1 v' (n + (Plain.vnum v).length) (xs ++ Lib.byteCells (Plain.vnum v)) ∧ Below B w w' := by
  unfold Plain.vnum
  by_cases h1 : v < 253
  · rw [if_pos h1]
    have e : Lib.byteCells [v.toUInt8] = [.int .u8 (v : Int)] := by
      simp only [Lib.byteCells, List.map_cons, List.map_nil, Plain.toNat_mod v (by omega)]
    rw [e]
    exact var7_1 B n v h1 sv xs w hown hBw hlim
  · rw [if_neg h1]
    by_cases h2 : v ≤ 65535
    · rw [if_pos h2, List.length_cons, Lib.beBytes_length]
      exact var7_2 B n v (by omega) h2 sv xs w hown hBw hlim
    · rw [if_neg h2]
      by_cases h3 : v ≤ 4294967295
      · rw [if_pos h3, List.length_cons, Lib.beBytes_length]
        exact var7_3 B n v (by omega) h3 sv xs w hown hBw hlim
      · rw [if_neg h3, List.length_cons, Lib.beBytes_length]
        exact var7_4 B n v (by omega) (by omega) sv xs w hown hBw hlim

theorem byteCells_append (a b : List UInt8) : Lib.byteCells (a ++ b) = Lib.byteCells a ++ Lib.byteCells b := by
  simp [Lib.byteCells]

/-- What lies there behind AppendHeader(nil, t, l). -/
def Header (B : Nat) (xs : List UInt8) (w : World) (v : Value) : Prop := ∃ g c, v = .slice (some ⟨g, 0, none⟩) xs.length c ∧ B ≤ g ∧ g < w.heap.size ∧ Bytes w g xs

theorem header_of {B n : Nat} {w : World} {v : Value} {xs : List UInt8} (h : w.ownsRow B 5 1 v n (Lib.byteCells xs)) (hn : 0 < n) (hl : n = xs.length) : Header B xs w v := by
  obtain ⟨g, c, rfl, hb, hg⟩ := h.form hn
  refine ⟨g, c, by rw [hl], hb, hg, ?_⟩
  intro j hj
  have := h.cells rfl j (.int .u8 (xs[j].toNat : Int)) (by simp [Lib.byteCells, hj])
  rwa [show ((⟨g, 0, none⟩ : Addr).add j) = ⟨g, j, none⟩ by simp [Addr.add]; exact fun h => h.symm] at this

set_option maxHeartbeats 400000 in
theorem head4 (t l : Nat) (ht : t < 18446744073709551616) (hl : l < 18446744073709551616) (w : World) :
    Calls Try.prog 4 #[.slice none 0 0, .int .u64 t, .int .u64 l] w fun e w' => ∃ v, e = .returned v ∧ Header w.heap.size (Plain.vnum t ++ Plain.vnum l) w' v ∧ Below w.heap.size w w' := by
  have h1 := Plain.vnum_length t
  have h2 := Plain.vnum_length l
  go_enter Try.func4, Try.ntmps4
  go_wp2_with fail
  refine (var7 w.heap.size 0 t ht _ [] _ (World.ownsRow_nil w w.heap.size 5 1) (Nat.le_refl _) (by omega)).mono ?_
  rintro e w1 ⟨v1, rfl, hown1, hb1⟩
  go_wp2_with fail
  refine (var7 w.heap.size _ l hl _ _ _ hown1 hb1.size (by omega)).mono ?_
  rintro e w2 ⟨v2, rfl, hown2, hb2⟩
  go_wp2
  go_ret
  refine ⟨v2, rfl, ?_, hb1.trans hb2⟩
  rw [List.nil_append, ← byteCells_append] at hown2
  exact header_of hown2 (by omega) (by simp)

end Go.Proofs.Qxb6616613a.Walks
