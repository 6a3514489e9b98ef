/-
  THE WALKS OF THE SEAT b6618300a, 2: AppendFault.
-/
import Derived.Test.Qxb6618300aWalks
import Derived.Test.Qxb6618300aShelf
import Derived.Lib.Strings
namespace Go.Proofs.Qxb6618300a.Walks
open Go.RowKit
open Go.Proofs.Qxb6618300a

theorem info27 : (Try.prog.info? 27).map (fun i => (i.zero, i.size, i.bytes)) = some (some (Value.agg #[.string ⟨#[]⟩, .string ⟨#[]⟩]), 2, 32) := by kernel_rfl

theorem row_cell {w : World} {B g n cap : Nat} {xs : List Value} (h : w.ownsRow B 27 2 (.slice (some ⟨g, 0, none⟩) n cap) n xs) {j : Nat} {u : Value} (hj : xs[j]? = some u) : w.cell? ⟨g, j, none⟩ = some u := by
  have := h.cells rfl j u hj
  rwa [show ((⟨g, 0, none⟩ : Addr).add j) = ⟨g, j, none⟩ by simp [Addr.add]; exact fun h => h.symm] at this

theorem grow7 (B n k g : Nat) (xs : List Value) (w : World) (hown : w.ownsRow B 27 2 (.slice (some ⟨g, 0, none⟩) n n) n xs) (hBw : B ≤ w.heap.size) (hn : n ≤ 1000000) (hk0 : 0 < k) (hk : k ≤ 1000000) :
    Calls Try.prog 7 #[.slice (some ⟨g, 0, none⟩) n n, .int .i64 k] w fun e w' => ∃ g' c', e = .returned (.slice (some ⟨g', 0, none⟩) n c') ∧ w'.ownsRow B 27 2 (.slice (some ⟨g', 0, none⟩) n c') n xs ∧ n < c' ∧ Below B w w' := by
  obtain ⟨i0, hi, hz0, hz1, hz2⟩ := info_parts info27
  have hx : xs.length = n * 2 := hown.1
  refine (Any8.slices_Grow_grow Try.growF i0 _ hi hz0 (by rw [hz1]; decide) (some ⟨g, 0, none⟩) n n k xs w (Nat.le_refl _) (by omega) (by rw [hz2]; omega) (by omega) (by rw [hz1]; exact hx) (by intro h; cases h) ?_).mono ?_
  · intro a ha j v hj
    cases ha
    exact hown.cells rfl j v hj
  rintro e w' ⟨rfl, rfl⟩
  have hG := grownCap_ge w (n + k) n (Try.growF_ren.t 25)
  have hM := grownCap_le_maxLen w (n + k) n (Try.growF_ren.t 25) (by unfold maxLen; omega)
  generalize grownCap w (n + k) n (Try.growF_ren.t 25) = G at *
  refine ⟨w.heap.size, G, rfl, ⟨hx, .inr ⟨w.heap.size, G, _, rfl, hBw, heap_alloc_new w.drew _, by omega, hM, ?_, ?_⟩⟩, by omega, ?_⟩
  · simp [Builtin.zeroCells, Value.cells, hx]
    omega
  · simp [hx]
  · exact ((Below.refl B w).drew).alloc hBw _

/-- The faults' cells, two a fault. -/
def cells (fs : List (ByteArray × ByteArray)) : List Value := fs.flatMap fun p => [.string p.1, .string p.2]

theorem cells_snoc (fs : List (ByteArray × ByteArray)) (a b : ByteArray) : cells (fs ++ [(a, b)]) = cells fs ++ [.string a, .string b] := by simp [cells]

theorem cells_at : ∀ (fs : List (ByteArray × ByteArray)) (j : Nat) (hj : j < fs.length), (cells fs)[j * 2]? = some (.string fs[j].1) ∧ (cells fs)[j * 2 + 1]? = some (.string fs[j].2)
  | p :: fs, 0, _ => by simp [cells]
  | p :: fs, j + 1, hj => by
    have ih := cells_at fs j (by simpa using hj)
    have e1 : (j + 1) * 2 = j * 2 + 2 := by omega
    have e2 : cells (p :: fs) = .string p.1 :: .string p.2 :: cells fs := rfl
    rw [e1, e2]
    exact ih

set_option maxHeartbeats 400000 in
theorem app6_zero (B cap g : Nat) (path what : ByteArray) (w : World) (hown : w.ownsRow B 27 2 (.slice (some ⟨g, 0, none⟩) 0 cap) 0 []) (hBw : B ≤ w.heap.size) (hc : 0 < cap) :
    Calls Try.prog 6 #[.slice (some ⟨g, 0, none⟩) 0 cap, .string path, .string what] w fun e w' => ∃ v', e = .returned v' ∧ w'.ownsRow B 27 2 v' 1 [.string path, .string what] ∧ Below B w w' := by
  obtain ⟨i0, hi, hz0, hz1, hz2⟩ := info_parts info27
  go_enter Try.func6, Try.ntmps6
  go_wp2_with (at_builtin; refine wpList_append_own _ rfl _ _ 25 rfl B 27 i0 (.agg #[.string ⟨#[]⟩, .string ⟨#[]⟩]) 2 32 Try.underlying25 hi hz0 hz1 hz2 rfl (by decide) _ 0 [] rfl (hown.alloc _) _ 1 1 [.string path, .string what] rfl rfl ?c1 ?c2 ?c3 ?c4 ?c5 ?_)
  case c1 =>
    intro j u hj
    match j, hj with
    | 0, hj => simp at hj; subst hj; simp [Addr.add]
    | 1, hj => simp at hj; subst hj; simp [Addr.add]
  case c2 => intro u hu; simp at hu; rcases hu with rfl | rfl <;> rfl
  case c3 => unfold maxLen; omega
  case c4 => omega
  case c5 => simp; omega
  intro v' w2 hown' hgrow _
  go_wp2
  go_ret
  refine ⟨v', rfl, hown', ?_⟩
  exact ((Below.refl B w).alloc hBw _).grown hgrow (by simp; omega) (fun k hk => (hown.lt k hk).1)

set_option maxHeartbeats 400000 in
theorem app6_zero_full (B g : Nat) (path what : ByteArray) (w : World) (hown : w.ownsRow B 27 2 (.slice (some ⟨g, 0, none⟩) 0 0) 0 []) (hBw : B ≤ w.heap.size) :
    Calls Try.prog 6 #[.slice (some ⟨g, 0, none⟩) 0 0, .string path, .string what] w fun e w' => ∃ v', e = .returned v' ∧ w'.ownsRow B 27 2 v' 1 [.string path, .string what] ∧ Below B w w' := by
  obtain ⟨i0, hi, hz0, hz1, hz2⟩ := info_parts info27
  go_enter Try.func6, Try.ntmps6
  go_wp2_with fail
  refine (grow7 B 0 16 g [] w hown hBw (by omega) (by omega) (by omega)).mono ?_
  rintro e w1 ⟨g1, c1, rfl, hown1, hc1, hb1⟩
  have hB1 : B ≤ w1.heap.size := Nat.le_trans hBw hb1.size
  go_wp2_with (at_builtin; refine wpList_append_own _ rfl _ _ 25 rfl B 27 i0 (.agg #[.string ⟨#[]⟩, .string ⟨#[]⟩]) 2 32 Try.underlying25 hi hz0 hz1 hz2 rfl (by decide) _ 0 [] rfl (hown1.alloc _) _ 1 1 [.string path, .string what] rfl rfl ?c1 ?c2 ?c3 ?c4 ?c5 ?_)
  case c1 =>
    intro j u hj
    match j, hj with
    | 0, hj => simp at hj; subst hj; simp [Addr.add]
    | 1, hj => simp at hj; subst hj; simp [Addr.add]
  case c2 => intro u hu; simp at hu; rcases hu with rfl | rfl <;> rfl
  case c3 => unfold maxLen; omega
  case c4 => omega
  case c5 => simp; omega
  intro v' w2 hown' hgrow _
  go_wp2
  go_ret
  refine ⟨v', rfl, hown', ?_⟩
  exact hb1.trans (((Below.refl B w1).alloc hB1 _).grown hgrow (by simp; omega) (fun k hk => (hown1.lt k hk).1))

set_option maxHeartbeats 400000 in
theorem app6_room (B n cap g : Nat) (xs : List Value) (path what last : ByteArray) (w : World) (hown : w.ownsRow B 27 2 (.slice (some ⟨g, 0, none⟩) (n + 1) cap) (n + 1) xs) (hlast : w.cell? ⟨g, n * 2 + 1, none⟩ = some (.string last)) (hBw : B ≤ w.heap.size) (hn : n ≤ 300000) (hr : n + 1 ≠ cap) :
    Calls Try.prog 6 #[.slice (some ⟨g, 0, none⟩) (n + 1) cap, .string path, .string what] w fun e w' => ∃ v', e = .returned v' ∧ w'.ownsRow B 27 2 v' (n + 2) (xs ++ [.string path, .string what]) ∧ Below B w w' := by
  obtain ⟨i0, hi, hz0, hz1, hz2⟩ := info_parts info27
  have h0 : (0 : Int) < (n : Int) + 1 := by omega
  have hne : (((n : Int) + 1) == (cap : Int)) = false := by simpa using (by omega : ¬ ((n : Int) + 1 = (cap : Int)))
  clear hr
  by_cases hw : last = what
  · subst hw
    go_enter Try.func6, Try.ntmps6
    go_wp2_with (at_builtin; refine wpList_append_own _ rfl _ _ 25 rfl B 27 i0 (.agg #[.string ⟨#[]⟩, .string ⟨#[]⟩]) 2 32 Try.underlying25 hi hz0 hz1 hz2 rfl (by decide) _ (n + 1) xs rfl (hown.alloc _) _ 1 1 [.string path, .string last] rfl rfl ?c1 ?c2 ?c3 ?c4 ?c5 ?_)
    case c1 =>
      intro j u hj
      match j, hj with
      | 0, hj => simp at hj; subst hj; simp [Addr.add]
      | 1, hj => simp at hj; subst hj; simp [Addr.add]
    case c2 => intro u hu; simp at hu; rcases hu with rfl | rfl <;> rfl
    case c3 => unfold maxLen; omega
    case c4 => omega
    case c5 => simp; omega
    intro v' w2 hown' hgrow _
    go_wp2
    go_ret
    refine ⟨v', rfl, hown', ?_⟩
    exact ((Below.refl B w).alloc hBw _).grown hgrow (by simp; omega) (fun k hk => (hown.lt k hk).1)
  · have hq : (last.toList == what.toList) = false := by
      rw [beq_eq_false_iff_ne, Lib.toList_data, Lib.toList_data]
      intro h
      exact hw (by cases last; cases what; simp at h; rw [h])
    go_enter Try.func6, Try.ntmps6
    go_wp2_with (at_builtin; refine wpList_append_own _ rfl _ _ 25 rfl B 27 i0 (.agg #[.string ⟨#[]⟩, .string ⟨#[]⟩]) 2 32 Try.underlying25 hi hz0 hz1 hz2 rfl (by decide) _ (n + 1) xs rfl (hown.alloc _) _ 1 1 [.string path, .string what] rfl rfl ?c1 ?c2 ?c3 ?c4 ?c5 ?_)
    case c1 =>
      intro j u hj
      match j, hj with
      | 0, hj => simp at hj; subst hj; simp [Addr.add]
      | 1, hj => simp at hj; subst hj; simp [Addr.add]
    case c2 => intro u hu; simp at hu; rcases hu with rfl | rfl <;> rfl
    case c3 => unfold maxLen; omega
    case c4 => omega
    case c5 => simp; omega
    intro v' w2 hown' hgrow _
    go_wp2
    go_ret
    refine ⟨v', rfl, hown', ?_⟩
    exact ((Below.refl B w).alloc hBw _).grown hgrow (by simp; omega) (fun k hk => (hown.lt k hk).1)

set_option maxHeartbeats 400000 in
theorem app6_full (B n g : Nat) (xs : List Value) (path what last : ByteArray) (w : World) (hown : w.ownsRow B 27 2 (.slice (some ⟨g, 0, none⟩) (n + 1) (n + 1)) (n + 1) xs) (hlast : w.cell? ⟨g, n * 2 + 1, none⟩ = some (.string last)) (hBw : B ≤ w.heap.size) (hn : n ≤ 300000) :
    Calls Try.prog 6 #[.slice (some ⟨g, 0, none⟩) (n + 1) (n + 1), .string path, .string what] w fun e w' => ∃ v', e = .returned v' ∧ w'.ownsRow B 27 2 v' (n + 2) (xs ++ [.string path, .string what]) ∧ Below B w w' := by
  obtain ⟨i0, hi, hz0, hz1, hz2⟩ := info_parts info27
  have h0 : (0 : Int) < (n : Int) + 1 := by omega
  obtain ⟨k, hk, hk1, hk2⟩ : ∃ k : Nat, max ((n : Int) + 1) 16 = (k : Int) ∧ 16 ≤ k ∧ k ≤ 400000 := ⟨max (n + 1) 16, by omega, by omega, by omega⟩
  have HK : Hid (max ((n : Int) + 1) 16 = (k : Int)) := hk
  clear hk
  by_cases hw : last = what
  · subst hw
    go_enter Try.func6, Try.ntmps6
    go_wp2_with fail
    rw [HK.out]
    refine (grow7 B (n + 1) k g xs w hown hBw (by omega) (by omega) (by omega)).mono ?_
    rintro e w1 ⟨g1, c1, rfl, hown1, hc1, hb1⟩
    have hB1 : B ≤ w1.heap.size := Nat.le_trans hBw hb1.size
    go_wp2_with (at_builtin; refine wpList_append_own _ rfl _ _ 25 rfl B 27 i0 (.agg #[.string ⟨#[]⟩, .string ⟨#[]⟩]) 2 32 Try.underlying25 hi hz0 hz1 hz2 rfl (by decide) _ (n + 1) xs rfl (hown1.alloc _) _ 1 1 [.string path, .string last] rfl rfl ?c1 ?c2 ?c3 ?c4 ?c5 ?_)
    case c1 =>
      intro j u hj
      match j, hj with
      | 0, hj => simp at hj; subst hj; simp [Addr.add]
      | 1, hj => simp at hj; subst hj; simp [Addr.add]
    case c2 => intro u hu; simp at hu; rcases hu with rfl | rfl <;> rfl
    case c3 => unfold maxLen; omega
    case c4 => omega
    case c5 => simp; omega
    intro v' w2 hown' hgrow _
    go_wp2
    go_ret
    refine ⟨v', rfl, hown', ?_⟩
    exact hb1.trans (((Below.refl B w1).alloc hB1 _).grown hgrow (by simp; omega) (fun k hk => (hown1.lt k hk).1))
  · have hq : (last.toList == what.toList) = false := by
      rw [beq_eq_false_iff_ne, Lib.toList_data, Lib.toList_data]
      intro h
      exact hw (by cases last; cases what; simp at h; rw [h])
    go_enter Try.func6, Try.ntmps6
    go_wp2_with fail
    rw [HK.out]
    refine (grow7 B (n + 1) k g xs w hown hBw (by omega) (by omega) (by omega)).mono ?_
    rintro e w1 ⟨g1, c1, rfl, hown1, hc1, hb1⟩
    have hB1 : B ≤ w1.heap.size := Nat.le_trans hBw hb1.size
    go_wp2_with (at_builtin; refine wpList_append_own _ rfl _ _ 25 rfl B 27 i0 (.agg #[.string ⟨#[]⟩, .string ⟨#[]⟩]) 2 32 Try.underlying25 hi hz0 hz1 hz2 rfl (by decide) _ (n + 1) xs rfl (hown1.alloc _) _ 1 1 [.string path, .string what] rfl rfl ?c1 ?c2 ?c3 ?c4 ?c5 ?_)
    case c1 =>
      intro j u hj
      match j, hj with
      | 0, hj => simp at hj; subst hj; simp [Addr.add]
      | 1, hj => simp at hj; subst hj; simp [Addr.add]
    case c2 => intro u hu; simp at hu; rcases hu with rfl | rfl <;> rfl
    case c3 => unfold maxLen; omega
    case c4 => omega
    case c5 => simp; omega
    intro v' w2 hown' hgrow _
    go_wp2
    go_ret
    refine ⟨v', rfl, hown', ?_⟩
    exact hb1.trans (((Below.refl B w1).alloc hB1 _).grown hgrow (by simp; omega) (fun k hk => (hown1.lt k hk).1))

/-- AppendFault onto a slice of the call's own. -/
theorem app6 (B cap g : Nat) (fs : List (ByteArray × ByteArray)) (path what : ByteArray) (w : World) (hown : w.ownsRow B 27 2 (.slice (some ⟨g, 0, none⟩) fs.length cap) fs.length (cells fs)) (hBw : B ≤ w.heap.size) (hn : fs.length ≤ 300000) :
    Calls Try.prog 6 #[.slice (some ⟨g, 0, none⟩) fs.length cap, .string path, .string what] w fun e w' =>
      ∃ g' c', e = .returned (.slice (some ⟨g', 0, none⟩) (fs.length + 1) c') ∧ w'.ownsRow B 27 2 (.slice (some ⟨g', 0, none⟩) (fs.length + 1) c') (fs.length + 1) (cells (fs ++ [(path, what)])) ∧ Below B w w' := by
  have fin : ∀ (v' : Value) (w' : World), w'.ownsRow B 27 2 v' (fs.length + 1) (cells fs ++ [.string path, .string what]) → Below B w w' → ∃ g' c', Ending.returned v' = .returned (.slice (some ⟨g', 0, none⟩) (fs.length + 1) c') ∧ w'.ownsRow B 27 2 (.slice (some ⟨g', 0, none⟩) (fs.length + 1) c') (fs.length + 1) (cells (fs ++ [(path, what)])) ∧ Below B w w' := by
    intro v' w' h hb
    rw [cells_snoc]
    rcases h.2 with ⟨_, h0⟩ | ⟨g', c', cur, rfl, _⟩
    · omega
    · exact ⟨g', c', rfl, h, hb⟩
  have hcap : fs.length ≤ cap := by
    rcases hown.2 with ⟨h, _⟩ | ⟨g', c', cur, hv, _, _, hc, _⟩
    · cases h
    · have : cap = c' := by simpa using congrArg (fun v => match v with | .slice _ _ c => c | _ => 0) hv
      omega
  rcases Nat.eq_zero_or_pos fs.length with h0 | h0
  · obtain rfl : fs = [] := List.eq_nil_of_length_eq_zero h0
    rcases Nat.eq_zero_or_pos cap with hc | hc
    · subst hc
      refine (app6_zero_full B g path what w hown hBw).mono ?_
      rintro e w' ⟨v', rfl, ho, hb⟩
      exact fin v' w' ho hb
    · refine (app6_zero B cap g path what w hown hBw hc).mono ?_
      rintro e w' ⟨v', rfl, ho, hb⟩
      exact fin v' w' ho hb
  · obtain ⟨n, hn'⟩ : ∃ n, fs.length = n + 1 := ⟨fs.length - 1, by omega⟩
    have hl := row_cell hown (cells_at fs n (by omega)).2
    generalize (fs[n]'(by omega)).2 = last at hl
    rw [hn'] at hown fin hn ⊢
    by_cases hc : n + 1 = cap
    · subst hc
      refine (app6_full B n g (cells fs) path what last w hown hl hBw (by omega)).mono ?_
      rintro e w' ⟨v', rfl, ho, hb⟩
      exact fin v' w' ho hb
    · refine (app6_room B n cap g (cells fs) path what last w hown hl hBw (by omega) hc).mono ?_
      rintro e w' ⟨v', rfl, ho, hb⟩
      exact fin v' w' ho hb

/-- The same, the length named. -/
theorem app6n (B n cap g : Nat) (fs : List (ByteArray × ByteArray)) (path what : ByteArray) (w : World) (hl : fs.length = n) (hown : w.ownsRow B 27 2 (.slice (some ⟨g, 0, none⟩) n cap) n (cells fs)) (hBw : B ≤ w.heap.size) (hn : n ≤ 300000) :
    Calls Try.prog 6 #[.slice (some ⟨g, 0, none⟩) n cap, .string path, .string what] w fun e w' =>
      ∃ g' c', e = .returned (.slice (some ⟨g', 0, none⟩) (n + 1) c') ∧ w'.ownsRow B 27 2 (.slice (some ⟨g', 0, none⟩) (n + 1) c') (n + 1) (cells (fs ++ [(path, what)])) ∧ Below B w w' := by
  subst hl
  exact app6 B cap g fs path what w hown hBw hn

end Go.Proofs.Qxb6618300a.Walks
