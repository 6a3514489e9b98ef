/-
  THE WALK OF FnMaxKeyKeepsOrderAndStrips.
-/
import Derived.Test.Qxb6617660aWalks2
import Derived.Deep.OwnRows
import Derived.Laws.CopyOwn
import Derived.Deep.DeepCutAuto
import Derived.Laws.Cover3
namespace Go.Proofs.Qxb6617660a.Walks
open Go.RowKit
open Go.Proofs.Qxb6617660a

/-- WHAT THE WALK IS TOLD OF A SLICE OF INTEGERS THAT CAME IN (as the shell has it). -/
def IsRow (k : IntKind) (w : World) (a : Option Addr) (len cap : Nat) (zs : List Int) : Prop :=
  (a = none ∧ len = 0 ∧ cap = 0 ∧ zs = []) ∨
  ∃ x, a = some x ∧ len ≤ cap ∧ cap ≤ maxLen ∧ zs.length = cap ∧ (∀ i, i < zs.length → w.cell? (x.add i) = some (.int k (zs.getD i 0))) ∧ ∀ n ∈ zs, (Lit.int k n).wf = true

theorem size5 : (Try.prog.info? 5).map (·.size) = some 1 := by kernel_rfl

/-- The copy's block, cell by cell. -/
theorem key_of {w : World} {g n : Nat} {M : List Value} {xs : List Int} (hM : M.length = n) (hx : xs.length = n) (hg : w.heap[g]? = some (.cells (splice M 0 (xs.map (Value.int .u8))).toArray 5 (0, 0))) : Key w (some ⟨g, 0, none⟩) n xs := by
  have e : splice M 0 (xs.map (Value.int .u8)) = xs.map (Value.int .u8) := by
    simp [splice, hM, hx]
  rw [e] at hg
  refine .inr ⟨g, rfl, ?_, ?_⟩
  · rcases Nat.lt_or_ge g w.heap.size with hlt | hge
    · exact hlt
    · rw [Array.getElem?_eq_none hge] at hg; cases hg
  · intro j hj
    rw [cell_of_row w g j _ 5 (0, 0) hg]
    simp [hj]

/-- 'copy(zzc, a)' into the block that was made just ahead. -/
theorem copy_eq (w : World) (x : Addr) (n cap : Nat) (M : List Value) (xs : List Int) (hM : M.length = n) (hx : xs.length = n)
    (hsrc : ∀ (j : Nat) (hj : j < xs.length), w.cell? (x.add j) = some (.int .u8 xs[j])) :
    ∃ w2, (Builtin.copy_ #[22, 22] 3 #[.slice (some ⟨w.heap.size, 0, none⟩) n n, .slice (some x) n cap]).run Try.prog (w.alloc (.cells M.toArray 5)) = .ok (.int .i64 (n : Int)) w2 ∧ Key w2 (some ⟨w.heap.size, 0, none⟩) n xs ∧ Below w.heap.size w w2 := by
  have hl : (xs.map (Value.int .u8)).length = n := by simp [hx]
  have hr := run_copy_row (P := Try.prog) (w.alloc (.cells M.toArray 5)) 22 22 3 5 w.heap.size 0 n n x n cap M.toArray 5 (xs.map (Value.int .u8)) Try.underlying22 size5 (heap_alloc_new w _)
    (by rw [hl]; exact (Nat.min_self n).symm)
    (by
      intro j v hj
      rw [List.getElem?_map] at hj
      have hjl : j < xs.length := by
        rcases Nat.lt_or_ge j xs.length with h | h
        · exact h
        · rw [List.getElem?_eq_none h] at hj; cases hj
      rw [List.getElem?_eq_getElem hjl] at hj
      simp at hj
      subst hj
      exact Lib.cell?_alloc_marked _ (hsrc j hjl))
    (by simp [hl, hM])
    (by
      intro u hu
      obtain ⟨z, _, rfl⟩ := List.mem_map.1 hu
      rfl)
  rw [hl] at hr
  refine ⟨_, hr, key_of hM hx ?_, below_setRow ((Below.refl _ w).alloc (Nat.le_refl _) _) (Nat.le_refl _) _⟩
  have := setRow_heap (w.alloc (.cells M.toArray 5)) w.heap.size M.toArray (splice M 0 (xs.map (Value.int .u8))).toArray 5 (0, 0) (heap_alloc_new w _)
  simpa [splice, hl] using this

theorem MaxKey.opened {B : Nat} {xs : List Int} {w : World} {v : Value} (h : MaxKey B xs w v) {X : List Int} (hX : X = Plain.pfx ++ xs) :
    ∃ g cap, v = .slice (some ⟨g, 0, none⟩) X.length cap ∧ X.length ≤ cap ∧ cap ≤ maxLen ∧ g < w.heap.size ∧ Key w (some ⟨g, 0, none⟩) cap X := by
  obtain ⟨g, cap, hv, h1, h2, _, h4, h5⟩ := h
  have e : 5 + xs.length = X.length := by rw [hX]; simp [Plain.pfx]; omega
  rw [e] at hv h1
  subst hX
  exact ⟨g, cap, hv, h1, h2, h4, .inr ⟨g, rfl, h4, h5⟩⟩

theorem Key.cell {w : World} {g c : Nat} {X : List Int} (h : Key w (some ⟨g, 0, none⟩) c X) {j : Nat} {z : Int} (hj : X[j]? = some z) : w.cell? ⟨g, j, none⟩ = some (.int .u8 z) := by
  rcases h with ⟨h, _⟩ | ⟨g', hp, _, hc⟩
  · cases h
  · have hl : j < X.length := by
      rcases Nat.lt_or_ge j X.length with h | h
      · exact h
      · rw [List.getElem?_eq_none h] at hj; cases hj
    have e : g = g' := by simpa using hp
    subst e
    rw [List.getElem?_eq_getElem hl] at hj
    rw [hc j hl, Option.some.inj hj]

theorem row_rest {w : World} {g c : Nat} {X xs : List Int} (h : Key w (some ⟨g, 0, none⟩) c X) (hX : X = Plain.pfx ++ xs) : Row w (some ⟨g, 5, none⟩) xs := by
  refine .inr ⟨g, 5, rfl, fun j hj => h.cell ?_⟩
  rw [hX, List.getElem?_append_right (by simp [Plain.pfx])]
  simp [Plain.pfx, hj]

theorem below_drewN {B q : Nat} {w w' : World} (h : Below B w w') : Below B w (w'.drewN q) := ⟨h.os, h.tape, h.output, h.size, h.block⟩

theorem Row.drewN {w : World} {p : Option Addr} {zs : List Int} (h : Row w p zs) (n : Nat) : Row (w.drewN n) p zs := h

set_option maxHeartbeats 1000000 in
theorem walk (a0 : Option Addr) (len0 cap0 : Nat) (z0 : List Int) (a1 : Option Addr) (len1 cap1 : Nat) (z1 : List Int) (w : World) (w0 : IsRow .u8 w a0 len0 cap0 z0) (w1 : IsRow .u8 w a1 len1 cap1 z1) :
    Calls Try.prog 3 #[.slice a0 len0 cap0, .slice a1 len1 cap1] w fun e w' => e = .returned (.bool true) ∧ Below w.heap.size w w' := by
  by_cases hbig : 1048576 < len0 + len1
  · go_enter Try.func3, Try.ntmps3
    go_wp2_with fail
    refine (large4 a0 a1 len0 cap0 len1 cap1 _ hbig).mono ?_
    rintro e w' ⟨rfl, rfl⟩
    go_wp2
    go_ret
    exact ⟨rfl, Below.refl _ _⟩
  have hs : len0 + len1 ≤ 1048576 := by omega
  clear hbig
  by_cases h1 : 524288 < len0
  · have h1' : 524288 < (len0 : Int) := by omega
    go_enter Try.func3, Try.ntmps3
    go_wp2_with fail
    refine (small4 a0 a1 len0 cap0 len1 cap1 _ hs).mono ?_
    rintro e w' ⟨rfl, rfl⟩
    go_wp2
    go_ret
    exact ⟨rfl, Below.refl _ _⟩
  have h1' : ¬ 524288 < (len0 : Int) := by omega
  by_cases h2 : 524288 < len1
  · have h2' : 524288 < (len1 : Int) := by omega
    go_enter Try.func3, Try.ntmps3
    go_wp2_with fail
    refine (small4 a0 a1 len0 cap0 len1 cap1 _ hs).mono ?_
    rintro e w' ⟨rfl, rfl⟩
    go_wp2
    go_ret
    exact ⟨rfl, Below.refl _ _⟩
  have h2' : ¬ 524288 < (len1 : Int) := by omega
  clear h1 h2
  have W0 : Hid (IsRow .u8 w a0 len0 cap0 z0) := w0
  have W1 : Hid (IsRow .u8 w a1 len1 cap1 z1) := w1
  clear w0 w1
  obtain ⟨xs, ex⟩ : ∃ xs, xs = z0.take len0 := ⟨_, rfl⟩
  obtain ⟨ys, ey⟩ : ∃ ys, ys = z1.take len1 := ⟨_, rfl⟩
  have lx : xs.length = len0 := by
    rw [ex, List.length_take]
    rcases W0.out with ⟨_, rfl, _, rfl⟩ | ⟨_, _, h, _, h', _⟩
    · rfl
    · omega
  have ly : ys.length = len1 := by
    rw [ey, List.length_take]
    rcases W1.out with ⟨_, rfl, _, rfl⟩ | ⟨_, _, h, _, h', _⟩
    · rfl
    · omega
  subst lx ly
  obtain ⟨EX, EY⟩ : Hid (xs = z0.take xs.length) ∧ Hid (ys = z1.take ys.length) := ⟨ex, ey⟩
  clear ex ey
  go_enter Try.func3, Try.ntmps3
  go_wp2_with fail
  refine (small4 a0 a1 xs.length cap0 ys.length cap1 _ hs).mono ?_
  rintro e w' ⟨rfl, rfl⟩
  go_upto_if 24 with fail
  go_cut [0] (fun v wc => ∃ p c, v = .slice p xs.length c ∧ Hid (Key wc p c xs) ∧ Hid (Below w'.heap.size w' wc))
  case first =>
    rcases W0.out with ⟨rfl, h0, rfl, rfl⟩ | ⟨x, rfl, hlc, hcm, hzl, hcell, hwf⟩
    · have H0 : Hid (xs.length = 0) := h0
      clear h0
      go_wp2
      go_meet
      case rel => exact ⟨none, 0, rfl, .inl ⟨rfl, rfl, List.eq_nil_of_length_eq_zero H0.out⟩, Below.refl _ _⟩
    · obtain ⟨M, hM⟩ : ∃ M : List Value, M = (madeCells #[.int .u8 0] xs.length).toList := ⟨_, rfl⟩
      have hMl : M.length = xs.length := by rw [hM, Array.length_toList, size_madeCells]
      have hmk : ∀ w : World, (Instr.makeSlice 22 (.int .i64 (xs.length : Int)) (.int .i64 (xs.length : Int))).run Try.prog w = .ok (.slice (some ⟨w.heap.size, 0, none⟩) xs.length xs.length) (w.alloc (.cells M.toArray 5)) := fun w => by
        have := run_make_row' (P := Try.prog) 22 5 (.int .u8 0) 1 Try.underlying22 info5 rfl .i64 .i64 xs.length (by omega) (by omega) w
        rw [hM]
        simpa using this
      obtain ⟨w2, hcp, hkey, hbel⟩ := copy_eq w' x xs.length cap0 M xs hMl rfl (by
        intro j hj
        rw [hcell j (by omega)]
        have e : xs[j]? = z0[j]? := by rw [EX.out, List.getElem?_take, if_pos hj]
        rw [List.getElem?_eq_getElem hj, List.getElem?_eq_getElem (by omega)] at e
        rw [List.getD_eq_getElem?_getD, List.getElem?_eq_getElem (by omega), Option.some.inj e]
        rfl)
      have HK2 : Hid (Key w2 (some ⟨w'.heap.size, 0, none⟩) xs.length xs) := hkey
      have HB2 : Hid (Below w'.heap.size w' w2) := hbel
      clear hM hcell hwf hMl hkey hbel
      go_wp2
      go_meet
      case rel => exact ⟨_, xs.length, rfl, HK2, HB2⟩
  case rest =>
    obtain ⟨p, c, rfl, HKx, HB⟩ := hcut
    go_upto_if 33 with fail
    go_cut [1] (fun v wd => ∃ q d, v = .slice q ys.length d ∧ Hid (Key wd q d ys) ∧ Hid (Key wd p c xs) ∧ Hid (Below w'.heap.size w' wd))
    case first =>
      rcases W1.out with ⟨rfl, h0, rfl, rfl⟩ | ⟨x, rfl, hlc, hcm, hzl, hcell, hwf⟩
      · have H0 : Hid (ys.length = 0) := h0
        clear h0
        go_wp2
        go_meet
        case rel => exact ⟨none, 0, rfl, .inl ⟨rfl, rfl, List.eq_nil_of_length_eq_zero H0.out⟩, HKx, HB⟩
      · obtain ⟨M, hM⟩ : ∃ M : List Value, M = (madeCells #[.int .u8 0] ys.length).toList := ⟨_, rfl⟩
        have hMl : M.length = ys.length := by rw [hM, Array.length_toList, size_madeCells]
        have hmk : ∀ w : World, (Instr.makeSlice 22 (.int .i64 (ys.length : Int)) (.int .i64 (ys.length : Int))).run Try.prog w = .ok (.slice (some ⟨w.heap.size, 0, none⟩) ys.length ys.length) (w.alloc (.cells M.toArray 5)) := fun w => by
          have := run_make_row' (P := Try.prog) 22 5 (.int .u8 0) 1 Try.underlying22 info5 rfl .i64 .i64 ys.length (by omega) (by omega) w
          rw [hM]
          simpa using this
        obtain ⟨w2, hcp, hkey, hbel⟩ := copy_eq wc x ys.length cap1 M ys hMl rfl (by
          intro j hj
          rw [HB.out.cell (World.block_lt_of_cell? _ _ (hcell j (by omega))), hcell j (by omega)]
          have e : ys[j]? = z1[j]? := by rw [EY.out, List.getElem?_take, if_pos hj]
          rw [List.getElem?_eq_getElem hj, List.getElem?_eq_getElem (by omega)] at e
          rw [List.getD_eq_getElem?_getD, List.getElem?_eq_getElem (by omega), Option.some.inj e]
          rfl)
        have HK2 : Hid (Key w2 (some ⟨wc.heap.size, 0, none⟩) ys.length ys) := hkey
        have HB2 : Hid (Below wc.heap.size wc w2) := hbel
        clear hM hcell hwf hMl hkey hbel
        go_wp2
        go_meet
        case rel => exact ⟨_, ys.length, rfl, HK2, Key.kept HKx.out HB2.out, HB.out.trans (HB2.out.mono HB.out.size)⟩
    case rest =>
      obtain ⟨q, d, rfl, HKy, HKx', HB'⟩ := hcut
      clear HKx HB
      obtain ⟨X, eX⟩ : ∃ X, X = Plain.pfx ++ xs := ⟨_, rfl⟩
      obtain ⟨Y, eY⟩ : ∃ Y, Y = Plain.pfx ++ ys := ⟨_, rfl⟩
      have X5 : X.length = xs.length + 5 := by rw [eX]; simp [Plain.pfx]
      have Y5 : Y.length = ys.length + 5 := by rw [eY]; simp [Plain.pfx]
      have HC : Hid (Plain.cmpL X Y = Plain.cmpL xs ys) := by rw [eX, eY]; exact Plain.cmp_prefix _ _ _
      have hXs : X.length ≤ 1000000 := by omega
      have hYs : Y.length ≤ 1000000 := by omega
      have hX5 : (5 : Int) ≤ (X.length : Int) := by omega
      obtain ⟨EX5, EXX, EYY⟩ : Hid (X.length = xs.length + 5) ∧ Hid (X = Plain.pfx ++ xs) ∧ Hid (Y = Plain.pfx ++ ys) := ⟨X5, eX, eY⟩
      clear X5 Y5 eX eY
      go_wp2_with fail
      refine (key5 p c xs _ HKx'.out (by omega)).mono ?_
      rintro e w3 ⟨v1, rfl, hm1, hb3⟩
      obtain ⟨g1, k1, rfl, hk1, hk1m, hg1, hX1⟩ := hm1.opened EXX.out
      have HX1 : Hid (Key w3 (some ⟨g1, 0, none⟩) k1 X) := hX1
      have HKy3 : Hid (Key w3 q d ys) := HKy.out.kept hb3
      have HKx3 : Hid (Key w3 p c xs) := HKx'.out.kept hb3
      have HB3 : Hid (Below w'.heap.size w' w3) := HB'.out.trans (hb3.mono HB'.out.size)
      clear hm1 hX1 hb3 HKy HKx' HB'
      go_wp2_with fail
      refine (key5 q d ys _ HKy3.out (by omega)).mono ?_
      rintro e w4 ⟨v2, rfl, hm2, hb4⟩
      obtain ⟨g2, k2, rfl, hk2, hk2m, hg2, hY1⟩ := hm2.opened EYY.out
      have HY1 : Hid (Key w4 (some ⟨g2, 0, none⟩) k2 Y) := hY1
      have HX4 : Hid (Key w4 (some ⟨g1, 0, none⟩) k1 X) := HX1.out.kept hb4
      have HKy4 : Hid (Key w4 q d ys) := HKy3.out.kept hb4
      have HKx4 : Hid (Key w4 p c xs) := HKx3.out.kept hb4
      have HB4 : Hid (Below w'.heap.size w' w4) := HB3.out.trans (hb4.mono HB3.out.size)
      clear hm2 hY1 hb4 HX1 HKy3 HKx3 HB3
      go_wp2_with fail
      refine (cmp6 (some ⟨g1, 0, none⟩) (some ⟨g2, 0, none⟩) k1 k2 X Y _ HX4.out.row HY1.out.row (by omega) (by omega)).mono ?_
      rintro e w5 ⟨rfl, q5, rfl⟩
      go_wp2_with fail
      refine (cmp6 p q c d xs ys _ (HKx4.out.row.drewN _) (HKy4.out.row.drewN _) (by omega) (by omega)).mono ?_
      rintro e w6 ⟨rfl, q6, rfl⟩
      rw [HC.out]
      have c0 : w4.cell? ⟨g1, 0, none⟩ = some (.int .u8 0) := HX4.out.cell (by rw [EXX.out]; rfl)
      have c1 : w4.cell? ⟨g1, 1, none⟩ = some (.int .u8 109) := HX4.out.cell (by rw [EXX.out]; rfl)
      have c2 : w4.cell? ⟨g1, 2, none⟩ = some (.int .u8 97) := HX4.out.cell (by rw [EXX.out]; rfl)
      have c3 : w4.cell? ⟨g1, 3, none⟩ = some (.int .u8 120) := HX4.out.cell (by rw [EXX.out]; rfl)
      have c4 : w4.cell? ⟨g1, 4, none⟩ = some (.int .u8 0) := HX4.out.cell (by rw [EXX.out]; rfl)
      have hk5i : (5 : Int) ≤ (k1 : Int) := by omega
      have hk1i : (X.length : Int) ≤ (k1 : Int) := by omega
      unfold maxLen at hk1m
      go_wp2
      go_loopw [10] (fun i wr => ∃ k : Nat, k ≤ 5 ∧ i = .int .i64 k ∧ Hid (∃ q, wr = w4.drewN q)) (fun i _ => 5 - (RowKit.intOf i).toNat)
      case atStart => exact ⟨0, Nat.zero_le _, rfl, by exact ⟨_, rfl⟩⟩
      case round =>
        obtain ⟨k, hk, rfl, hq⟩ := hrel
        by_cases hk5 : k < 5
        · obtain ⟨q9, rfl⟩ := hq.out
          have hTk : (k : Int) < 5 := by omega
          have hTX : (k : Int) < (X.length : Int) := by omega
          have hk5' : k = 0 ∨ k = 1 ∨ k = 2 ∨ k = 3 ∨ k = 4 := by omega
          clear hq
          rcases hk5' with rfl | rfl | rfl | rfl | rfl
          · go_wp2
            go_quiet (fail)
            go_wp2
            go_roundw
            case rel => exact ⟨1, by omega, by go_num, ⟨q9 + nq, rfl⟩⟩
            case measure => simp [RowKit.intOf]
          · go_wp2
            go_quiet (fail)
            go_wp2
            go_roundw
            case rel => exact ⟨2, by omega, by go_num, ⟨q9 + nq, rfl⟩⟩
            case measure => simp [RowKit.intOf]
          · go_wp2
            go_quiet (fail)
            go_wp2
            go_roundw
            case rel => exact ⟨3, by omega, by go_num, ⟨q9 + nq, rfl⟩⟩
            case measure => simp [RowKit.intOf]
          · go_wp2
            go_quiet (fail)
            go_wp2
            go_roundw
            case rel => exact ⟨4, by omega, by go_num, ⟨q9 + nq, rfl⟩⟩
            case measure => simp [RowKit.intOf]
          · go_wp2
            go_quiet (fail)
            go_wp2
            go_roundw
            case rel => exact ⟨5, by omega, by go_num, ⟨q9 + nq, rfl⟩⟩
            case measure => simp [RowKit.intOf]
        · have hk' : k = 5 := by omega
          subst hk'
          clear hk hk5
          have HL : Hid (X.length - 5 = xs.length) := by show _ = _; have := EX5.out; omega
          go_wp2_with fail
          · rw [HL.out]
            refine (eq7 _ p 0 c xs _ (.inl ?_) ?_ (by omega)).mono ?_
            · exact List.eq_nil_of_length_eq_zero (by have := EX5.out; omega)
            · obtain ⟨q9, rfl⟩ := hq.out; exact HKx4.out.row.drewN _
            rintro e w8 ⟨rfl, q8, rfl⟩
            obtain ⟨q9, rfl⟩ := hq.out
            go_wp2
            go_ret
            exact ⟨rfl, below_drewN HB4.out⟩
          · rw [HL.out]
            refine (eq7 _ p (k1 - 5) c xs _ ?_ ?_ (by omega)).mono ?_
            · obtain ⟨q9, rfl⟩ := hq.out; exact (row_rest HX4.out EXX.out).drewN _
            · obtain ⟨q9, rfl⟩ := hq.out; exact HKx4.out.row.drewN _
            rintro e w8 ⟨rfl, q8, rfl⟩
            obtain ⟨q9, rfl⟩ := hq.out
            go_wp2
            go_ret
            exact ⟨rfl, below_drewN HB4.out⟩

end Go.Proofs.Qxb6617660a.Walks
