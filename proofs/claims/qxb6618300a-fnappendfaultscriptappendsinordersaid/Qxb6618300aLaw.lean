/-
  THE WALK OF FnAppendFaultScriptAppendsInOrder.
-/
import Derived.Test.Qxb6618300aFill
import Derived.Laws.MakeOwn
import Derived.Deep.RegionWith
namespace Go.Proofs.Qxb6618300a.Walks
open Go.RowKit
open Go.Proofs.Qxb6618300a

set_option maxRecDepth 100000 in
set_option maxHeartbeats 1000000 in
theorem walk3 (p1 p2 p3 p4 : Option Addr) (c1 c2 c3 c4 : Nat) (xs ys zs us : List ByteArray) (sp : Int) (w : World) (h1 : SRow w p1 xs) (h2 : SRow w p2 ys) (h3 : SRow w p3 zs) (h4 : SRow w p4 us) :
    Calls Try.prog 3 #[.slice p1 xs.length c1, .slice p2 ys.length c2, .slice p3 zs.length c3, .slice p4 us.length c4, .int .i64 sp] w fun e w' => e = .returned (.bool true) ∧ Below w.heap.size w w' := by
  have HX1 : Hid (SRow w p1 xs) := h1
  have HX2 : Hid (SRow w p2 ys) := h2
  have HX3 : Hid (SRow w p3 zs) := h3
  have HX4 : Hid (SRow w p4 us) := h4
  clear h1 h2 h3 h4
  go_enter Try.func3, Try.ntmps3
  go_wp2_with fail
  refine (zz4 p1 p2 p3 p4 c1 c2 c3 c4 xs ys zs us sp w HX1.out HX2.out HX3.out HX4.out).mono ?_
  rintro e w' ⟨⟨b, rfl⟩, rfl⟩
  cases b with
  | false =>
    go_wp2
    go_ret
    exact ⟨rfl, Below.refl _ _⟩
  | true =>
    go_wp2_with fail
    any_goals (first | (go_ret; exact ⟨rfl, Below.refl _ _⟩) | skip)
    have lx : xs.length ≤ 65536 := by omega
    have ly : ys.length ≤ 65536 := by omega
    have lz : zs.length ≤ 65536 := by omega
    have lu : us.length ≤ 65536 := by omega
    refine (zz5 p1 c1 xs _ _ HX1.out (by omega)).mono ?_
    rintro e w2 ⟨⟨r1, rfl⟩, rfl⟩
    go_wp2_with fail
    any_goals (first | (go_ret; exact ⟨rfl, Below.refl _ _⟩) | skip)
    refine (zz5 p2 c2 ys _ _ HX2.out (by omega)).mono ?_
    rintro e w2 ⟨⟨r2, rfl⟩, rfl⟩
    go_wp2_with fail
    any_goals (first | (go_ret; exact ⟨rfl, Below.refl _ _⟩) | skip)
    refine (zz5 p3 c3 zs _ _ HX3.out (by omega)).mono ?_
    rintro e w2 ⟨⟨r3, rfl⟩, rfl⟩
    go_wp2_with fail
    any_goals (first | (go_ret; exact ⟨rfl, Below.refl _ _⟩) | skip)
    refine (zz5 p4 c4 us _ _ HX4.out (by omega)).mono ?_
    rintro e w2 ⟨⟨r4, rfl⟩, rfl⟩
    rcases (by omega : sp < 0 ∨ 4096 < sp ∨ (0 ≤ sp ∧ sp ≤ 4096)) with hs | hs | ⟨hs0, hs1⟩
    · go_wp2
      all_goals (go_ret; exact ⟨rfl, Below.refl _ _⟩)
    · have hs' : ¬ sp < 0 := by omega
      go_wp2
      all_goals (go_ret; exact ⟨rfl, Below.refl _ _⟩)
    have hs' : ¬ sp < 0 := by omega
    have hs'' : ¬ 4096 < sp := by omega
    by_cases hl1 : ¬ ys.length = xs.length
    · have hb1 : ((ys.length : Int) != (xs.length : Int)) = true := by simpa using (by omega : ¬ (ys.length : Int) = (xs.length : Int))
      clear hl1
      go_wp2
      all_goals (go_ret; exact ⟨rfl, Below.refl _ _⟩)
    have hb1 : ((ys.length : Int) != (xs.length : Int)) = false := by simpa using (by omega : (ys.length : Int) = (xs.length : Int))
    have L1 : Hid (ys.length = xs.length) := by show _ = _; omega
    by_cases hl2 : ¬ us.length = zs.length
    · have hb2 : ((us.length : Int) != (zs.length : Int)) = true := by simpa using (by omega : ¬ (us.length : Int) = (zs.length : Int))
      clear hl1 hl2
      go_wp2
      all_goals (go_ret; exact ⟨rfl, Below.refl _ _⟩)
    have hb2 : ((us.length : Int) != (zs.length : Int)) = false := by simpa using (by omega : (us.length : Int) = (zs.length : Int))
    have L2 : Hid (us.length = zs.length) := by show _ = _; omega
    clear hl1 hl2 hs' hs''
    obtain ⟨S, rfl⟩ := Int.eq_ofNat_of_zero_le hs0
    obtain ⟨M, hM⟩ : ∃ M : List Value, M = (madeCells #[.string ⟨#[]⟩, .string ⟨#[]⟩] ((xs.length + S) * 2)).toList := ⟨_, rfl⟩
    have hMl : M.length = (xs.length + S) * 2 := by rw [hM, Array.length_toList, size_madeCells]
    have hmk : ∀ w : World, (Instr.makeSlice 25 (.int .i64 (xs.length : Int)) (.int .i64 ((xs.length : Int) + (S : Int)))).run Try.prog w = .ok (.slice (some ⟨w.heap.size, 0, none⟩) xs.length (xs.length + S)) (w.alloc (.cells M.toArray 27)) := fun w => by
      obtain ⟨i0, hi, hz0, hz1, hz2⟩ := info_parts info27
      have := run_make (P := Try.prog) w 25 27 i0 _ Try.underlying25 hi hz0 .i64 .i64 (xs.length : Int) ((xs.length : Int) + (S : Int)) (by omega) (by omega) (by rw [hz2]; omega) (by omega)
      rw [this, hM, hz1]
      have e : ((xs.length : Int) + (S : Int)).toNat = xs.length + S := by omega
      simp [Value.cells, e]
    have HM : Hid (M.length = (xs.length + S) * 2) := hMl
    clear hM hMl
    go_wp2_with fail
    any_goals (first | (go_ret; exact ⟨rfl, Below.refl _ _⟩) | skip)
    obtain ⟨ps, eps⟩ : ∃ ps, ps = xs.zip ys := ⟨_, rfl⟩
    obtain ⟨g, eg⟩ : ∃ g, g = w2.heap.size := ⟨_, rfl⟩
    have lps : ps.length = xs.length := by rw [eps, List.length_zip, L1.out]; exact Nat.min_self _
    have PS : Hid (ps = xs.zip ys) := eps
    have LP : Hid (ps.length = xs.length) := lps
    have G : Hid (g = w2.heap.size) := eg
    have FS : Hid (Fill w2 g ((xs.length + S) * 2) ps 0 (w2.alloc (.cells M.toArray 27))) := by rw [eg]; exact Fill.start w2 M _ HM.out ps
    rw [← eg]
    clear eps lps eg
    go_loopw [15] (fun i wr => ∃ k : Nat, k ≤ xs.length ∧ i = .int .i64 k ∧ Hid (Fill w2 g ((xs.length + S) * 2) ps k wr)) (fun i _ => xs.length - (RowKit.intOf i).toNat)
    case atStart => exact ⟨0, Nat.zero_le _, rfl, FS⟩
    case round =>
      clear FS hmk
      obtain ⟨k, hk, rfl, hF⟩ := hrel
      by_cases hkn : k < xs.length
      · have hT : (k : Int) < (xs.length : Int) := by omega
        have hTy : (k : Int) < (ys.length : Int) := by have := L1.out; omega
        obtain ⟨a, ha⟩ : ∃ a, a = xs[k] := ⟨_, rfl⟩
        obtain ⟨b, hb⟩ : ∃ b, b = ys[k]'(by have := L1.out; omega) := ⟨_, rfl⟩
        obtain ⟨g1, o1, rfl, hg1, hx1⟩ := (HX1.out.kept hF.out.old (Nat.le_refl _)).at hkn
        obtain ⟨g2, o2, rfl, hg2, hx2⟩ := (HX2.out.kept hF.out.old (Nat.le_refl _)).at (k := k) (by have := L1.out; omega)
        rw [← ha] at hx1
        rw [← hb] at hx2
        have AB : Hid (ps[k]'(by rw [LP.out]; exact hkn) = (a, b)) := by
          show _ = _
          have e : ps[k]? = some (a, b) := by rw [PS.out, ha, hb, List.getElem?_zip_eq_some]; exact ⟨List.getElem?_eq_getElem _, List.getElem?_eq_getElem _⟩
          rw [List.getElem?_eq_getElem (by rw [LP.out]; exact hkn)] at e
          exact Option.some.inj e
        obtain ⟨v1, hv1⟩ := hF.out.cell (j := k * 2) (by omega)
        obtain ⟨v2, hv2⟩ := hF.out.cell (j := k * 2 + 1) (by omega)
        have hf1 := hF.out.frozen (k * 2)
        have hf2 := hF.out.frozen (k * 2 + 1)
        clear ha hb
        go_wp2
        go_region
        go_wp2
        go_roundw
        case rel => exact ⟨k + 1, by omega, by go_num, (hF.out.step (by rw [G.out]; exact Nat.le_refl _) (by rw [LP.out]; exact hkn) (by omega) AB.out).drew⟩
        case measure => simp [RowKit.intOf]; omega
      · have hkx : k = xs.length := by omega
        subst hkx
        have hT : ¬ (xs.length : Int) < (xs.length : Int) := by omega
        have HO : Hid (wr.ownsRow w2.heap.size 27 2 (.slice (some ⟨g, 0, none⟩) xs.length (xs.length + S)) xs.length (cells ps)) := by
          have hf := hF.out
          rw [G.out] at hf ⊢
          exact hf.owned LP.out rfl (by omega)
        have HB : Hid (Below w2.heap.size w2 wr) := hF.out.old
        obtain ⟨ad, ead⟩ : ∃ ad, ad = zs.zip us := ⟨_, rfl⟩
        have AD : Hid (ad = zs.zip us) := ead
        have LA : Hid (ad.length = zs.length) := by show _ = _; rw [ead, List.length_zip, L2.out]; exact Nat.min_self _
        clear hF ead hk hkn
        go_wp2
        go_loopw [16, 17] (fun v j wq => ∃ (k g' c' : Nat), k ≤ zs.length ∧ j = .int .i64 k ∧ v = .slice (some ⟨g', 0, none⟩) (xs.length + k) c' ∧ Hid (wq.ownsRow w2.heap.size 27 2 (.slice (some ⟨g', 0, none⟩) (xs.length + k) c') (xs.length + k) (cells (ps ++ ad.take k))) ∧ Hid (Below w2.heap.size w2 wq)) (fun _ j _ => zs.length - (RowKit.intOf j).toNat)
        case atStart => exact ⟨0, g, xs.length + S, Nat.zero_le _, rfl, rfl, by rw [List.take_zero, List.append_nil]; exact HO, HB⟩
        case round =>
          clear HO HB
          obtain ⟨k, g', c', hk, rfl, rfl, HO, HB⟩ := hrel
          by_cases hkn : k < zs.length
          · have hT : (k : Int) < (zs.length : Int) := by omega
            have hTu : (k : Int) < (us.length : Int) := by have := L2.out; omega
            obtain ⟨a, ha⟩ : ∃ a, a = zs[k] := ⟨_, rfl⟩
            obtain ⟨b, hb⟩ : ∃ b, b = us[k]'(by have := L2.out; omega) := ⟨_, rfl⟩
            obtain ⟨g3, o3, rfl, hg3, hx3⟩ := (HX3.out.kept HB.out (Nat.le_refl _)).at hkn
            obtain ⟨g4, o4, rfl, hg4, hx4⟩ := (HX4.out.kept HB.out (Nat.le_refl _)).at (k := k) (by have := L2.out; omega)
            rw [← ha] at hx3
            rw [← hb] at hx4
            have AB : Hid (ad.take (k + 1) = ad.take k ++ [(a, b)]) := by
              show _ = _
              have e : ad[k]? = some (a, b) := by rw [AD.out, ha, hb, List.getElem?_zip_eq_some]; exact ⟨List.getElem?_eq_getElem _, List.getElem?_eq_getElem _⟩
              rw [List.getElem?_eq_getElem (by rw [LA.out]; exact hkn)] at e
              rw [List.take_succ_eq_append_getElem (by rw [LA.out]; exact hkn), Option.some.inj e]
            have HA : Hid (Calls Try.prog 6 #[.slice (some ⟨g', 0, none⟩) (xs.length + k) c', .string a, .string b] wr.drew fun e w' =>
                ∃ g5 c5, e = .returned (.slice (some ⟨g5, 0, none⟩) (xs.length + k + 1) c5) ∧ w'.ownsRow w2.heap.size 27 2 (.slice (some ⟨g5, 0, none⟩) (xs.length + k + 1) c5) (xs.length + k + 1) (cells ((ps ++ ad.take k) ++ [(a, b)])) ∧ Below w2.heap.size wr.drew w') :=
              app6n w2.heap.size (xs.length + k) c' g' (ps ++ ad.take k) a b wr.drew (by rw [List.length_append, List.length_take, LP.out, LA.out]; omega) HO.out HB.out.size (by omega)
            clear ha hb
            go_wp2
            go_region_with (go_at_call 6; refine HA.out.mono ?_; rintro e w5 ⟨g5, c5, rfl, ho5, hb5⟩)
            all_goals
              go_wp2
              go_roundw
              case rel => exact ⟨k + 1, g5, c5, by omega, by go_num, rfl, by rw [AB.out, ← List.append_assoc]; exact ho5, HB.out.drew.trans hb5⟩
              case measure => simp [RowKit.intOf]; omega
          · have hkz : k = zs.length := by omega
            subst hkz
            have hT : ¬ (zs.length : Int) < (zs.length : Int) := by omega
            have HO2 : Hid (wr.ownsRow w2.heap.size 27 2 (.slice (some ⟨g', 0, none⟩) (xs.length + zs.length) c') (xs.length + zs.length) (cells (ps ++ ad))) := by
              have ho := HO.out
              rw [List.take_of_length_le (by rw [LA.out]; exact Nat.le_refl _)] at ho
              exact ho
            obtain ⟨W, eW⟩ : ∃ W, W = wr := ⟨_, rfl⟩
            subst eW
            clear HO hk hkn
            go_wp2
            go_loopw [18] (fun i wq => ∃ k : Nat, k ≤ xs.length ∧ i = .int .i64 k ∧ Hid (∃ q, wq = W.drewN q)) (fun i _ => xs.length - (RowKit.intOf i).toNat)
            case atStart => exact ⟨0, Nat.zero_le _, rfl, 0, rfl⟩
            case round =>
              obtain ⟨k, hk, rfl, hq⟩ := hrel
              obtain ⟨q, rfl⟩ := hq.out
              clear hq
              by_cases hkn : k < xs.length
              · have hT : (k : Int) < (xs.length : Int) := by omega
                have hTy : (k : Int) < (ys.length : Int) := by have := L1.out; omega
                have hTo : (k : Int) < (xs.length : Int) + (zs.length : Int) := by omega
                obtain ⟨a, ha⟩ : ∃ a, a = xs[k] := ⟨_, rfl⟩
                obtain ⟨b, hb⟩ : ∃ b, b = ys[k]'(by have := L1.out; omega) := ⟨_, rfl⟩
                obtain ⟨g1, o1, rfl, hg1, hx1⟩ := (HX1.out.kept HB.out (Nat.le_refl _)).at hkn
                obtain ⟨g2, o2, rfl, hg2, hx2⟩ := (HX2.out.kept HB.out (Nat.le_refl _)).at (k := k) (by have := L1.out; omega)
                rw [← ha] at hx1
                rw [← hb] at hx2
                obtain ⟨hy1, hy2⟩ := fault_cells HO2.out (j := k) (a := a) (b := b) (by
                  rw [List.getElem?_append_left (by rw [LP.out]; exact hkn), PS.out, ha, hb, List.getElem?_zip_eq_some]
                  exact ⟨List.getElem?_eq_getElem _, List.getElem?_eq_getElem _⟩)
                clear ha hb
                go_wp2
                go_quiet (fail)
                go_wp2
                go_roundw
                case rel => exact ⟨k + 1, by omega, by go_num, ⟨_, rfl⟩⟩
                case measure => simp [RowKit.intOf]; omega
              · have hkx : k = xs.length := by omega
                subst hkx
                have hT : ¬ (xs.length : Int) < (xs.length : Int) := by omega
                clear hk hkn
                go_wp2
                go_loopw [19] (fun i wq => ∃ k : Nat, k ≤ zs.length ∧ i = .int .i64 k ∧ Hid (∃ q, wq = W.drewN q)) (fun i _ => zs.length - (RowKit.intOf i).toNat)
                case atStart => exact ⟨0, Nat.zero_le _, rfl, ⟨_, rfl⟩⟩
                case round =>
                  obtain ⟨k, hk, rfl, hq⟩ := hrel
                  obtain ⟨q, rfl⟩ := hq.out
                  clear hq
                  by_cases hkn : k < zs.length
                  · have hT : (k : Int) < (zs.length : Int) := by omega
                    have hTu : (k : Int) < (us.length : Int) := by have := L2.out; omega
                    obtain ⟨a, ha⟩ : ∃ a, a = zs[k] := ⟨_, rfl⟩
                    obtain ⟨b, hb⟩ : ∃ b, b = us[k]'(by have := L2.out; omega) := ⟨_, rfl⟩
                    obtain ⟨g3, o3, rfl, hg3, hx3⟩ := (HX3.out.kept HB.out (Nat.le_refl _)).at hkn
                    obtain ⟨g4, o4, rfl, hg4, hx4⟩ := (HX4.out.kept HB.out (Nat.le_refl _)).at (k := k) (by have := L2.out; omega)
                    rw [← ha] at hx3
                    rw [← hb] at hx4
                    obtain ⟨hy1, hy2⟩ := fault_cells HO2.out (j := xs.length + k) (a := a) (b := b) (by
                      rw [List.getElem?_append_right (by rw [LP.out]; omega), LP.out, Nat.add_sub_cancel_left, AD.out, ha, hb, List.getElem?_zip_eq_some]
                      exact ⟨List.getElem?_eq_getElem _, List.getElem?_eq_getElem _⟩)
                    clear ha hb
                    go_wp2
                    go_quiet (fail)
                    go_wp2
                    go_roundw
                    case rel => exact ⟨k + 1, by omega, by go_num, ⟨_, rfl⟩⟩
                    case measure => simp [RowKit.intOf]; omega
                  · have hkz : k = zs.length := by omega
                    subst hkz
                    have hT : ¬ (zs.length : Int) < (zs.length : Int) := by omega
                    go_wp2
                    go_ret
                    exact ⟨rfl, below_drewN HB.out⟩

end Go.Proofs.Qxb6618300a.Walks
