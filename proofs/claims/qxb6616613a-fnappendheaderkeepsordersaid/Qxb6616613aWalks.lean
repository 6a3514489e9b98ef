/-
  THE WALKS OF THE SEAT b6616613a: appendVarNumber, AppendHeader.
-/
import Derived.Test.Qxb6616613aRows
import Derived.Test.Qxb6616613aShelf
import Derived.WalkKit
import Derived.ProofKit
import Derived.OwnWalk
import Derived.Lib.Endian
import Derived.Deep.AppendLies
import Derived.Deep.RegionLaw
namespace Go.Proofs.Qxb6616613a.Walks
open Go.RowKit
open Go.Proofs.Qxb6616613a

theorem info5 : (Try.prog.info? 5).map (fun i => (i.zero, i.size, i.bytes)) = some (some (Value.int IntKind.u8 0), 1, 1) := by kernel_rfl

set_option maxHeartbeats 400000 in
theorem var7_1 (B n v : Nat) (hv : v < 253) (sv : Value) (xs : List Value) (w : World) (hown : w.ownsRow B 5 1 sv n xs) (hBw : B ≤ w.heap.size) (hlim : n + 9 ≤ 1000000) :
    Calls Try.prog 7 #[sv, .int .u64 v] w fun e w' => ∃ v', e = .returned v' ∧ w'.ownsRow B 5 1 v' (n + 1) (xs ++ [.int .u8 v]) ∧ Below B w w' := by
  obtain ⟨i0, hi, hz0, hz1, hz2⟩ := info_parts info5
  have h1 : (v : Int) < 253 := by omega
  go_enter Try.func7, Try.ntmps7
  go_wp2_with (at_builtin; refine wpList_append_own _ rfl _ _ 23 rfl B 5 i0 (.int .u8 0) 1 1 Try.underlying23 hi hz0 hz1 hz2 rfl (by decide) _ _ _ rfl (hown.alloc _) _ 1 1 [Value.int .u8 (v : Int)] rfl rfl ?c1 ?c2 ?c3 ?c4 ?c5 ?_)
  case c1 =>
    intro j u hj
    match j, hj with
    | 0, hj => simp at hj; subst hj; simp [Addr.add]
  case c2 => intro u hu; simp at hu; subst hu; rfl
  case c3 => unfold maxLen; omega
  case c4 => omega
  case c5 => simp; omega
  intro v' w2 hown' hgrow _
  go_wp2
  go_ret
  refine ⟨v', rfl, hown', ?_⟩
  exact ((Below.refl B w).alloc hBw _).grown hgrow (by simp; omega) (fun k hk => (hown.lt k hk).1)

/-- What the callee hands on, put together. -/
theorem own_fin {B n : Nat} {xs : List Value} {v' : Value} {w2 : World} {m : UInt8} {bs : List UInt8} (k : Nat) (h : w2.ownsRow B 5 1 v' (n + 1 + k) ((xs ++ [.int .u8 (m.toNat : Int)]) ++ Lib.byteCells bs)) :
    w2.ownsRow B 5 1 v' (n + (k + 1)) (xs ++ Lib.byteCells (m :: bs)) := by
  have e : n + 1 + k = n + (k + 1) := by omega
  rw [e, List.append_assoc] at h
  exact h

set_option maxHeartbeats 400000 in
theorem var7_2 (B n v : Nat) (hv1 : 253 ≤ v) (hv : v ≤ 65535) (sv : Value) (xs : List Value) (w : World) (hown : w.ownsRow B 5 1 sv n xs) (hBw : B ≤ w.heap.size) (hlim : n + 9 ≤ 1000000) :
    Calls Try.prog 7 #[sv, .int .u64 v] w fun e w' => ∃ v', e = .returned v' ∧ w'.ownsRow B 5 1 v' (n + 3) (xs ++ Lib.byteCells (253 :: Lib.beBytes 2 v)) ∧ Below B w w' := by
  obtain ⟨i0, hi, hz0, hz1, hz2⟩ := info_parts info5
  have h1 : ¬ (v : Int) < 253 := by omega
  have h2 : (v : Int) ≤ 65535 := by omega
  have hwr : IntKind.u16.wrap (v : Int) = (v : Int) := u16_wrap_id _ (by omega) (by omega)
  go_enter Try.func7, Try.ntmps7
  go_wp2
  go_region_law (first
    | (refine step_append_lies _ (by rfl) (.tmp 15) (.tmp 16) 23 (by rfl) B 5 i0 (.int .u8 0) 1 1 Try.underlying23 hi hz0 hz1 hz2 rfl (by decide) sv n xs (by rfl) (by exact hown.alloc _) ⟨w.heap.size, 0, none⟩ 1 1 [.int .u8 253] (by rfl) (by rfl) (by exact World.news_of_block (heap_alloc_new w _)) (by intro u hu; simp at hu; subst hu; rfl) (by omega) (by unfold maxLen; omega) (by omega) (by simp; omega) (w.heap.size + 1) (by simp) ?_; intro g cap w1 hown1 hgrow hat hlt)
    | (go_simp; go_at_call 8; refine (Try.binary_BE_AppendUint16 B (n + 1) v (by omega) _ (xs ++ [.int .u8 253]) _ (by exact hown1) (by have := hgrow.size; simp at this; omega) (by omega)).mono ?_; rintro e w2 ⟨v', rfl, hown2, hb2⟩))
  all_goals
    go_wp2
    go_ret
    refine ⟨v', rfl, own_fin 2 hown2, ?_⟩
    exact (((Below.refl B w).alloc hBw _).drew).grown (w' := w1) hgrow (by simp; omega) (fun k hk => (hown.lt k hk).1) |>.trans hb2

set_option maxHeartbeats 400000 in
theorem var7_3 (B n v : Nat) (hv1 : 65536 ≤ v) (hv : v ≤ 4294967295) (sv : Value) (xs : List Value) (w : World) (hown : w.ownsRow B 5 1 sv n xs) (hBw : B ≤ w.heap.size) (hlim : n + 9 ≤ 1000000) :
    Calls Try.prog 7 #[sv, .int .u64 v] w fun e w' => ∃ v', e = .returned v' ∧ w'.ownsRow B 5 1 v' (n + 5) (xs ++ Lib.byteCells (254 :: Lib.beBytes 4 v)) ∧ Below B w w' := by
  obtain ⟨i0, hi, hz0, hz1, hz2⟩ := info_parts info5
  have h1 : ¬ (v : Int) < 253 := by omega
  have h2 : ¬ (v : Int) ≤ 65535 := by omega
  have h3 : (v : Int) ≤ 4294967295 := by omega
  have hwr : IntKind.u32.wrap (v : Int) = (v : Int) := u32_wrap_id _ (by omega) (by omega)
  go_enter Try.func7, Try.ntmps7
  go_wp2
  go_region_law (first
    | (refine step_append_lies _ (by rfl) (.tmp 24) (.tmp 25) 23 (by rfl) B 5 i0 (.int .u8 0) 1 1 Try.underlying23 hi hz0 hz1 hz2 rfl (by decide) sv n xs (by rfl) (by exact hown.alloc _) ⟨w.heap.size, 0, none⟩ 1 1 [.int .u8 254] (by rfl) (by rfl) (by exact World.news_of_block (heap_alloc_new w _)) (by intro u hu; simp at hu; subst hu; rfl) (by omega) (by unfold maxLen; omega) (by omega) (by simp; omega) (w.heap.size + 1) (by simp) ?_; intro g cap w1 hown1 hgrow hat hlt)
    | (go_simp; go_at_call 9; refine (Try.binary_BE_AppendUint32 B (n + 1) v (by omega) _ (xs ++ [.int .u8 254]) _ (by exact hown1) (by have := hgrow.size; simp at this; omega) (by omega)).mono ?_; rintro e w2 ⟨v', rfl, hown2, hb2⟩))
  all_goals
    go_wp2
    go_ret
    refine ⟨v', rfl, own_fin 4 hown2, ?_⟩
    exact (((Below.refl B w).alloc hBw _).drew).grown (w' := w1) hgrow (by simp; omega) (fun k hk => (hown.lt k hk).1) |>.trans hb2

set_option maxHeartbeats 400000 in
theorem var7_4 (B n v : Nat) (hv1 : 4294967296 ≤ v) (hv : v ≤ 18446744073709551615) (sv : Value) (xs : List Value) (w : World) (hown : w.ownsRow B 5 1 sv n xs) (hBw : B ≤ w.heap.size) (hlim : n + 9 ≤ 1000000) :
    Calls Try.prog 7 #[sv, .int .u64 v] w fun e w' => ∃ v', e = .returned v' ∧ w'.ownsRow B 5 1 v' (n + 9) (xs ++ Lib.byteCells (255 :: Lib.beBytes 8 v)) ∧ Below B w w' := by
  obtain ⟨i0, hi, hz0, hz1, hz2⟩ := info_parts info5
  have h1 : ¬ (v : Int) < 253 := by omega
  have h2 : ¬ (v : Int) ≤ 65535 := by omega
  have h3 : ¬ (v : Int) ≤ 4294967295 := by omega
  go_enter Try.func7, Try.ntmps7
  go_wp2
  go_region_law (first
    | (refine step_append_lies _ (by rfl) (.tmp 31) (.tmp 32) 23 (by rfl) B 5 i0 (.int .u8 0) 1 1 Try.underlying23 hi hz0 hz1 hz2 rfl (by decide) sv n xs (by rfl) (by exact hown.alloc _) ⟨w.heap.size, 0, none⟩ 1 1 [.int .u8 255] (by rfl) (by rfl) (by exact World.news_of_block (heap_alloc_new w _)) (by intro u hu; simp at hu; subst hu; rfl) (by omega) (by unfold maxLen; omega) (by omega) (by simp; omega) (w.heap.size + 1) (by simp) ?_; intro g cap w1 hown1 hgrow hat hlt)
    | (go_simp; go_at_call 10; refine (Try.binary_BE_AppendUint64 B (n + 1) v (by omega) _ (xs ++ [.int .u8 255]) _ (by exact hown1) (by have := hgrow.size; simp at this; omega) (by omega)).mono ?_; rintro e w2 ⟨v', rfl, hown2, hb2⟩))
  all_goals
    go_wp2
    go_ret
    refine ⟨v', rfl, own_fin 8 hown2, ?_⟩
    exact (((Below.refl B w).alloc hBw _).drew).grown (w' := w1) hgrow (by simp; omega) (fun k hk => (hown.lt k hk).1) |>.trans hb2

end Go.Proofs.Qxb6616613a.Walks
