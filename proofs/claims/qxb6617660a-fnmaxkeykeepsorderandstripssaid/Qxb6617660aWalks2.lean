/-
  THE WALKS OF THE SEAT b6617660a, 2: maxKey, ZZmaxKey.
-/
import Derived.Test.Qxb6617660aWalks
import Derived.ArgAppend
import Derived.Lib.JoinLaws
import Derived.Lib.SlBytesConst
namespace Go.Proofs.Qxb6617660a.Walks
open Go.RowKit
open Go.Proofs.Qxb6617660a

theorem info5 : (Try.prog.info? 5).map (fun i => (i.zero, i.size, i.bytes)) = some (some (Value.int IntKind.u8 0), 1, 1) := by kernel_rfl

/-- A key as the law hands it on: nil, or a row at the head of a block. -/
def Key (w : World) (p : Option Addr) (c : Nat) (xs : List Int) : Prop :=
  (p = none ∧ c = 0 ∧ xs = []) ∨ ∃ g, p = some ⟨g, 0, none⟩ ∧ g < w.heap.size ∧ ∀ (j : Nat) (hj : j < xs.length), w.cell? ⟨g, j, none⟩ = some (.int .u8 xs[j])

theorem Key.row {w : World} {p : Option Addr} {c : Nat} {xs : List Int} (h : Key w p c xs) : Row w p xs := by
  rcases h with ⟨_, _, h⟩ | ⟨g, hp, _, hc⟩
  · exact .inl h
  · exact .inr ⟨g, 0, hp, fun j hj => by rw [Nat.zero_add]; exact hc j hj⟩

theorem Key.kept {w w' : World} {p : Option Addr} {c : Nat} {xs : List Int} (h : Key w p c xs) (hb : Below w.heap.size w w') : Key w' p c xs := by
  rcases h with h | ⟨g, hp, hg, hc⟩
  · exact .inl h
  · exact .inr ⟨g, hp, Nat.lt_of_lt_of_le hg hb.size, fun j hj => (hb.cell (p := ⟨g, j, none⟩) hg).trans (hc j hj)⟩

/-- What maxKey hands back. -/
def MaxKey (B : Nat) (xs : List Int) (w : World) (v : Value) : Prop :=
  ∃ g cap, v = .slice (some ⟨g, 0, none⟩) (5 + xs.length) cap ∧ 5 + xs.length ≤ cap ∧ cap ≤ maxLen ∧ B ≤ g ∧ g < w.heap.size ∧ ∀ (j : Nat) (hj : j < (Plain.pfx ++ xs).length), w.cell? ⟨g, j, none⟩ = some (.int .u8 (Plain.pfx ++ xs)[j])

theorem lower {w : World} {base base' : Nat} {e : TypeId} {size : Nat} {v : Value} {n : Nat} {xs : List Value} (h : w.ownsRow base e size v n xs) (hb : base' ≤ base) : w.ownsRow base' e size v n xs := by
  refine ⟨h.1, ?_⟩
  rcases h.2 with h0 | ⟨g, cap, cur, a, b, r⟩
  · exact .inl h0
  · exact .inr ⟨g, cap, cur, a, Nat.le_trans hb b, r⟩

theorem add0 (g j : Nat) : ((⟨g, 0, none⟩ : Addr).add j) = ⟨g, j, none⟩ := by simp [Addr.add]; exact fun h => h.symm

theorem maxKey_of {B : Nat} {xs : List Int} {w : World} {v : Value} (h : w.ownsRow B 5 1 v (5 + xs.length) ((Plain.pfx ++ xs).map (Value.int .u8))) : MaxKey B xs w v := by
  have hl := h
  rcases hl.2 with ⟨_, h0⟩ | ⟨g, cap, cur, rfl, hb, hg, hn, hm, _, _⟩
  · omega
  · refine ⟨g, cap, rfl, hn, hm, hb, ?_, ?_⟩
    · rcases Nat.lt_or_ge g w.heap.size with hlt | hge
      · exact hlt
      · rw [Array.getElem?_eq_none hge] at hg; cases hg
    · intro j hj
      have := h.cells rfl j (.int .u8 ((Plain.pfx ++ xs)[j])) (by rw [List.getElem?_map, List.getElem?_eq_getElem hj]; rfl)
      rwa [add0] at this

/-- The literal's row, as the conversion leaves it. -/
theorem pfx_cell (w : World) (j : Nat) (hj : j < Plain.pfx.length) : (w.alloc (.cells #[.int .u8 0, .int .u8 109, .int .u8 97, .int .u8 120, .int .u8 0] 5 (5, 6))).cell? ⟨w.heap.size, j, none⟩ = some (.int .u8 Plain.pfx[j]) := by
  have hl : j < 5 := hj
  rw [cell_of_row _ w.heap.size j _ 5 (5, 6) (heap_alloc_new w _)]
  match j, hl with
  | 0, _ => rfl
  | 1, _ => rfl
  | 2, _ => rfl
  | 3, _ => rfl
  | 4, _ => rfl

theorem maxKey_lit (w : World) : MaxKey w.heap.size [] (w.alloc (.cells #[.int .u8 0, .int .u8 109, .int .u8 97, .int .u8 120, .int .u8 0] 5 (5, 6))) (.slice (some ⟨w.heap.size, 0, none⟩) 5 5) := by
  refine ⟨w.heap.size, 5, rfl, Nat.le_refl _, by unfold maxLen; omega, Nat.le_refl _, by simp, ?_⟩
  intro j hj
  simp only [List.append_nil] at hj ⊢
  exact pfx_cell w j hj

set_option maxHeartbeats 400000 in
theorem key8 (p : Option Addr) (c : Nat) (xs : List Int) (w : World) (hk : Key w p c xs) (lx : xs.length ≤ 1000000) :
    Calls Try.prog 8 #[.slice p xs.length c] w fun e w' => ∃ v, e = .returned v ∧ MaxKey w.heap.size xs w' v ∧ Below w.heap.size w w' := by
  obtain ⟨i0, hi, hz0, hz1, hz2⟩ := info_parts info5
  have kc := fun (w : World) (C : Array Value) (n c : Nat) => Lib.run_convert_bytes_const (P := Try.prog) w 22 5 C n c Try.underlying22 Try.underlying5
  rcases hk with ⟨rfl, rfl, rfl⟩ | ⟨g, rfl, hg, hc⟩
  · go_enter Try.func8, Try.ntmps8
    go_wp2_with (at_builtin; refine wpList_append_room_src _ rfl _ _ 22 22 rfl 5 i0 Try.underlying22 hi w.heap.size 0 5 5 rfl (.slice none 0 0) rfl 0 [] (Src.ofNil _ Try.underlying22 0) (by decide) (by simp) (by simp) ?_)
    go_wp2
    go_ret
    exact ⟨_, rfl, maxKey_lit w, (Below.refl _ w).alloc (Nat.le_refl _) _⟩
  · have HC : Hid (∀ (j : Nat) (hj : j < xs.length), w.cell? ⟨g, j, none⟩ = some (.int .u8 xs[j])) := hc
    clear hc
    go_enter Try.func8, Try.ntmps8
    go_wp2_with (at_builtin; refine wpList_append_arg _ rfl _ _ 22 rfl 5 i0 (.int .u8 0) 1 1 Try.underlying22 hi hz0 hz1 hz2 rfl (by decide) w.heap.size 0 5 5 (Plain.pfx.map (Value.int .u8)) rfl rfl ?d0 ⟨g, 0, none⟩ xs.length c (xs.map (Value.int .u8)) rfl ?c0 ?c1 ?c2 ?d1 ?c3 ?c4 ?room ?grow)
    case d0 =>
      intro j u hj
      rw [List.getElem?_map] at hj
      have hjl : j < Plain.pfx.length := by
        rcases Nat.lt_or_ge j Plain.pfx.length with h | h
        · exact h
        · rw [List.getElem?_eq_none h] at hj; cases hj
      rw [List.getElem?_eq_getElem hjl] at hj
      simp at hj
      subst hj
      rw [Nat.zero_add]
      exact pfx_cell w j hjl
    case c0 => simp
    case c1 =>
      intro j u hj
      rw [List.getElem?_map] at hj
      have hjl : j < xs.length := by
        rcases Nat.lt_or_ge j xs.length with h | h
        · exact h
        · rw [List.getElem?_eq_none h] at hj; cases hj
      rw [List.getElem?_eq_getElem hjl] at hj
      simp at hj
      subst hj
      rw [add0]
      exact (((Below.refl _ w).alloc (Nat.le_refl _) _).cell (p := ⟨g, j, none⟩) hg).trans (HC.out j hjl)
    case c2 =>
      intro u hu
      obtain ⟨z, _, rfl⟩ := List.mem_map.1 hu
      rfl
    case d1 =>
      intro h j hj
      simp at hj
      omega
    case c3 => unfold maxLen; omega
    case c4 => omega
    case room =>
      intro h
      obtain rfl : xs = [] := List.eq_nil_of_length_eq_zero (by omega)
      go_wp2
      go_ret
      exact ⟨_, rfl, maxKey_lit w, (Below.refl _ w).alloc (Nat.le_refl _) _⟩
    case grow =>
      intro h v' w2 hown' hgrow
      go_wp2
      go_ret
      refine ⟨v', rfl, maxKey_of ?_, ?_⟩
      · rw [List.map_append]; exact lower hown' (by simp)
      · exact ((Below.refl _ w).alloc (Nat.le_refl _) _).grown hgrow (by simp) (fun k hk => by cases hk)

set_option maxHeartbeats 400000 in
theorem key5 (p : Option Addr) (c : Nat) (xs : List Int) (w : World) (hk : Key w p c xs) (lx : xs.length ≤ 1000000) :
    Calls Try.prog 5 #[.slice p xs.length c] w fun e w' => ∃ v, e = .returned v ∧ MaxKey w.heap.size xs w' v ∧ Below w.heap.size w w' := by
  have HK : Hid (Key w p c xs) := hk
  clear hk
  go_enter Try.func5, Try.ntmps5
  go_wp2_with fail
  refine (key8 p c xs w HK.out lx).mono ?_
  rintro e w1 ⟨v, rfl, hm, hb⟩
  go_wp2
  go_ret
  exact ⟨v, rfl, hm, hb⟩

end Go.Proofs.Qxb6617660a.Walks
