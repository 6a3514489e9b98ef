/-
  THE ROW THAT THE LAW FILLS, seat b6618300a: what a round's store makes of it; the plain lists.
-/
import Derived.Test.Qxb6618300aWalks2
namespace Go.Proofs.Qxb6618300a.Walks
open Go.RowKit
open Go.Proofs.Qxb6618300a

/-- Behind k rounds the block g holds the first k faults (and N cells in all); what was there before is as it was. -/
def Fill (w0 : World) (g N : Nat) (ps : List (ByteArray × ByteArray)) (k : Nat) (wr : World) : Prop :=
  ∃ cur : List Value, wr.heap[g]? = some (.cells cur.toArray 27 (0, 0)) ∧ cur.length = N ∧ cur.take (k * 2) = cells (ps.take k) ∧ Below w0.heap.size w0 wr

theorem cells_length (ps : List (ByteArray × ByteArray)) : (cells ps).length = ps.length * 2 := by
  induction ps with
  | nil => rfl
  | cons p ps ih =>
    have e2 : cells (p :: ps) = .string p.1 :: .string p.2 :: cells ps := rfl
    rw [e2, List.length_cons, List.length_cons, ih, List.length_cons]
    omega

theorem Fill.start (w0 : World) (M : List Value) (N : Nat) (hM : M.length = N) (ps : List (ByteArray × ByteArray)) : Fill w0 w0.heap.size N ps 0 (w0.alloc (.cells M.toArray 27)) :=
  ⟨M, heap_alloc_new w0 _, hM, by simp [cells], (Below.refl _ w0).alloc (Nat.le_refl _) _⟩

theorem Fill.cell {w0 : World} {g N k : Nat} {ps : List (ByteArray × ByteArray)} {wr : World} (h : Fill w0 g N ps k wr) {j : Nat} (hj : j < N) : ∃ u, wr.cell? ⟨g, j, none⟩ = some u := by
  obtain ⟨cur, hg, hl, _, _⟩ := h
  refine ⟨cur[j]'(by omega), ?_⟩
  rw [cell_of_row wr g j _ 27 (0, 0) hg]
  simp [hl, hj]

theorem Fill.frozen {w0 : World} {g N k : Nat} {ps : List (ByteArray × ByteArray)} {wr : World} (h : Fill w0 g N ps k wr) (j : Nat) : wr.frozen? ⟨g, j, none⟩ = false := by
  obtain ⟨cur, hg, _⟩ := h
  simp [World.frozen?, hg]

theorem Fill.drew {w0 : World} {g N k : Nat} {ps : List (ByteArray × ByteArray)} {wr : World} (h : Fill w0 g N ps k wr) : Fill w0 g N ps k wr.drew := by
  obtain ⟨cur, h1, h2, h3, h4⟩ := h
  exact ⟨cur, h1, h2, h3, h4.drew⟩

theorem Fill.old {w0 : World} {g N k : Nat} {ps : List (ByteArray × ByteArray)} {wr : World} (h : Fill w0 g N ps k wr) : Below w0.heap.size w0 wr := by
  obtain ⟨cur, _, _, _, h4⟩ := h
  exact h4

theorem take_set_two (cur : List Value) (k : Nat) (a b : Value) (h : k * 2 + 1 < cur.length) : ((cur.set (k * 2) a).set (k * 2 + 1) b).take ((k + 1) * 2) = cur.take (k * 2) ++ [a, b] := by
  apply List.ext_getElem?
  intro j
  rw [List.getElem?_take]
  by_cases hj : j < (k + 1) * 2
  · rw [if_pos hj]
    by_cases h1 : j < k * 2
    · rw [List.getElem?_append_left (by rw [List.length_take]; omega), List.getElem?_take, if_pos h1, List.getElem?_set_ne (by omega), List.getElem?_set_ne (by omega)]
    · rw [List.getElem?_append_right (by rw [List.length_take]; omega), List.length_take, Nat.min_eq_left (by omega)]
      by_cases h2 : j = k * 2
      · subst h2
        rw [List.getElem?_set_ne (by omega), List.getElem?_set_self (by omega)]
        simp
      · have h3 : j = k * 2 + 1 := by omega
        subst h3
        rw [List.getElem?_set_self (by rw [List.length_set]; omega)]
        simp
  · rw [if_neg hj, List.getElem?_eq_none]
    rw [List.length_append, List.length_take]
    simp
    omega

theorem Fill.step {w0 : World} {g N k : Nat} {ps : List (ByteArray × ByteArray)} {wr : World} (h : Fill w0 g N ps k wr) (hg : w0.heap.size ≤ g) (hk : k < ps.length) (hN : k * 2 + 1 < N) {a b : ByteArray} (hab : ps[k] = (a, b)) :
    Fill w0 g N ps (k + 1) ((wr.setCell ⟨g, k * 2, none⟩ (.string a)).setCell ⟨g, k * 2 + 1, none⟩ (.string b)) := by
  obtain ⟨cur, h1, h2, h3, h4⟩ := h
  refine ⟨(cur.set (k * 2) (.string a)).set (k * 2 + 1) (.string b), ?_, by simp [h2], ?_, (h4.setCell hg _).setCell hg _⟩
  · have e1 := setCell_eq_setRow wr g (k * 2) cur.toArray 27 (0, 0) (.string a) h1
    have g1 := setRow_heap wr g cur.toArray (cur.toArray.setIfInBounds (k * 2) (.string a)) 27 (0, 0) h1
    rw [← e1] at g1
    have e2 := setCell_eq_setRow (wr.setCell ⟨g, k * 2, none⟩ (.string a)) g (k * 2 + 1) _ 27 (0, 0) (.string b) g1
    have g2 := setRow_heap _ g _ ((cur.toArray.setIfInBounds (k * 2) (.string a)).setIfInBounds (k * 2 + 1) (.string b)) 27 (0, 0) g1
    rw [← e2] at g2
    rw [g2]
    simp
  · rw [take_set_two cur k _ _ (by omega), h3]
    have e : ps.take (k + 1) = ps.take k ++ [(a, b)] := by
      rw [List.take_succ_eq_append_getElem hk, hab]
    rw [e, cells_snoc]

/-- Behind the last round the faults are owned. -/
theorem Fill.owned {w0 : World} {N c n : Nat} {ps : List (ByteArray × ByteArray)} {wr : World} (h : Fill w0 w0.heap.size N ps n wr) (hn : ps.length = n) (hN : N = (n + c) * 2) (hm : n + c ≤ 1000000) :
    wr.ownsRow w0.heap.size 27 2 (.slice (some ⟨w0.heap.size, 0, none⟩) n (n + c)) n (cells ps) := by
  obtain ⟨cur, h1, h2, h3, h4⟩ := h
  have e : ps.take n = ps := List.take_of_length_le (by omega)
  rw [e] at h3
  refine ⟨by rw [cells_length, hn], .inr ⟨w0.heap.size, n + c, cur.toArray, rfl, Nat.le_refl _, h1, by omega, by unfold maxLen; omega, by simp [h2, hN], by simpa using h3⟩⟩

theorem drewN_more {w wr : World} (h : ∃ q, wr = w.drewN q) {n : Nat} : ∃ q, wr.drewN n = w.drewN q := by
  obtain ⟨q, rfl⟩ := h
  exact ⟨q + n, by simp⟩

theorem below_drewN {B q : Nat} {w w' : World} (h : Below B w w') : Below B w (w'.drewN q) := ⟨h.os, h.tape, h.output, h.size, h.block⟩

/-- The two cells of fault j. -/
theorem fault_cells {w : World} {B g n cap : Nat} {fs : List (ByteArray × ByteArray)} (h : w.ownsRow B 27 2 (.slice (some ⟨g, 0, none⟩) n cap) n (cells fs)) {j : Nat} {a b : ByteArray} (hj : fs[j]? = some (a, b)) :
    w.cell? ⟨g, j * 2, none⟩ = some (.string a) ∧ w.cell? ⟨g, j * 2 + 1, none⟩ = some (.string b) := by
  have hl : j < fs.length := by
    rcases Nat.lt_or_ge j fs.length with h | h
    · exact h
    · rw [List.getElem?_eq_none h] at hj; cases hj
  have hc := cells_at fs j hl
  rw [List.getElem?_eq_getElem hl] at hj
  rw [Option.some.inj hj] at hc
  exact ⟨row_cell h hc.1, row_cell h hc.2⟩

end Go.Proofs.Qxb6618300a.Walks
