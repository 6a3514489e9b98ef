/-
  THE PLAIN LAW OF THE SEAT b6616613a: the shortest VAR-NUMBERs compare bytewise as the numbers do; no Go in sight.
-/
import Derived.Lib.Endian
namespace Go.Proofs.Qxb6616613a.Plain
open Go.Lib

/-- The bytewise comparison. -/
def cmpL : List UInt8 → List UInt8 → Int
  | [], [] => 0
  | [], _ :: _ => -1
  | _ :: _, [] => 1
  | a :: x, b :: y => if a.toNat < b.toNat then -1 else if b.toNat < a.toNat then 1 else cmpL x y

def cmpN (a b : Nat) : Int := if a < b then -1 else if b < a then 1 else 0

/-- The shortest VAR-NUMBER of v. -/
def vnum (v : Nat) : List UInt8 :=
  if v < 253 then [v.toUInt8] else if v ≤ 65535 then 253 :: beBytes 2 v else if v ≤ 4294967295 then 254 :: beBytes 4 v else 255 :: beBytes 8 v

/-- 'first by a and b, then by c'. -/
def lexN (a b : Nat) (c : Int) : Int := if a < b then -1 else if b < a then 1 else c

theorem toNat_mod (v : Nat) (h : v < 256) : v.toUInt8.toNat = v := by
  simp [Nat.toUInt8, UInt8.toNat_ofNat']; omega

theorem be_succ (k v : Nat) : beBytes (k + 1) v = beBytes k (v / 256) ++ [(v % 256).toUInt8] := by
  simp [beBytes, leBytes]

theorem cmp_be : ∀ (k a b : Nat) (x y : List UInt8), a < 256 ^ k → b < 256 ^ k → cmpL (beBytes k a ++ x) (beBytes k b ++ y) = lexN a b (cmpL x y)
  | 0, a, b, x, y, ha, hb => by
    have : a = b := by simp at ha hb; omega
    subst this
    simp [lexN, beBytes, leBytes]
  | k + 1, a, b, x, y, ha, hb => by
    rw [Nat.pow_succ] at ha hb
    rw [be_succ, be_succ, List.append_assoc, List.append_assoc, cmp_be k (a / 256) (b / 256) _ _ (by omega) (by omega)]
    simp only [List.cons_append, List.nil_append, cmpL]
    rw [toNat_mod _ (by omega), toNat_mod _ (by omega)]
    unfold lexN
    repeat' split
    all_goals first | rfl | omega

theorem cmp_vnum (a b : Nat) (x y : List UInt8) (ha : a < 18446744073709551616) (hb : b < 18446744073709551616) :
    cmpL (vnum a ++ x) (vnum b ++ y) = lexN a b (cmpL x y) := by
  unfold vnum
  by_cases a1 : a < 253
  · rw [if_pos a1]
    by_cases b1 : b < 253
    · rw [if_pos b1]
      simp only [List.cons_append, List.nil_append, cmpL]
      rw [toNat_mod _ (by omega), toNat_mod _ (by omega)]
      rfl
    · rw [if_neg b1]
      have hl : lexN a b (cmpL x y) = -1 := by unfold lexN; rw [if_pos (by omega)]
      rw [hl]
      split
      · simp only [List.cons_append, List.nil_append, cmpL]
        rw [toNat_mod _ (by omega), if_pos (show a < (253 : UInt8).toNat from a1)]
      · split
        · simp only [List.cons_append, List.nil_append, cmpL]
          rw [toNat_mod _ (by omega), if_pos (show a < (254 : UInt8).toNat from Nat.lt_trans a1 (by decide))]
        · simp only [List.cons_append, List.nil_append, cmpL]
          rw [toNat_mod _ (by omega), if_pos (show a < (255 : UInt8).toNat from Nat.lt_trans a1 (by decide))]
  · rw [if_neg a1]
    by_cases b1 : b < 253
    · rw [if_pos b1]
      have hl : lexN a b (cmpL x y) = 1 := by unfold lexN; rw [if_neg (by omega), if_pos (by omega)]
      rw [hl]
      split
      · simp only [List.cons_append, List.nil_append, cmpL]
        rw [toNat_mod _ (by omega), if_neg (by show ¬ (253 : UInt8).toNat < b; have : (253 : UInt8).toNat = 253 := rfl; omega), if_pos (show b < (253 : UInt8).toNat from b1)]
      · split
        · simp only [List.cons_append, List.nil_append, cmpL]
          rw [toNat_mod _ (by omega), if_neg (by show ¬ (254 : UInt8).toNat < b; have : (254 : UInt8).toNat = 254 := rfl; omega), if_pos (show b < (254 : UInt8).toNat from Nat.lt_trans b1 (by decide))]
        · simp only [List.cons_append, List.nil_append, cmpL]
          rw [toNat_mod _ (by omega), if_neg (by show ¬ (255 : UInt8).toNat < b; have : (255 : UInt8).toNat = 255 := rfl; omega), if_pos (show b < (255 : UInt8).toNat from Nat.lt_trans b1 (by decide))]
    · rw [if_neg b1]
      by_cases a2 : a ≤ 65535
      · rw [if_pos a2]
        by_cases b2 : b ≤ 65535
        · rw [if_pos b2, List.cons_append, List.cons_append, cmpL, if_neg (Nat.lt_irrefl _), if_neg (Nat.lt_irrefl _)]
          exact cmp_be 2 a b x y (by omega) (by omega)
        · rw [if_neg b2]
          have hl : lexN a b (cmpL x y) = -1 := by unfold lexN; rw [if_pos (by omega)]
          rw [hl]
          split
          · rw [List.cons_append, List.cons_append, cmpL, if_pos (by decide)]
          · rw [List.cons_append, List.cons_append, cmpL, if_pos (by decide)]
      · rw [if_neg a2]
        by_cases b2 : b ≤ 65535
        · rw [if_pos b2]
          have hl : lexN a b (cmpL x y) = 1 := by unfold lexN; rw [if_neg (by omega), if_pos (by omega)]
          rw [hl]
          split
          · rw [List.cons_append, List.cons_append, cmpL, if_neg (by decide), if_pos (by decide)]
          · rw [List.cons_append, List.cons_append, cmpL, if_neg (by decide), if_pos (by decide)]
        · rw [if_neg b2]
          by_cases a3 : a ≤ 4294967295
          · rw [if_pos a3]
            by_cases b3 : b ≤ 4294967295
            · rw [if_pos b3, List.cons_append, List.cons_append, cmpL, if_neg (Nat.lt_irrefl _), if_neg (Nat.lt_irrefl _)]
              exact cmp_be 4 a b x y (by omega) (by omega)
            · rw [if_neg b3]
              have hl : lexN a b (cmpL x y) = -1 := by unfold lexN; rw [if_pos (by omega)]
              rw [hl, List.cons_append, List.cons_append, cmpL, if_pos (by decide)]
          · rw [if_neg a3]
            by_cases b3 : b ≤ 4294967295
            · rw [if_pos b3]
              have hl : lexN a b (cmpL x y) = 1 := by unfold lexN; rw [if_neg (by omega), if_pos (by omega)]
              rw [hl, List.cons_append, List.cons_append, cmpL, if_neg (by decide), if_pos (by decide)]
            · rw [if_neg b3, List.cons_append, List.cons_append, cmpL, if_neg (Nat.lt_irrefl _), if_neg (Nat.lt_irrefl _)]
              exact cmp_be 8 a b x y (by omega) (by omega)

/-- THE LAW. -/
theorem keeps (t1 l1 t2 l2 : Nat) (h1 : t1 < 18446744073709551616) (h2 : l1 < 18446744073709551616) (h3 : t2 < 18446744073709551616) (h4 : l2 < 18446744073709551616) :
    cmpL (vnum t1 ++ vnum l1) (vnum t2 ++ vnum l2) = lexN t1 t2 (cmpN l1 l2) := by
  rw [cmp_vnum t1 t2 _ _ h1 h3]
  have := cmp_vnum l1 l2 [] [] h2 h4
  rw [List.append_nil, List.append_nil] at this
  rw [this]
  rfl

theorem vnum_length (v : Nat) : 1 ≤ (vnum v).length ∧ (vnum v).length ≤ 9 := by
  unfold vnum
  repeat' split
  all_goals simp [beBytes_length]

/-! what the loop of cmpBytes uses -/
theorem cmp_drop (x y : List UInt8) (k : Nat) (hx : k < x.length) (hy : k < y.length) :
    cmpL (x.drop k) (y.drop k) = if x[k].toNat < y[k].toNat then -1 else if y[k].toNat < x[k].toNat then 1 else cmpL (x.drop (k + 1)) (y.drop (k + 1)) := by
  rw [List.drop_eq_getElem_cons hx, List.drop_eq_getElem_cons hy, cmpL]

theorem cmp_end (x y : List UInt8) (k : Nat) (h : x.length ≤ k ∨ y.length ≤ k) (hk : k ≤ x.length ∧ k ≤ y.length) : cmpL (x.drop k) (y.drop k) = cmpN x.length y.length := by
  unfold cmpN
  rcases Nat.lt_trichotomy x.length y.length with hl | hl | hl
  · have : x.drop k = [] := List.drop_eq_nil_of_le (by omega)
    rw [this, List.drop_eq_getElem_cons (by omega), cmpL, if_pos hl]
  · have e1 : x.drop k = [] := List.drop_eq_nil_of_le (by omega)
    have e2 : y.drop k = [] := List.drop_eq_nil_of_le (by omega)
    rw [e1, e2, cmpL, if_neg (by omega), if_neg (by omega)]
  · have : y.drop k = [] := List.drop_eq_nil_of_le (by omega)
    rw [this, List.drop_eq_getElem_cons (by omega), cmpL, if_neg (by omega), if_pos hl]

end Go.Proofs.Qxb6616613a.Plain
