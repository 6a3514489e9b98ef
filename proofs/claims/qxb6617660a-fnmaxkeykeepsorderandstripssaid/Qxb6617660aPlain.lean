/-
  THE PLAIN LAW OF THE SEAT b6617660a: a bytewise comparison over lists of numbers; a common prefix strikes out.
-/
namespace Go.Proofs.Qxb6617660a.Plain

/-- The comparison, element by element. -/
def cmpL : List Int → List Int → Int
  | [], [] => 0
  | [], _ :: _ => -1
  | _ :: _, [] => 1
  | a :: x, b :: y => if a < b then -1 else if b < a then 1 else cmpL x y

def cmpN (a b : Nat) : Int := if a < b then -1 else if b < a then 1 else 0

theorem cmp_prefix : ∀ (p x y : List Int), cmpL (p ++ x) (p ++ y) = cmpL x y
  | [], x, y => rfl
  | a :: p, x, y => by
    rw [List.cons_append, List.cons_append, cmpL, if_neg (Int.lt_irrefl _), if_neg (Int.lt_irrefl _)]
    exact cmp_prefix p x y

theorem cmp_drop (x y : List Int) (k : Nat) (hx : k < x.length) (hy : k < y.length) :
    cmpL (x.drop k) (y.drop k) = if x[k] < y[k] then -1 else if y[k] < x[k] then 1 else cmpL (x.drop (k + 1)) (y.drop (k + 1)) := by
  rw [List.drop_eq_getElem_cons hx, List.drop_eq_getElem_cons hy, cmpL]

theorem cmp_end (x y : List Int) (k : Nat) (h : x.length ≤ k ∨ y.length ≤ k) (hk : k ≤ x.length ∧ k ≤ y.length) : cmpL (x.drop k) (y.drop k) = cmpN x.length y.length := by
  unfold cmpN
  rcases Nat.lt_trichotomy x.length y.length with hl | hl | hl
  · have : x.drop k = [] := List.drop_eq_nil_of_le (by omega)
    rw [this, List.drop_eq_getElem_cons (by omega), cmpL, if_pos hl]
  · have e1 : x.drop k = [] := List.drop_eq_nil_of_le (by omega)
    have e2 : y.drop k = [] := List.drop_eq_nil_of_le (by omega)
    rw [e1, e2, cmpL, if_neg (by omega), if_neg (by omega)]
  · have : y.drop k = [] := List.drop_eq_nil_of_le (by omega)
    rw [this, List.drop_eq_getElem_cons (by omega), cmpL, if_neg (by omega), if_pos hl]

/-- The prefix of every max key. -/
def pfx : List Int := [0, 109, 97, 120, 0]

end Go.Proofs.Qxb6617660a.Plain
