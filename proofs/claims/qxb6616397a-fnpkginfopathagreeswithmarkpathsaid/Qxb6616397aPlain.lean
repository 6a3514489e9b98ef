/-
  THE PLAIN LAW OF THE SEAT b6616397a: path.Join below a rooted base, over lists of bytes; no Go in sight.
-/
import Derived.Lib.CleanSame
import Derived.Lib.JoinSame2
namespace Go.Proofs.Qxb6616397a.Plain
open Go.Lib.Pa

/-- 'a slash ahead of each element'. -/
def sl (D : List (List UInt8)) : List UInt8 := D.flatMap (fun e => 47 :: e)

/-- The rooted path of the elements D. -/
def render (D : List (List UInt8)) : List UInt8 := 47 :: ([47] : List UInt8).intercalate D

/-- An element that Clean keeps as it is. -/
def Good (e : List UInt8) : Prop := 47 ∉ e ∧ e ≠ [] ∧ e ≠ [46] ∧ e ≠ [46, 46]

def base : List UInt8 := [47, 118, 97, 114, 47, 115, 97, 100, 109, 47, 112, 107, 103]
def info : List UInt8 := [112, 107, 103, 105, 110, 102, 111]
def mark : List UInt8 := [33, 73, 45, 76, 111, 99, 107, 33]

/-- The kept elements of the base and x, the last first. -/
def stk (x : List UInt8) : List (List UInt8) := (els (base ++ 47 :: x)).foldl (cleanStep true) []
def elems (x : List UInt8) : List (List UInt8) := (stk x).reverse
def dirL (x : List UInt8) : List UInt8 := render (elems x)

theorem good_info : Good info := by unfold Good info; decide
theorem good_mark : Good mark := by unfold Good mark; decide

theorem els_noslash : ∀ (l : List UInt8) (e : List UInt8), e ∈ els l → 47 ∉ e
  | [], e, h => by
    simp [els] at h; subst h; simp
  | c :: t, e, h => by
    have ih := els_noslash t
    by_cases hc : c = 47
    · subst hc
      rw [els_slash] at h
      rcases List.mem_cons.1 h with rfl | h
      · simp
      · exact ih e h
    · obtain ⟨a, r, har⟩ := els_ne t
      rw [els, if_neg hc, har] at h
      rw [har] at ih
      rcases List.mem_cons.1 h with rfl | h
      · intro hm
        rcases List.mem_cons.1 hm with h1 | h1
        · exact hc h1.symm
        · exact ih a (by simp) h1
      · exact ih e (by simp [h])

theorem step_good (st : List (List UInt8)) (e : List UInt8) (hs : ∀ x ∈ st, Good x) (he : 47 ∉ e) : ∀ x ∈ cleanStep true st e, Good x := by
  unfold cleanStep
  by_cases h1 : e = [] ∨ e = [46]
  · rw [if_pos h1]; exact hs
  · rw [if_neg h1]
    by_cases h2 : e = [46, 46]
    · rw [if_pos h2]
      cases st with
      | nil => simp
      | cons a r =>
        have ha := hs a (by simp)
        simp only [ha.2.2.2, if_false]
        intro x hx
        exact hs x (by simp [hx])
    · rw [if_neg h2]
      intro x hx
      rcases List.mem_cons.1 hx with rfl | hx
      · exact ⟨he, fun h => h1 (Or.inl h), fun h => h1 (Or.inr h), h2⟩
      · exact hs x hx

theorem fold_good : ∀ (es st : List (List UInt8)), (∀ x ∈ st, Good x) → (∀ e ∈ es, 47 ∉ e) → ∀ x ∈ es.foldl (cleanStep true) st, Good x
  | [], st, hs, _ => hs
  | e :: es, st, hs, he => fold_good es (cleanStep true st e) (step_good st e hs (he e (by simp))) (fun y hy => he y (by simp [hy]))

theorem elems_good (x : List UInt8) : ∀ e ∈ elems x, Good e := by
  intro e he
  exact fold_good _ [] (by simp) (els_noslash _) e (by simpa [elems, stk] using he)

theorem fold_keep : ∀ (D st : List (List UInt8)), (∀ e ∈ D, Good e) → D.foldl (cleanStep true) st = D.reverse ++ st
  | [], st, _ => rfl
  | e :: D, st, h => by
    have he := h e (by simp)
    rw [List.foldl_cons, step_elem true st e he.2.1 he.2.2.1 he.2.2.2, fold_keep D _ (fun y hy => h y (by simp [hy]))]
    simp

theorem els_one (e : List UInt8) (h : 47 ∉ e) : els e = [e] := by
  have := els_elem e [] h (Or.inl rfl)
  rw [List.append_nil] at this
  rw [this]; rfl

theorem els_sl_cons (n : List UInt8) (hn : 47 ∉ n) : ∀ (D : List (List UInt8)), (∀ e ∈ D, 47 ∉ e) → els (sl D ++ 47 :: n) = [] :: (D ++ [n])
  | [], _ => by simp [sl, els_slash, els_one n hn]
  | e :: D, h => by
    have he := h e (by simp)
    have ih := els_sl_cons n hn D (fun y hy => h y (by simp [hy]))
    have e1 : sl (e :: D) ++ 47 :: n = 47 :: (e ++ (sl D ++ 47 :: n)) := by simp [sl]
    rw [e1, els_slash]
    cases D with
    | nil =>
      have : els (e ++ 47 :: n) = els e ++ els n := els_app e n
      simp only [sl, List.flatMap_nil, List.nil_append]
      rw [this, els_one e he, els_one n hn, List.cons_append, List.nil_append]
    | cons d D' =>
      have e2 : sl (d :: D') ++ 47 :: n = 47 :: (d ++ (sl D' ++ 47 :: n)) := by simp [sl]
      rw [e2, els_slash] at ih
      rw [e2, els_app, els_one e he, (List.cons.inj ih).2]
      simp

theorem render_snoc (n : List UInt8) : ∀ D : List (List UInt8), render (D ++ [n]) = sl D ++ 47 :: n
  | [] => by simp [render, sl]
  | [e] => by simp [render, sl]
  | e :: d :: D => by
    have ih := render_snoc n (d :: D)
    unfold render at ih ⊢
    simp only [List.cons_append, J_cons] at ih ⊢
    simp only [sl, List.flatMap_cons, List.cons_append, List.append_assoc] at ih ⊢
    rw [ih]

theorem snoc_cases (D : List (List UInt8)) : D = [] ∨ ∃ D' n, D = D' ++ [n] := by
  rcases List.eq_nil_or_concat D with h | ⟨D', n, h⟩
  · exact Or.inl h
  · exact Or.inr ⟨D', n, by rw [h, List.concat_eq_append]⟩

theorem render_eq (D : List (List UInt8)) : D = [] ∨ render D = sl D := by
  rcases snoc_cases D with h | ⟨D', n, h⟩
  · exact Or.inl h
  · right
    rw [h, render_snoc]
    simp [sl]

/-- The elements of a path that bears a slash ahead of each kept element come back as they were. -/
theorem fold_sl (D : List (List UInt8)) (h : ∀ e ∈ D, Good e) : (els (sl D)).foldl (cleanStep true) [] = D.reverse := by
  rcases snoc_cases D with rfl | ⟨D', n, rfl⟩
  · simp [sl, els, step_nil]
  · have e1 : sl (D' ++ [n]) = sl D' ++ 47 :: n := by simp [sl]
    rw [e1, els_sl_cons n (h n (by simp)).1 D' (fun e he => (h e (by simp [he])).1), List.foldl_cons, step_nil, fold_keep _ _ h]
    simp

theorem cleanEls_47 (t : List UInt8) : cleanEls (47 :: t) = render ((els (47 :: t)).foldl (cleanStep true) []).reverse :=
  cleanEls_abs _ (by simp) (by simp)

theorem join_dir (x : List UInt8) : join [base, x] = dirL x := by
  have hb : base ≠ [] := by unfold base; simp
  unfold join dirL elems stk
  by_cases hx : x = []
  · subst hx
    have e : [base, []].filter (· ≠ []) = [base] := by simp [hb]
    rw [e, if_neg (by simp), J_one, clean_eq_cleanEls]
    have e2 : els (base ++ [47]) = els base ++ els [] := els_app base []
    rw [e2, List.foldl_append]
    simp only [els, List.foldl_cons, List.foldl_nil, step_nil]
    exact cleanEls_47 _
  · have e : [base, x].filter (· ≠ []) = [base, x] := by simp [hb, hx]
    rw [e, if_neg (by simp), J_cons, J_one, clean_eq_cleanEls]
    exact cleanEls_47 _

theorem join_name (D : List (List UInt8)) (n : List UInt8) (hD : ∀ e ∈ D, Good e) (hn : Good n) : join [render D, n] = sl D ++ 47 :: n := by
  have hr : render D ≠ [] := by unfold render; simp
  unfold join
  have e : [render D, n].filter (· ≠ []) = [render D, n] := by simp [hr, hn.2.1]
  rw [e, if_neg (by simp), J_cons, J_one, clean_eq_cleanEls]
  have hall : ∀ e ∈ D ++ [n], Good e := by
    intro e he
    rcases List.mem_append.1 he with h | h
    · exact hD e h
    · simp at h; subst h; exact hn
  have hf : (els (render D ++ 47 :: n)).foldl (cleanStep true) [] = (D ++ [n]).reverse := by
    rcases render_eq D with h0 | h0
    · subst h0
      have : render [] ++ 47 :: n = 47 :: 47 :: n := by simp [render, List.intercalate]
      rw [this, els_slash, els_slash, els_one n hn.1]
      simp [step_nil, step_elem true [] n hn.2.1 hn.2.2.1 hn.2.2.2]
    · rw [h0]
      have := fold_sl (D ++ [n]) hall
      rwa [show sl (D ++ [n]) = sl D ++ 47 :: n by simp [sl]] at this
  have hh : render D ++ 47 :: n = 47 :: (([47] : List UInt8).intercalate D ++ 47 :: n) := by simp [render]
  rw [hh] at hf ⊢
  rw [cleanEls_47, hf, List.reverse_reverse, render_snoc]

/-! the lengths -/
def ms (D : List (List UInt8)) : Nat := (D.map (fun e => e.length + 1)).sum

theorem ms_step (st : List (List UInt8)) (e : List UInt8) : ms (cleanStep true st e) ≤ ms st + (e.length + 1) := by
  unfold cleanStep
  split
  · omega
  · split
    · cases st with
      | nil => simp [ms]
      | cons a r =>
        dsimp only
        split
        · simp [ms]; omega
        · simp [ms]; omega
    · simp [ms]; omega

theorem ms_fold : ∀ (es st : List (List UInt8)), ms (es.foldl (cleanStep true) st) ≤ ms st + ms es
  | [], st => by simp [ms]
  | e :: es, st => by
    have h1 := ms_fold es (cleanStep true st e)
    have h2 := ms_step st e
    have h3 : ms (e :: es) = (e.length + 1) + ms es := by simp [ms]
    rw [List.foldl_cons]
    omega

theorem ms_els : ∀ l : List UInt8, ms (els l) = l.length + 1
  | [] => by simp [els, ms]
  | c :: t => by
    have ih := ms_els t
    by_cases hc : c = 47
    · subst hc
      rw [els_slash]
      simp [ms] at ih ⊢
      omega
    · obtain ⟨a, r, har⟩ := els_ne t
      rw [har] at ih
      rw [els, if_neg hc, har]
      simp [ms] at ih ⊢
      omega

theorem len_sl : ∀ D : List (List UInt8), (sl D).length = ms D
  | [] => rfl
  | e :: D => by
    have := len_sl D
    simp [sl, ms] at this ⊢
    omega

theorem ms_reverse (D : List (List UInt8)) : ms D.reverse = ms D := by
  simp [ms, List.sum_reverse]

theorem ms_elems (x : List UInt8) : ms (elems x) ≤ x.length + 15 := by
  unfold elems stk
  rw [ms_reverse]
  have := ms_fold (els (base ++ 47 :: x)) []
  rw [ms_els] at this
  simp [ms, base] at this ⊢
  omega

theorem len_dirL (x : List UInt8) : (dirL x).length ≤ x.length + 16 := by
  have h := ms_elems x
  unfold dirL
  rcases render_eq (elems x) with h0 | h0
  · rw [h0]; simp [render, List.intercalate]
  · rw [h0, len_sl]; omega

/-- What pkginfoPath and markPath give: the directory's elements, a slash ahead of each, then the file's name. -/
def fileL (n x : List UInt8) : List UInt8 := sl (elems x) ++ 47 :: n

theorem join_info (x : List UInt8) : join [dirL x, info] = fileL info x := join_name _ _ (elems_good x) good_info
theorem join_mark (x : List UInt8) : join [dirL x, mark] = fileL mark x := join_name _ _ (elems_good x) good_mark

theorem len_fileL (n x : List UInt8) : (fileL n x).length ≤ x.length + n.length + 16 := by
  have h := ms_elems x
  simp only [fileL, List.length_append, List.length_cons, len_sl]
  omega

/-! the first law -/
theorem sl_head (D : List (List UInt8)) : ∃ t, sl D ++ [47] = 47 :: t := by
  cases D with
  | nil => exact ⟨[], rfl⟩
  | cons e D => exact ⟨e ++ (sl D ++ [47]), by simp [sl]⟩

theorem els_base : els base = [[], [118, 97, 114], [115, 97, 100, 109], [112, 107, 103]] := by unfold base; decide

theorem elems_plain (x : List UInt8) (h : Good x) : sl (elems x) = base ++ 47 :: x := by
  unfold elems stk
  rw [els_app, els_base, els_one x h.1]
  have e : [[], [118, 97, 114], [115, 97, 100, 109], [112, 107, 103]] ++ [x] = [] :: [[118, 97, 114], [115, 97, 100, 109], [112, 107, 103], x] := rfl
  rw [e, List.foldl_cons, step_nil, fold_keep]
  · simp [sl, base]
  · intro e he
    simp only [List.mem_cons, List.not_mem_nil, or_false] at he
    rcases he with rfl | rfl | rfl | rfl
    · unfold Good; decide
    · unfold Good; decide
    · unfold Good; decide
    · exact h

/-! the second law -/
theorem elems_slashes (x : List UInt8) : elems (47 :: x ++ [47]) = elems x := by
  unfold elems stk
  have e1 : els (base ++ 47 :: (47 :: x ++ [47])) = els base ++ ([] :: (els x ++ els [])) := by
    rw [els_app]
    congr 1
    rw [List.cons_append, els_slash]
    congr 1
    exact els_app x []
  rw [e1, els_app]
  simp [els, List.foldl_append, step_nil]

theorem elems_dot (x : List UInt8) : elems (46 :: 47 :: x) = elems x := by
  unfold elems stk
  have e1 : els (46 :: 47 :: x) = [46] :: els x := els_app [46] x
  rw [els_app, els_app, e1]
  simp [List.foldl_append, step_dot]

theorem elems_back (x r : List UInt8) (h : sl (elems x) = base ++ 47 :: r) : elems r = elems x := by
  have e : elems r = ((els (base ++ 47 :: r)).foldl (cleanStep true) []).reverse := rfl
  rw [e, ← h, fold_sl _ (elems_good x), List.reverse_reverse]

end Go.Proofs.Qxb6616397a.Plain
