namespace Go.Proofs.Qxb6003727a.Lev

def step (x : Int) (f : List Int → Nat) : List Int → Nat
  | [] => f [] + 1
  | y :: ys => min (f ys + if x = y then 0 else 1) (min (f (y :: ys) + 1) (step x f ys + 1))

/-- The edit distance, by its definition over suffixes. -/
def lev : List Int → List Int → Nat
  | [] => fun ys => ys.length
  | x :: xs => step x (lev xs)

theorem lev_nil (ys : List Int) : lev [] ys = ys.length := rfl
theorem lev_cons_nil (x : Int) (xs : List Int) : lev (x :: xs) [] = lev xs [] + 1 := rfl
theorem lev_to_nil (xs : List Int) : lev xs [] = xs.length := by
  induction xs with
  | nil => rfl
  | cons x xs ih => rw [lev_cons_nil, ih]; rfl
theorem lev_cons (x y : Int) (xs ys : List Int) :
    lev (x :: xs) (y :: ys) = min (lev xs ys + if x = y then 0 else 1) (min (lev xs (y :: ys) + 1) (lev (x :: xs) ys + 1)) := rfl

theorem lev_left (x : Int) (xs ys : List Int) : lev (x :: xs) ys ≤ lev xs ys + 1 := by
  cases ys with
  | nil => rw [lev_cons_nil]; omega
  | cons y ys => rw [lev_cons]; omega
theorem lev_right (y : Int) (xs ys : List Int) : lev xs (y :: ys) ≤ lev xs ys + 1 := by
  cases xs with
  | nil => rw [lev_nil, lev_nil]; simp
  | cons x xs => rw [lev_cons]; omega
theorem lev_both (x y : Int) (xs ys : List Int) : lev (x :: xs) (y :: ys) ≤ lev xs ys + if x = y then 0 else 1 := by
  rw [lev_cons]; omega

/-! ### alignments -/
def lf (l : List (Option Int × Option Int)) : List Int := l.filterMap (fun p => p.1)
def rt (l : List (Option Int × Option Int)) : List Int := l.filterMap (fun p => p.2)
def cost : List (Option Int × Option Int) → Nat
  | [] => 0
  | p :: l => (if p.1 = p.2 then 0 else 1) + cost l

theorem lev_le_cost : ∀ l, lev (lf l) (rt l) ≤ cost l
  | [] => by simp [lf, rt, lev, cost]
  | (a, b) :: l => by
    have ih := lev_le_cost l
    cases a with
    | none =>
      cases b with
      | none => simpa [lf, rt, cost] using ih
      | some y =>
        have h := lev_right y (lf l) (rt l)
        simp only [lf, rt, cost, List.filterMap_cons] at h ih ⊢
        simp
        omega
    | some x =>
      cases b with
      | none =>
        have h := lev_left x (lf l) (rt l)
        simp only [lf, rt, cost, List.filterMap_cons] at h ih ⊢
        simp
        omega
      | some y =>
        have h := lev_both x y (lf l) (rt l)
        simp only [lf, rt, cost, List.filterMap_cons] at h ih ⊢
        simp only [Option.some.injEq]
        omega

theorem only_right : ∀ ys : List Int, ∃ l, lf l = [] ∧ rt l = ys ∧ cost l = ys.length
  | [] => ⟨[], rfl, rfl, rfl⟩
  | y :: ys => by
    obtain ⟨l, h1, h2, h3⟩ := only_right ys
    refine ⟨(none, some y) :: l, ?_, ?_, ?_⟩
    · simpa [lf] using h1
    · simpa [rt] using h2
    · simp [cost, h3]; omega

theorem exists_cost : ∀ xs ys : List Int, ∃ l, lf l = xs ∧ rt l = ys ∧ cost l = lev xs ys := by
  intro xs
  induction xs with
  | nil => intro ys; exact only_right ys
  | cons x xs ih =>
    intro ys
    induction ys with
    | nil =>
      obtain ⟨l, h1, h2, h3⟩ := ih []
      refine ⟨(some x, none) :: l, ?_, ?_, ?_⟩
      · simpa [lf] using h1
      · simpa [rt] using h2
      · simp [cost, h3, lev_cons_nil]; omega
    | cons y ys ih2 =>
      have hc := lev_cons x y xs ys
      by_cases c1 : lev (x :: xs) (y :: ys) = lev xs ys + if x = y then 0 else 1
      · obtain ⟨l, h1, h2, h3⟩ := ih ys
        refine ⟨(some x, some y) :: l, ?_, ?_, ?_⟩
        · simpa [lf] using h1
        · simpa [rt] using h2
        · simp only [cost, h3, c1, Option.some.injEq]; omega
      · by_cases c2 : lev (x :: xs) (y :: ys) = lev xs (y :: ys) + 1
        · obtain ⟨l, h1, h2, h3⟩ := ih (y :: ys)
          refine ⟨(some x, none) :: l, ?_, ?_, ?_⟩
          · simpa [lf] using h1
          · simpa [rt] using h2
          · simp [cost, h3, c2]; omega
        · have c3 : lev (x :: xs) (y :: ys) = lev (x :: xs) ys + 1 := by omega
          obtain ⟨l, h1, h2, h3⟩ := ih2
          refine ⟨(none, some y) :: l, ?_, ?_, ?_⟩
          · simpa [lf] using h1
          · simpa [rt] using h2
          · simp [cost, h3, c3]; omega

theorem cost_append (l m) : cost (l ++ m) = cost l + cost m := by
  induction l with
  | nil => simp [cost]
  | cons p l ih => simp only [List.cons_append, cost, ih]; omega
theorem cost_reverse (l) : cost l.reverse = cost l := by
  induction l with
  | nil => rfl
  | cons p l ih => simp only [List.reverse_cons, cost_append, ih, cost]; omega
theorem cost_swap (l : List (Option Int × Option Int)) : cost (l.map (fun p => (p.2, p.1))) = cost l := by
  induction l with
  | nil => rfl
  | cons p l ih =>
    simp only [List.map_cons, cost, ih]
    have : (p.2 = p.1) = (p.1 = p.2) := propext ⟨Eq.symm, Eq.symm⟩
    simp only [this]

theorem rev_le (xs ys : List Int) : lev xs.reverse ys.reverse ≤ lev xs ys := by
  obtain ⟨l, rfl, rfl, h⟩ := exists_cost xs ys
  have := lev_le_cost l.reverse
  rw [cost_reverse] at this
  simp only [lf, rt, List.filterMap_reverse] at this h ⊢
  omega
theorem lev_reverse (xs ys : List Int) : lev xs.reverse ys.reverse = lev xs ys := by
  have h1 := rev_le xs ys
  have h2 := rev_le xs.reverse ys.reverse
  simp only [List.reverse_reverse] at h2
  omega
theorem symm_le (xs ys : List Int) : lev ys xs ≤ lev xs ys := by
  obtain ⟨l, rfl, rfl, h⟩ := exists_cost xs ys
  have := lev_le_cost (l.map (fun p => (p.2, p.1)))
  rw [cost_swap] at this
  simp only [lf, rt, List.filterMap_map] at this h ⊢
  have e1 : ((fun p : Option Int × Option Int => p.1) ∘ fun p : Option Int × Option Int => (p.2, p.1)) = (fun p => p.2) := rfl
  have e2 : ((fun p : Option Int × Option Int => p.2) ∘ fun p : Option Int × Option Int => (p.2, p.1)) = (fun p => p.1) := rfl
  rw [e1, e2] at this
  omega
theorem lev_symm (xs ys : List Int) : lev xs ys = lev ys xs := Nat.le_antisymm (symm_le ys xs) (symm_le xs ys)

theorem triangle_cost : ∀ l m, rt l = lf m → lev (lf l) (rt m) ≤ cost l + cost m := by
  intro l
  induction l with
  | nil =>
    intro m h
    have := lev_le_cost m
    rw [← h] at this
    simp only [lf, rt, List.filterMap_nil, cost] at this ⊢
    omega
  | cons p l ih =>
    obtain ⟨a, b⟩ := p
    intro m
    cases b with
    | none =>
      intro h
      have := ih m (by simpa [rt] using h)
      cases a with
      | none => simpa [lf, cost] using this
      | some x =>
        have h2 := lev_left x (lf l) (rt m)
        simp only [lf, rt, cost, List.filterMap_cons] at h2 this ⊢
        simp
        omega
    | some y =>
      induction m with
      | nil => intro h; simp [rt, lf] at h
      | cons q m ih2 =>
        obtain ⟨c, d⟩ := q
        intro h
        cases c with
        | none =>
          have := ih2 (by simpa [lf] using h)
          cases d with
          | none => simpa [rt, cost] using this
          | some z =>
            have h2 := lev_right z (lf ((a, some y) :: l)) (rt m)
            simp only [rt, cost, List.filterMap_cons] at h2 this ⊢
            simp
            omega
        | some y' =>
          have h' : y = y' ∧ rt l = lf m := by simpa [rt, lf] using h
          obtain ⟨rfl, hr⟩ := h'
          have := ih m hr
          clear ih2
          cases a with
          | none =>
            cases d with
            | none =>
              simp only [lf, rt, cost, List.filterMap_cons] at this ⊢
              simp
              omega
            | some z =>
              have h2 := lev_right z (lf l) (rt m)
              simp only [lf, rt, cost, List.filterMap_cons] at h2 this ⊢
              simp
              omega
          | some x =>
            cases d with
            | none =>
              have h2 := lev_left x (lf l) (rt m)
              simp only [lf, rt, cost, List.filterMap_cons] at h2 this ⊢
              simp
              omega
            | some z =>
              have h2 := lev_both x z (lf l) (rt m)
              simp only [lf, rt, cost, List.filterMap_cons] at h2 this ⊢
              simp only [Option.some.injEq]
              by_cases e1 : x = y <;> by_cases e2 : y = z <;> by_cases e3 : x = z <;> simp only [e1, e2, e3, if_true, if_false] at h2 ⊢ <;> first | omega | (subst e1; subst e2; exact absurd rfl e3) | skip

theorem lev_triangle (xs ys zs : List Int) : lev xs zs ≤ lev xs ys + lev ys zs := by
  obtain ⟨l, rfl, h2, h3⟩ := exists_cost xs ys
  obtain ⟨m, h4, rfl, h6⟩ := exists_cost ys zs
  have := triangle_cost l m (by rw [h2, h4])
  omega

theorem lev_self (xs : List Int) : lev xs xs = 0 := by
  induction xs with
  | nil => rfl
  | cons x xs ih => have := lev_both x x xs xs; simp [ih] at this; exact this
theorem eq_of_lev_zero : ∀ xs ys : List Int, lev xs ys = 0 → xs = ys
  | [], ys, h => by rw [lev_nil] at h; exact (List.eq_nil_of_length_eq_zero h).symm
  | x :: xs, [], h => by rw [lev_cons_nil] at h; omega
  | x :: xs, y :: ys, h => by
    rw [lev_cons] at h
    have h1 : (lev xs ys + if x = y then 0 else 1) = 0 := by omega
    by_cases e : x = y
    · subst e
      rw [eq_of_lev_zero xs ys (by omega)]
    · simp [e] at h1
theorem lev_zero (xs ys : List Int) : lev xs ys = 0 ↔ xs = ys := ⟨eq_of_lev_zero xs ys, fun h => by subst h; exact lev_self _⟩

theorem len_le_lev : ∀ xs ys : List Int, ys.length ≤ lev xs ys + xs.length
  | [], ys => by simp [lev_nil]
  | x :: xs, [] => by simp
  | x :: xs, y :: ys => by
    have h1 := len_le_lev xs ys
    have h2 := len_le_lev xs (y :: ys)
    have h3 := len_le_lev (x :: xs) ys
    rw [lev_cons]
    simp only [List.length_cons] at h1 h2 h3 ⊢
    by_cases e : x = y
    · rw [if_pos e]; omega
    · rw [if_neg e]; omega
theorem lev_le_max : ∀ xs ys : List Int, lev xs ys ≤ max xs.length ys.length
  | [], ys => by simp [lev_nil]
  | x :: xs, [] => by rw [lev_to_nil]; simp
  | x :: xs, y :: ys => by
    have h1 := lev_le_max xs ys
    have h2 := lev_both x y xs ys
    simp only [List.length_cons]
    by_cases e : x = y
    · rw [if_pos e] at h2; omega
    · rw [if_neg e] at h2; omega

/-- The number of places at which two texts differ. -/
def ham : List Int → List Int → Nat
  | x :: xs, y :: ys => (if x = y then 0 else 1) + ham xs ys
  | _, _ => 0
theorem lev_le_ham : ∀ xs ys : List Int, xs.length = ys.length → lev xs ys ≤ ham xs ys
  | [], [], _ => by simp [lev_nil]
  | [], y :: ys, h => by simp at h
  | x :: xs, [], h => by simp at h
  | x :: xs, y :: ys, h => by
    have h1 := lev_le_ham xs ys (by simpa using h)
    have h2 := lev_both x y xs ys
    simp only [ham]
    omega

theorem lev_cons_same (x : Int) (xs ys : List Int) : lev (x :: xs) (x :: ys) = lev xs ys := by
  have h1 := lev_both x x xs ys
  have h2 := lev_triangle xs (x :: xs) ys
  have h3 := lev_triangle (x :: xs) (x :: ys) ys
  have h4 := lev_cons x x xs ys
  have h5 := lev_triangle xs (x :: ys) ys
  have h6 := lev_left x ys ys
  have h7 := lev_right x xs xs
  rw [lev_self] at h6 h7
  simp only [if_true] at h1 h4
  omega
theorem lev_prefix (p xs ys : List Int) : lev (p ++ xs) (p ++ ys) = lev xs ys := by
  induction p with
  | nil => rfl
  | cons x p ih => rw [List.cons_append, List.cons_append, lev_cons_same, ih]
theorem lev_suffix (s xs ys : List Int) : lev (xs ++ s) (ys ++ s) = lev xs ys := by
  rw [← lev_reverse, List.reverse_append, List.reverse_append, lev_prefix, lev_reverse]
theorem lev_affixes (p xs ys s : List Int) : lev (p ++ xs ++ s) (p ++ ys ++ s) = lev xs ys := by
  rw [lev_suffix, lev_prefix]
theorem lev_append (xs s : List Int) : lev xs (xs ++ s) = s.length := by
  have := lev_prefix xs [] s
  rwa [List.append_nil, lev_nil] at this

/-! ### the table, row by row -/
/-- The table's entry: the distance of the first i and the first j. -/
def tab (xs ys : List Int) (i j : Nat) : Nat := lev (xs.take i).reverse (ys.take j).reverse

theorem take_rev (xs : List Int) (i : Nat) (h : i < xs.length) : (xs.take (i + 1)).reverse = xs[i] :: (xs.take i).reverse := by
  rw [List.take_succ_eq_append_getElem h]; simp
theorem tab_zero_left (xs ys : List Int) (j : Nat) (h : j ≤ ys.length) : tab xs ys 0 j = j := by
  simp [tab, lev_nil]; omega
theorem tab_zero_right (xs ys : List Int) (i : Nat) (h : i ≤ xs.length) : tab xs ys i 0 = i := by
  simp [tab, lev_to_nil]; omega
theorem tab_succ (xs ys : List Int) (i j : Nat) (hi : i < xs.length) (hj : j < ys.length) :
    tab xs ys (i + 1) (j + 1) = min (tab xs ys i j + if xs[i] = ys[j] then 0 else 1) (min (tab xs ys i (j + 1) + 1) (tab xs ys (i + 1) j + 1)) := by
  unfold tab
  rw [take_rev xs i hi, take_rev ys j hj, lev_cons]
theorem tab_full (xs ys : List Int) : tab xs ys xs.length ys.length = lev xs ys := by
  unfold tab
  rw [List.take_length, List.take_length, lev_reverse]
theorem tab_le (xs ys : List Int) (i j : Nat) : tab xs ys i j ≤ i + j := by
  have := lev_le_max (xs.take i).reverse (ys.take j).reverse
  have h1 := List.length_take_le i xs
  have h2 := List.length_take_le j ys
  unfold tab
  simp only [List.length_reverse] at this
  omega
end Go.Proofs.Qxb6003727a.Lev
