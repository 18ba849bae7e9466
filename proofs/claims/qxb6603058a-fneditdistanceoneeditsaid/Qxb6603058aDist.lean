namespace Go.Proofs.Qxb6603058a

/-- Row i+1 of the table, out of rows i ('p1') and i-1 ('p2'). -/
def nextRow (A B : Nat → Nat) (p2 p1 : Nat → Nat) (i : Nat) : Nat → Nat
  | 0 => i + 1
  | j + 1 =>
    if 1 ≤ i ∧ 1 ≤ j ∧ A i = B (j - 1) ∧ A (i - 1) = B j
    then min (min (min (p1 (j + 1) + 1) (nextRow A B p2 p1 i j + 1)) (p1 j + if A i = B j then 0 else 1)) (p2 (j - 1) + 1)
    else min (min (p1 (j + 1) + 1) (nextRow A B p2 p1 i j + 1)) (p1 j + if A i = B j then 0 else 1)
def rows (A B : Nat → Nat) : Nat → (Nat → Nat) × (Nat → Nat)
  | 0 => (fun _ => 0, fun j => j)
  | i + 1 => ((rows A B i).2, nextRow A B (rows A B i).1 (rows A B i).2 i)
/-- The distance from the first i of A to the first j of B. -/
def D (A B : Nat → Nat) (i j : Nat) : Nat := (rows A B i).2 j

variable {A B : Nat → Nat}
theorem D_zero (j : Nat) : D A B 0 j = j := rfl
theorem D_col (i : Nat) : D A B i 0 = i := by cases i <;> rfl
/-- The table's entry without the swap. -/
def M (A B : Nat → Nat) (i j : Nat) : Nat := min (min (D A B i (j + 1) + 1) (D A B (i + 1) j + 1)) (D A B i j + if A i = B j then 0 else 1)
theorem D_swap {i j : Nat} (h : A (i + 1) = B j ∧ A i = B (j + 1)) : D A B (i + 2) (j + 2) = min (M A B (i + 1) (j + 1)) (D A B i j + 1) := by
  show nextRow A B _ _ (i + 1) (j + 2) = _
  unfold nextRow
  rw [if_pos ⟨by omega, by omega, by simpa using h.1, by simpa using h.2⟩]
  rfl
theorem D_plain {i j : Nat} (h : ¬ (1 ≤ i ∧ 1 ≤ j ∧ A i = B (j - 1) ∧ A (i - 1) = B j)) : D A B (i + 1) (j + 1) = M A B i j := by
  show nextRow A B _ _ i (j + 1) = _
  unfold nextRow
  rw [if_neg h]
  rfl
/-- Every entry is the plain one, or the lesser of that and the swap's. -/
theorem D_cases (A B : Nat → Nat) (i j : Nat) : D A B (i + 1) (j + 1) = M A B i j ∨ ∃ p q, i = p + 1 ∧ j = q + 1 ∧ D A B (i + 1) (j + 1) = min (M A B i j) (D A B p q + 1) := by
  by_cases h : 1 ≤ i ∧ 1 ≤ j ∧ A i = B (j - 1) ∧ A (i - 1) = B j
  · obtain ⟨p, rfl⟩ : ∃ p, i = p + 1 := ⟨i - 1, by omega⟩
    obtain ⟨q, rfl⟩ : ∃ q, j = q + 1 := ⟨j - 1, by omega⟩
    exact .inr ⟨p, q, rfl, rfl, D_swap ⟨by simpa using h.2.2.1, by simpa using h.2.2.2⟩⟩
  · exact .inl (D_plain h)
theorem D_le_M (A B : Nat → Nat) (i j : Nat) : D A B (i + 1) (j + 1) ≤ M A B i j := by
  rcases D_cases A B i j with h | ⟨p, q, _, _, h⟩ <;> omega
theorem M_le_diag (i j : Nat) : M A B i j ≤ D A B i j + 1 := by
  unfold M; split <;> omega
theorem M_le_same {i j : Nat} (h : A i = B j) : M A B i j ≤ D A B i j := by
  unfold M; rw [if_pos h]; omega
theorem M_le_left (i j : Nat) : M A B i j ≤ D A B (i + 1) j + 1 := by unfold M; omega
theorem M_le_up (i j : Nat) : M A B i j ≤ D A B i (j + 1) + 1 := by unfold M; omega

/-! ### bounds -/
theorem D_upper (A B : Nat → Nat) : ∀ i j, D A B i j ≤ max i j
  | 0, j => by rw [D_zero]; omega
  | i + 1, 0 => by rw [D_col]; omega
  | i + 1, j + 1 => by
    have h1 := D_le_M A B i j
    have h2 := M_le_diag (A := A) (B := B) i j
    have h3 := D_upper A B i j
    omega
theorem D_lower_aux (A B : Nat → Nat) : ∀ n i j, i + j ≤ n → i ≤ D A B i j + j ∧ j ≤ D A B i j + i
  | 0, i, j, h => by omega
  | n + 1, i, j, h => by
    match i, j with
    | 0, j => rw [D_zero]; omega
    | i + 1, 0 => rw [D_col]; omega
    | i + 1, j + 1 =>
      have a := D_lower_aux A B n i (j + 1) (by omega)
      have b := D_lower_aux A B n (i + 1) j (by omega)
      have c := D_lower_aux A B n i j (by omega)
      have m : M A B i j = min (min (D A B i (j + 1) + 1) (D A B (i + 1) j + 1)) (D A B i j + if A i = B j then 0 else 1) := rfl
      rcases D_cases A B i j with e | ⟨p, q, rfl, rfl, e⟩
      · rw [e, m]; split <;> omega
      · have d := D_lower_aux A B n p q (by omega)
        rw [e, m]; split <;> omega
theorem D_lower (A B : Nat → Nat) (i j : Nat) : i ≤ D A B i j + j ∧ j ≤ D A B i j + i := D_lower_aux A B _ i j (Nat.le_refl _)

/-! ### nought -/
theorem D_same : ∀ n, (∀ k, k < n → A k = B k) → D A B n n = 0
  | 0, _ => rfl
  | n + 1, h => by
    have h1 := D_le_M A B n n
    have h2 := M_le_same (A := A) (B := B) (i := n) (j := n) (h n (by omega))
    have h3 := D_same n (fun k hk => h k (by omega))
    omega
theorem D_nought : ∀ i j, D A B i j = 0 → i = j ∧ ∀ k, k < i → A k = B k
  | 0, j, h => by rw [D_zero] at h; exact ⟨h.symm, fun k hk => by omega⟩
  | i + 1, 0, h => by rw [D_col] at h; omega
  | i + 1, j + 1, h => by
    have e : M A B i j = 0 := by
      rcases D_cases A B i j with e | ⟨p, q, _, _, e⟩ <;> omega
    have m : M A B i j = min (min (D A B i (j + 1) + 1) (D A B (i + 1) j + 1)) (D A B i j + if A i = B j then 0 else 1) := rfl
    by_cases c : A i = B j
    · rw [if_pos c] at m
      obtain ⟨rfl, g⟩ := D_nought i j (by omega)
      refine ⟨rfl, fun k hk => ?_⟩
      by_cases f : k = i
      · subst f; exact c
      · exact g k (by omega)
    · rw [if_neg c] at m; omega

/-! ### equal lengths: the count of differing positions -/
def ham (A B : Nat → Nat) : Nat → Nat
  | 0 => 0
  | n + 1 => ham A B n + if A n = B n then 0 else 1
theorem ham_le (A B : Nat → Nat) : ∀ n, ham A B n ≤ n
  | 0 => Nat.le_refl _
  | n + 1 => by have := ham_le A B n; unfold ham; split <;> omega
theorem D_ham (A B : Nat → Nat) : ∀ n, D A B n n ≤ ham A B n
  | 0 => Nat.le_refl _
  | n + 1 => by
    have h1 := D_le_M A B n n
    have h2 := D_ham A B n
    unfold ham
    by_cases c : A n = B n
    · have h3 := M_le_same (A := A) (B := B) (i := n) (j := n) c
      rw [if_pos c]; omega
    · have h3 := M_le_diag (A := A) (B := B) n n
      rw [if_neg c]; omega

/-! ### one edit -/
/-- From a place on, equal pairs add nothing. -/
theorem D_along (i j : Nat) : ∀ m, (∀ k, k < m → A (i + k) = B (j + k)) → D A B (i + m) (j + m) ≤ D A B i j
  | 0, _ => Nat.le_refl _
  | m + 1, h => by
    have h1 := D_le_M A B (i + m) (j + m)
    have h2 := M_le_same (A := A) (B := B) (i := i + m) (j := j + m) (h m (by omega))
    have h3 := D_along i j m (fun k hk => h k (by omega))
    have e : D A B (i + (m + 1)) (j + (m + 1)) = D A B (i + m + 1) (j + m + 1) := rfl
    omega
theorem D_left (i j : Nat) : D A B i (j + 1) ≤ D A B i j + 1 := by
  cases i with
  | zero => rw [D_zero, D_zero]; omega
  | succ i => have h1 := D_le_M A B i j; have h2 := M_le_left (A := A) (B := B) i j; omega
theorem D_up (i j : Nat) : D A B (i + 1) j ≤ D A B i j + 1 := by
  cases j with
  | zero => rw [D_col, D_col]; omega
  | succ j => have h1 := D_le_M A B i j; have h2 := M_le_up (A := A) (B := B) i j; omega

/-- B is A with one inserted at p (n: A's length). -/
theorem D_insert (n p : Nat) (hp : p ≤ n) (h1 : ∀ k, k < p → A k = B k) (h2 : ∀ k, p ≤ k → k < n → A k = B (k + 1)) : D A B n (n + 1) = 1 := by
  have a := D_same (A := A) (B := B) p h1
  have b := D_left (A := A) (B := B) p p
  have c := D_along (A := A) (B := B) p (p + 1) (n - p) (fun k hk => by rw [h2 (p + k) (by omega) (by omega)]; congr 1; omega)
  have e1 : p + (n - p) = n := by omega
  have e2 : p + 1 + (n - p) = n + 1 := by omega
  rw [e1, e2] at c
  have l := D_lower A B n (n + 1)
  omega
/-- A is B with one inserted at p (n: B's length). -/
theorem D_delete (n p : Nat) (hp : p ≤ n) (h1 : ∀ k, k < p → A k = B k) (h2 : ∀ k, p ≤ k → k < n → A (k + 1) = B k) : D A B (n + 1) n = 1 := by
  have a := D_same (A := A) (B := B) p h1
  have b := D_up (A := A) (B := B) p p
  have c := D_along (A := A) (B := B) (p + 1) p (n - p) (fun k hk => by rw [← h2 (p + k) (by omega) (by omega)]; congr 1; omega)
  have e1 : p + (n - p) = n := by omega
  have e2 : p + 1 + (n - p) = n + 1 := by omega
  rw [e1, e2] at c
  have l := D_lower A B (n + 1) n
  omega
theorem D_differ (n p : Nat) (hp : p < n) (h : A p ≠ B p) : 1 ≤ D A B n n := by
  by_cases c : D A B n n = 0
  · exact absurd ((D_nought n n c).2 p hp) h
  · omega
/-- They part at p alone. -/
theorem D_subst (n p : Nat) (hp : p < n) (h : A p ≠ B p) (h1 : ∀ k, k < n → k ≠ p → A k = B k) : D A B n n = 1 := by
  have l := D_differ (A := A) (B := B) n p hp h
  have a := D_same (A := A) (B := B) p (fun k hk => h1 k (by omega) (by omega))
  have b := D_le_M A B p p
  have b2 := M_le_diag (A := A) (B := B) p p
  have c := D_along (A := A) (B := B) (p + 1) (p + 1) (n - (p + 1)) (fun k hk => h1 _ (by omega) (by omega))
  have e1 : p + 1 + (n - (p + 1)) = n := by omega
  rw [e1] at c
  omega
/-- Two neighbours that differ have changed places. -/
theorem D_swapped (n p : Nat) (hp : p + 1 < n) (h : A p ≠ B p) (h0 : A (p + 1) = B p) (h2 : A p = B (p + 1)) (h1 : ∀ k, k < n → k ≠ p → k ≠ p + 1 → A k = B k) : D A B n n = 1 := by
  have l := D_differ (A := A) (B := B) n p (by omega) h
  have a := D_same (A := A) (B := B) p (fun k hk => h1 k (by omega) (by omega) (by omega))
  have b := D_swap (A := A) (B := B) (i := p) (j := p) ⟨h0, h2⟩
  have c := D_along (A := A) (B := B) (p + 2) (p + 2) (n - (p + 2)) (fun k hk => h1 _ (by omega) (by omega) (by omega))
  have e1 : p + 2 + (n - (p + 2)) = n := by omega
  rw [e1] at c
  omega

end Go.Proofs.Qxb6603058a
