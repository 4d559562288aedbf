namespace Go.Proofs.Qxb6602252aMods.Sq
set_option linter.unusedVariables false
set_option linter.unusedSimpArgs false

/-- What a reader of a single-quoted scalar answers on the bytes that are left, with what it has read so far and where it stands. -/
def R : List Int → List Int → Nat → Option (List Int × Nat)
  | [], _, _ => none
  | [c], acc, pos => if c = 39 then some (acc, pos + 1) else none
  | c :: d :: t, acc, pos => if c = 39 then (if d = 39 then R t (acc ++ [39]) (pos + 2) else some (acc, pos + 1)) else R (d :: t) (acc ++ [c]) (pos + 1)

theorem R_nil (acc : List Int) (pos : Nat) : R [] acc pos = none := by simp [R]
theorem R_last (acc : List Int) (pos : Nat) : R [39] acc pos = some (acc, pos + 1) := by simp [R]
theorem R_plain (c : Int) (t acc : List Int) (pos : Nat) (h : c ≠ 39) : R (c :: t) acc pos = R t (acc ++ [c]) (pos + 1) := by
  cases t <;> simp [R, h]
theorem R_twice (t acc : List Int) (pos : Nat) : R (39 :: 39 :: t) acc pos = R t (acc ++ [39]) (pos + 2) := by simp [R]
theorem R_ends (d : Int) (t acc : List Int) (pos : Nat) (h : d ≠ 39) : R (39 :: d :: t) acc pos = some (acc, pos + 1) := by simp [R, h]

/-- Quoting: each quote doubled. -/
def q : List Int → List Int
  | [] => []
  | c :: t => if c = 39 then 39 :: 39 :: q t else c :: q t

theorem R_q (l s acc : List Int) (pos : Nat) (hs : s.head? ≠ some 39) : R (q l ++ 39 :: s) acc pos = some (acc ++ l, pos + (q l).length + 1) := by
  induction l generalizing acc pos with
  | nil =>
    cases s with
    | nil => simp [q, R]
    | cons d t =>
      have hd : d ≠ 39 := by simpa using hs
      simp [q, R, hd]
  | cons c t ih =>
    by_cases hc : c = 39
    · subst hc
      simp only [q, if_true, List.cons_append, R_twice, ih]
      simp; omega
    · simp only [q, if_neg hc, List.cons_append]
      rw [R_plain _ _ _ _ hc, ih]
      simp; omega

theorem q_append (a b : List Int) : q (a ++ b) = q a ++ q b := by
  induction a with
  | nil => simp [q]
  | cons c t ih => by_cases hc : c = 39 <;> simp [q, hc, ih]
theorem q_length_le (l : List Int) : (q l).length ≤ 2 * l.length := by
  induction l with
  | nil => simp [q]
  | cons c t ih => by_cases hc : c = 39 <;> simp [q, hc] <;> omega
theorem take_snoc (l : List Int) (k : Nat) (h : k < l.length) : l.take (k + 1) = l.take k ++ [l.getD k 0] := by
  rw [List.take_succ_eq_append_getElem h]; simp [List.getD, h]
theorem q_hit (l : List Int) (k : Nat) (h : k < l.length) (hc : l.getD k 0 = 39) : q (l.take (k + 1)) = q (l.take k) ++ [39] ++ [39] := by
  rw [take_snoc l k h, q_append, hc]; simp [q]
theorem q_miss (l : List Int) (k : Nat) (h : k < l.length) (hc : l.getD k 0 ≠ 39) : q (l.take (k + 1)) = q (l.take k) ++ [l.getD k 0] := by
  rw [take_snoc l k h, q_append]; simp only [q, if_neg hc]
theorem drop_cons (l : List Int) (k : Nat) (h : k < l.length) : l.drop k = l.getD k 0 :: l.drop (k + 1) := by
  rw [List.drop_eq_getElem_cons h]; simp [List.getD, h]

/-- How much is answered: the text is no longer than what was read. -/
theorem R_bound (l acc : List Int) (pos : Nat) (o : List Int) (n : Nat) (h : R l acc pos = some (o, n)) : o.length + pos ≤ acc.length + pos + l.length ∧ n ≤ pos + l.length ∧ pos < n := by
  fun_induction R l acc pos with
  | case1 => simp at h
  | case2 => simp at h; obtain ⟨rfl, rfl⟩ := h; simp
  | case3 => simp at h
  | case4 t acc pos ih => have := ih h; simp at this ⊢; omega
  | case5 d t acc pos hd => simp at h; obtain ⟨rfl, rfl⟩ := h; simp
  | case6 c d t acc pos hc ih => have := ih h; simp at this ⊢; omega

/-- The bytes of l from s to k. -/
def X (l : List Int) (s k : Nat) : List Int := (l.drop s).take (k - s)

theorem X_self (l : List Int) (k : Nat) : X l k k = [] := by simp [X]
theorem X_length (l : List Int) (s k : Nat) (h : k ≤ l.length) : (X l s k).length = k - s := by simp [X]; omega
theorem X_snoc (l : List Int) (s k : Nat) (hs : s ≤ k) (h : k < l.length) : X l s (k + 1) = X l s k ++ [l.getD k 0] := by
  unfold X
  rw [show k + 1 - s = (k - s) + 1 from by omega, take_snoc _ _ (by simp; omega)]
  congr 2
  simp [List.getD, List.getElem?_drop, show s + (k - s) = k from by omega]
theorem X_get (l : List Int) (s k i : Nat) (h : k ≤ l.length) (hi : i < k - s) : (X l s k).getD i 0 = l.getD (s + i) 0 := by
  simp [X, List.getD, List.getElem?_take, hi, List.getElem?_drop]

theorem step_plain {l acc : List Int} {s k : Nat} {r : Option (List Int × Nat)} (hs : s ≤ k) (hk : k < l.length) (hc : l.getD k 0 ≠ 39)
    (h : R (l.drop k) (acc ++ X l s k) k = r) : R (l.drop (k + 1)) (acc ++ X l s (k + 1)) (k + 1) = r := by
  rw [drop_cons l k hk, R_plain _ _ _ _ hc] at h
  rw [X_snoc l s k hs hk, ← List.append_assoc]
  exact h
theorem step_twice {l acc : List Int} {s k : Nat} {r : Option (List Int × Nat)} (hs : s ≤ k) (hk : k + 1 < l.length) (hc : l.getD k 0 = 39) (hd : l.getD (k + 1) 0 = 39)
    (h : R (l.drop k) (acc ++ X l s k) k = r) : R (l.drop (k + 2)) ((acc ++ X l s (k + 1)) ++ X l (k + 2) (k + 2)) (k + 2) = r := by
  rw [drop_cons l k (by omega), drop_cons l (k + 1) hk, hc, hd, R_twice] at h
  rw [X_snoc l s k hs (by omega), X_self, List.append_nil, ← List.append_assoc, hc]
  exact h
theorem step_end {l acc : List Int} {s k : Nat} {r : Option (List Int × Nat)} (hk : k < l.length) (hc : l.getD k 0 = 39) (hd : k + 1 < l.length → l.getD (k + 1) 0 ≠ 39)
    (h : R (l.drop k) (acc ++ X l s k) k = r) : r = some (acc ++ X l s k, k + 1) := by
  rw [drop_cons l k hk, hc] at h
  by_cases h1 : k + 1 < l.length
  · rw [drop_cons l (k + 1) h1, R_ends _ _ _ _ (hd h1)] at h
    exact h.symm
  · rw [List.drop_eq_nil_of_le (by omega), R_last] at h
    exact h.symm
theorem step_out {l acc : List Int} {k : Nat} {r : Option (List Int × Nat)} (hk : ¬ k < l.length) (h : R (l.drop k) acc k = r) : r = none := by
  rw [List.drop_eq_nil_of_le (by omega), R_nil] at h
  exact h.symm

end Go.Proofs.Qxb6602252aMods.Sq
