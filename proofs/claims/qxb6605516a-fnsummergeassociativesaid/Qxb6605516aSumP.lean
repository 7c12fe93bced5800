namespace Go.Proofs.Qxb6605516a

/-- The first k of two rows merged: the right one's first, where the left one's is not below it. -/
def mrg : Nat → List Int → List Int → List Int
  | 0, _, _ => []
  | _ + 1, [], [] => []
  | k + 1, x :: xs, [] => x :: mrg k xs []
  | k + 1, [], y :: ys => y :: mrg k [] ys
  | k + 1, x :: xs, y :: ys => if x < y then x :: mrg k xs (y :: ys) else y :: mrg k (x :: xs) ys

theorem mrg_nil (k : Nat) : mrg k [] [] = [] := by cases k <;> rfl

theorem mrg_length (k : Nat) (xs ys : List Int) : (mrg k xs ys).length = min k (xs.length + ys.length) := by
  induction k generalizing xs ys with
  | zero => simp [mrg]
  | succ k ih =>
    match xs, ys with
    | [], [] => simp [mrg]
    | x :: xs, [] => simp [mrg, ih]
    | [], y :: ys => simp [mrg, ih]
    | x :: xs, y :: ys =>
      simp only [mrg]
      split <;> simp [ih] <;> omega

/-- Fewer of them are the first ones. -/
theorem mrg_take (k m : Nat) (xs ys : List Int) (h : k ≤ m) : mrg k xs ys = (mrg m xs ys).take k := by
  induction k generalizing m xs ys with
  | zero => simp [mrg]
  | succ k ih =>
    obtain ⟨m, rfl⟩ : ∃ m', m = m' + 1 := ⟨m - 1, by omega⟩
    match xs, ys with
    | [], [] => simp [mrg]
    | x :: xs, [] => simp [mrg, ih m xs [] (by omega)]
    | [], y :: ys => simp [mrg, ih m [] ys (by omega)]
    | x :: xs, y :: ys =>
      simp only [mrg]
      split
      · simp [ih m xs (y :: ys) (by omega)]
      · simp [ih m (x :: xs) ys (by omega)]

/-- Of each row k are enough. -/
theorem mrg_left (k m : Nat) (xs ys : List Int) (h : k ≤ m) : mrg k (xs.take m) ys = mrg k xs ys := by
  induction k generalizing m xs ys with
  | zero => simp [mrg]
  | succ k ih =>
    obtain ⟨m, rfl⟩ : ∃ m', m = m' + 1 := ⟨m - 1, by omega⟩
    match xs, ys with
    | [], ys => simp
    | x :: xs, [] => simp [mrg, ih m xs [] (by omega)]
    | x :: xs, y :: ys =>
      simp only [mrg, List.take_succ_cons]
      split
      · rw [ih m xs (y :: ys) (by omega)]
      · have := ih (m + 1) (x :: xs) ys (by omega)
        rw [List.take_succ_cons] at this
        rw [this]
theorem mrg_right (k m : Nat) (xs ys : List Int) (h : k ≤ m) : mrg k xs (ys.take m) = mrg k xs ys := by
  induction k generalizing m xs ys with
  | zero => simp [mrg]
  | succ k ih =>
    obtain ⟨m, rfl⟩ : ∃ m', m = m' + 1 := ⟨m - 1, by omega⟩
    match xs, ys with
    | xs, [] => simp
    | [], y :: ys => simp [mrg, ih m [] ys (by omega)]
    | x :: xs, y :: ys =>
      simp only [mrg, List.take_succ_cons]
      split
      · have := ih (m + 1) xs (y :: ys) (by omega)
        rw [List.take_succ_cons] at this
        rw [this]
      · rw [ih m (x :: xs) ys (by omega)]

/-- In order. -/
def Srt (l : List Int) : Prop := List.Pairwise (fun a b => a ≤ b) l

theorem mrg_perm (k : Nat) (xs ys : List Int) (h : xs.length + ys.length ≤ k) : (mrg k xs ys).Perm (xs ++ ys) := by
  induction k generalizing xs ys with
  | zero =>
    have h1 : xs = [] := List.length_eq_zero_iff.1 (by omega)
    have h2 : ys = [] := List.length_eq_zero_iff.1 (by omega)
    subst h1; subst h2; simp [mrg]
  | succ k ih =>
    match xs, ys with
    | [], [] => simp [mrg]
    | x :: xs, [] => simp only [mrg]; exact (ih xs [] (by simp at h ⊢; omega)).cons x
    | [], y :: ys => simp only [mrg]; exact (ih [] ys (by simp at h ⊢; omega)).cons y
    | x :: xs, y :: ys =>
      simp only [mrg]
      split
      · exact (ih xs (y :: ys) (by simp at h ⊢; omega)).cons x
      · refine ((ih (x :: xs) ys (by simp at h ⊢; omega)).cons y).trans ?_
        exact (List.perm_middle (a := y) (l₁ := x :: xs) (l₂ := ys)).symm

theorem mrg_mem (k : Nat) (xs ys : List Int) : ∀ z ∈ mrg k xs ys, z ∈ xs ∨ z ∈ ys := by
  induction k generalizing xs ys with
  | zero => simp [mrg]
  | succ k ih =>
    intro z hz
    match xs, ys with
    | [], [] => simp [mrg] at hz
    | x :: xs, [] =>
      simp only [mrg, List.mem_cons] at hz
      rcases hz with hz | hz
      · simp [hz]
      · rcases ih xs [] z hz with h | h <;> simp_all
    | [], y :: ys =>
      simp only [mrg, List.mem_cons] at hz
      rcases hz with hz | hz
      · simp [hz]
      · rcases ih [] ys z hz with h | h <;> simp_all
    | x :: xs, y :: ys =>
      simp only [mrg] at hz
      split at hz
      · simp only [List.mem_cons] at hz
        rcases hz with hz | hz
        · simp [hz]
        · rcases ih xs (y :: ys) z hz with h | h
          · exact .inl (by simp [h])
          · exact .inr h
      · simp only [List.mem_cons] at hz
        rcases hz with hz | hz
        · simp [hz]
        · rcases ih (x :: xs) ys z hz with h | h
          · exact .inl h
          · exact .inr (by simp [h])

theorem mrg_srt (k : Nat) (xs ys : List Int) (hx : Srt xs) (hy : Srt ys) : Srt (mrg k xs ys) := by
  unfold Srt at *
  induction k generalizing xs ys with
  | zero => simp [mrg]
  | succ k ih =>
    match xs, ys with
    | [], [] => simp [mrg]
    | x :: xs, [] =>
      have h := List.pairwise_cons.1 hx
      simp only [mrg]
      refine List.pairwise_cons.2 ⟨fun z hz => ?_, ih xs [] h.2 hy⟩
      rcases mrg_mem _ _ _ z hz with hm | hm
      · exact h.1 z hm
      · simp at hm
    | [], y :: ys =>
      have h := List.pairwise_cons.1 hy
      simp only [mrg]
      refine List.pairwise_cons.2 ⟨fun z hz => ?_, ih [] ys hx h.2⟩
      rcases mrg_mem _ _ _ z hz with hm | hm
      · simp at hm
      · exact h.1 z hm
    | x :: xs, y :: ys =>
      have h := List.pairwise_cons.1 hx
      have g := List.pairwise_cons.1 hy
      simp only [mrg]
      split
      · refine List.pairwise_cons.2 ⟨fun z hz => ?_, ih xs (y :: ys) h.2 hy⟩
        rcases mrg_mem _ _ _ z hz with hm | hm
        · exact h.1 z hm
        · rcases List.mem_cons.1 hm with hm | hm
          · omega
          · have := g.1 z hm; omega
      · refine List.pairwise_cons.2 ⟨fun z hz => ?_, ih (x :: xs) ys hx g.2⟩
        rcases mrg_mem _ _ _ z hz with hm | hm
        · rcases List.mem_cons.1 hm with hm | hm
          · omega
          · have := h.1 z hm; omega
        · exact g.1 z hm

/-- Two rows in order with the same numbers are one. -/
theorem srt_eq {l m : List Int} (h : l.Perm m) (hl : Srt l) (hm : Srt m) : l = m :=
  List.Perm.eq_of_pairwise (le := fun a b : Int => decide (a ≤ b)) (fun a b _ _ h1 h2 => by simp at h1 h2; omega) (by simpa [Srt] using hl) (by simpa [Srt] using hm) h

theorem drop_getD (xs : List Int) (i : Nat) (hi : i < xs.length) : xs.drop i = xs.getD i 0 :: xs.drop (i + 1) := by
  rw [List.drop_eq_getElem_cons hi]; simp [hi]
theorem mrg_x (r : Nat) (xs ys : List Int) (i j : Nat) (hi : i < xs.length) (h : ys.length ≤ j ∨ xs.getD i 0 < ys.getD j 0) :
    mrg (r + 1) (xs.drop i) (ys.drop j) = xs.getD i 0 :: mrg r (xs.drop (i + 1)) (ys.drop j) := by
  rw [drop_getD xs i hi]
  by_cases hj : j < ys.length
  · rw [drop_getD ys j hj]
    have : xs.getD i 0 < ys.getD j 0 := by rcases h with h | h; · omega
                                           · exact h
    simp only [mrg, if_pos this]
  · have : ys.drop j = [] := List.drop_eq_nil_of_le (by omega)
    rw [this]; simp only [mrg]
theorem mrg_y (r : Nat) (xs ys : List Int) (i j : Nat) (hj : j < ys.length) (h : xs.length ≤ i ∨ ¬ xs.getD i 0 < ys.getD j 0) :
    mrg (r + 1) (xs.drop i) (ys.drop j) = ys.getD j 0 :: mrg r (xs.drop i) (ys.drop (j + 1)) := by
  rw [drop_getD ys j hj]
  by_cases hi : i < xs.length
  · rw [drop_getD xs i hi]
    have : ¬ xs.getD i 0 < ys.getD j 0 := by rcases h with h | h; · omega
                                             · exact h
    simp only [mrg, if_neg this]
  · have : xs.drop i = [] := List.drop_eq_nil_of_le (by omega)
    rw [this]; simp only [mrg]
theorem take_getD (fs : List Int) (n i : Nat) (h : i < n) : (fs.take n).getD i 0 = fs.getD i 0 := by
  simp [h]

end Go.Proofs.Qxb6605516a
