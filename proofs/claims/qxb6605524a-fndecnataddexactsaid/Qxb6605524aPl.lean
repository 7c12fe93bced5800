namespace Go.Proofs.Qxb6605524a

/-- The number that limbs in base 10^18 write, the least first. -/
def V : List Int → Int
  | [] => 0
  | a :: r => a + 1000000000000000000 * V r
/-- .. and digits. -/
def D : List Int → Int
  | [] => 0
  | a :: r => a + 10 * D r
/-- Each limb below the base. -/
def Lb (l : List Int) : Prop := ∀ a ∈ l, 0 ≤ a ∧ a < 1000000000000000000
def Db (l : List Int) : Prop := ∀ a ∈ l, 0 ≤ a ∧ a < 10
/-- No 0 on top. -/
def Top (l : List Int) : Prop := l = [] ∨ l.getD (l.length - 1) 0 ≠ 0

theorem Lb.head {a : Int} {r : List Int} (h : Lb (a :: r)) : 0 ≤ a ∧ a < 1000000000000000000 := h a (by simp)
theorem Lb.tail {a : Int} {r : List Int} (h : Lb (a :: r)) : Lb r := fun x hx => h x (by simp [hx])
theorem Db.head {a : Int} {r : List Int} (h : Db (a :: r)) : 0 ≤ a ∧ a < 10 := h a (by simp)
theorem Db.tail {a : Int} {r : List Int} (h : Db (a :: r)) : Db r := fun x hx => h x (by simp [hx])
theorem Top.tail {a : Int} {r : List Int} (h : Top (a :: r)) : Top r := by
  cases r with
  | nil => exact .inl rfl
  | cons b r =>
    rcases h with h | h
    · simp at h
    · right
      simpa using h

theorem V_nonneg {l : List Int} (h : Lb l) : 0 ≤ V l := by
  induction l with
  | nil => simp [V]
  | cons a r ih => have := ih h.tail; have := h.head; simp only [V]; omega
theorem D_nonneg {l : List Int} (h : Db l) : 0 ≤ D l := by
  induction l with
  | nil => simp [D]
  | cons a r ih => have := ih h.tail; have := h.head; simp only [D]; omega
theorem V_pos {l : List Int} (h : Lb l) (ht : Top l) (hn : l ≠ []) : 0 < V l := by
  induction l with
  | nil => exact absurd rfl hn
  | cons a r ih =>
    have h0 := h.head
    have h1 := V_nonneg h.tail
    simp only [V]
    cases r with
    | nil =>
      rcases ht with ht | ht
      · simp at ht
      · simp at ht; omega
    | cons b r => have := ih h.tail ht.tail (by simp); omega
theorem D_pos {l : List Int} (h : Db l) (ht : Top l) (hn : l ≠ []) : 0 < D l := by
  induction l with
  | nil => exact absurd rfl hn
  | cons a r ih =>
    have h0 := h.head
    have h1 := D_nonneg h.tail
    simp only [D]
    cases r with
    | nil =>
      rcases ht with ht | ht
      · simp at ht
      · simp at ht; omega
    | cons b r => have := ih h.tail ht.tail (by simp); omega
/-- A number is written in one way. -/
theorem V_inj : ∀ {l m : List Int}, Lb l → Lb m → Top l → Top m → V l = V m → l = m
  | [], [], _, _, _, _, _ => rfl
  | [], b :: s, _, hm, _, tm, e => by have := V_pos hm tm (by simp); simp [V] at e this; omega
  | a :: r, [], hl, _, tl, _, e => by have := V_pos hl tl (by simp); simp [V] at e this; omega
  | a :: r, b :: s, hl, hm, tl, tm, e => by
    have h1 := hl.head
    have h2 := hm.head
    simp only [V] at e
    have e1 : a = b := by omega
    have e2 : V r = V s := by omega
    rw [e1, V_inj hl.tail hm.tail tl.tail tm.tail e2]
theorem D_inj : ∀ {l m : List Int}, Db l → Db m → Top l → Top m → D l = D m → l = m
  | [], [], _, _, _, _, _ => rfl
  | [], b :: s, _, hm, _, tm, e => by have := D_pos hm tm (by simp); simp [D] at e this; omega
  | a :: r, [], hl, _, tl, _, e => by have := D_pos hl tl (by simp); simp [D] at e this; omega
  | a :: r, b :: s, hl, hm, tl, tm, e => by
    have h1 := hl.head
    have h2 := hm.head
    simp only [D] at e
    have e1 : a = b := by omega
    have e2 : D r = D s := by omega
    rw [e1, D_inj hl.tail hm.tail tl.tail tm.tail e2]

/-- add's loop, from a limb on. -/
def addF : List Int → List Int → Int → List Int
  | [], _, c => [c]
  | a :: r, ys, c =>
    if a + c + ys.getD 0 0 < 1000000000000000000 then (a + c + ys.getD 0 0) :: addF r ys.tail 0 else (a + c + ys.getD 0 0 - 1000000000000000000) :: addF r ys.tail 1

theorem V_tail (ys : List Int) : V ys = ys.getD 0 0 + 1000000000000000000 * V ys.tail := by
  cases ys <;> simp [V]
theorem getD0 {ys : List Int} (h : Lb ys) : 0 ≤ ys.getD 0 0 ∧ ys.getD 0 0 < 1000000000000000000 := by
  cases ys with
  | nil => simp
  | cons a r => simpa using h.head
theorem Lb.tl {ys : List Int} (h : Lb ys) : Lb ys.tail := fun x hx => h x (List.mem_of_mem_tail hx)

theorem addF_V : ∀ (xs ys : List Int) (c : Int), Lb xs → Lb ys → ys.length ≤ xs.length → V (addF xs ys c) = V xs + V ys + c
  | [], ys, c, _, _, h => by
    have : ys = [] := List.length_eq_zero_iff.1 (by simpa using h)
    subst this; simp [addF, V]
  | a :: r, ys, c, hx, hy, h => by
    have ih0 := addF_V r ys.tail 0 hx.tail hy.tl (by simp at h ⊢; omega)
    have ih1 := addF_V r ys.tail 1 hx.tail hy.tl (by simp at h ⊢; omega)
    have e := V_tail ys
    unfold addF
    split <;> simp only [V] <;> omega
theorem addF_Lb : ∀ (xs ys : List Int) (c : Int), Lb xs → Lb ys → 0 ≤ c → c ≤ 1 → Lb (addF xs ys c)
  | [], ys, c, _, _, h0, h1 => by intro x hx; simp [addF] at hx; omega
  | a :: r, ys, c, hx, hy, h0, h1 => by
    have g := getD0 hy
    have g1 := hx.head
    unfold addF
    split
    · intro x hx'
      rcases List.mem_cons.1 hx' with rfl | h
      · omega
      · exact addF_Lb r ys.tail 0 hx.tail hy.tl (by omega) (by omega) x h
    · intro x hx'
      rcases List.mem_cons.1 hx' with rfl | h
      · omega
      · exact addF_Lb r ys.tail 1 hx.tail hy.tl (by omega) (by omega) x h
theorem addF_len : ∀ (xs ys : List Int) (c : Int), (addF xs ys c).length = xs.length + 1
  | [], _, _ => rfl
  | a :: r, ys, c => by unfold addF; split <;> simp [addF_len r]

/-- Without the zeros on top: its first n, n being what the loop comes to. -/
def nz : List Int → Nat → Nat
  | _, 0 => 0
  | l, n + 1 => if l.getD n 0 = 0 then nz l n else n + 1
def strip (l : List Int) : List Int := l.take (nz l l.length)
theorem nz_le (l : List Int) (n : Nat) : nz l n ≤ n := by
  induction n with
  | zero => simp [nz]
  | succ n ih => unfold nz; split <;> omega
theorem take_step (l : List Int) (n : Nat) (h : n < l.length) : l.take (n + 1) = l.take n ++ [l.getD n 0] := by
  rw [List.take_add_one]; simp [h]
theorem V_app0 (l : List Int) : V (l ++ [0]) = V l := by
  induction l with
  | nil => simp [V]
  | cons a r ih => simp only [List.cons_append, V, ih]
theorem D_app0 (l : List Int) : D (l ++ [0]) = D l := by
  induction l with
  | nil => simp [D]
  | cons a r ih => simp only [List.cons_append, D, ih]
theorem nz_V (l : List Int) (n : Nat) (hn : n ≤ l.length) : V (l.take (nz l n)) = V (l.take n) := by
  induction n with
  | zero => simp [nz]
  | succ n ih =>
    unfold nz
    split
    · rename_i h
      rw [ih (by omega), take_step l n (by omega), h, V_app0]
    · rfl
theorem nz_D (l : List Int) (n : Nat) (hn : n ≤ l.length) : D (l.take (nz l n)) = D (l.take n) := by
  induction n with
  | zero => simp [nz]
  | succ n ih =>
    unfold nz
    split
    · rename_i h
      rw [ih (by omega), take_step l n (by omega), h, D_app0]
    · rfl
theorem strip_V (l : List Int) : V (strip l) = V l := by unfold strip; rw [nz_V l _ (Nat.le_refl _)]; simp
theorem strip_D (l : List Int) : D (strip l) = D l := by unfold strip; rw [nz_D l _ (Nat.le_refl _)]; simp
theorem nz_top (l : List Int) (n : Nat) (h : 0 < nz l n) : l.getD (nz l n - 1) 0 ≠ 0 := by
  induction n with
  | zero => simp [nz] at h
  | succ n ih =>
    unfold nz at h ⊢
    split
    · rename_i e; rw [if_pos e] at h; exact ih h
    · rename_i e; simpa using e
theorem strip_top (l : List Int) : Top (strip l) := by
  have hle := nz_le l l.length
  by_cases h : nz l l.length = 0
  · left; unfold strip; rw [h]; simp
  · right
    have := nz_top l l.length (by omega)
    have e : (strip l).length = nz l l.length := by unfold strip; simp; omega
    rw [e]
    unfold strip
    simp only [List.getD_eq_getElem?_getD] at this ⊢
    rw [List.getElem?_take_of_lt (by omega)]
    exact this
theorem strip_len (l : List Int) : (strip l).length = nz l l.length := by unfold strip; have := nz_le l l.length; simp; omega
theorem strip_Lb {l : List Int} (h : Lb l) : Lb (strip l) := fun x hx => h x (List.mem_of_mem_take hx)
theorem strip_Db {l : List Int} (h : Db l) : Db (strip l) := fun x hx => h x (List.mem_of_mem_take hx)

end Go.Proofs.Qxb6605524a
