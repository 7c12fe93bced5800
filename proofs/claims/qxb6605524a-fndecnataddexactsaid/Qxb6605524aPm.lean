import Derived.Test.Qxb6605524aPl
namespace Go.Proofs.Qxb6605524a

/-- sub's loop, from a limb on: the limbs, and the borrow that is left. -/
def subF : List Int → List Int → Int → List Int × Int
  | [], _, b => ([], b)
  | a :: r, ys, b =>
    if ys.getD 0 0 + b ≤ a then ((a - (ys.getD 0 0 + b)) :: (subF r ys.tail 0).1, (subF r ys.tail 0).2)
    else ((a + 1000000000000000000 - (ys.getD 0 0 + b)) :: (subF r ys.tail 1).1, (subF r ys.tail 1).2)
theorem subF_len : ∀ (xs ys : List Int) (b : Int), (subF xs ys b).1.length = xs.length
  | [], _, _ => rfl
  | a :: r, ys, b => by unfold subF; split <;> simp [subF_len r]
theorem subF_Lb : ∀ (xs ys : List Int) (b : Int), Lb xs → Lb ys → 0 ≤ b → b ≤ 1 → Lb (subF xs ys b).1
  | [], ys, b, _, _, _, _ => by intro x hx; simp [subF] at hx
  | a :: r, ys, b, hx, hy, h0, h1 => by
    have g := getD0 hy
    have g1 := hx.head
    unfold subF
    split
    · intro x hx'
      rcases List.mem_cons.1 hx' with rfl | h
      · omega
      · exact subF_Lb r ys.tail 0 hx.tail hy.tl (by omega) (by omega) x h
    · intro x hx'
      rcases List.mem_cons.1 hx' with rfl | h
      · omega
      · exact subF_Lb r ys.tail 1 hx.tail hy.tl (by omega) (by omega) x h
/-- Where the lesser is taken from the greater no borrow is left. -/
theorem subF_V : ∀ (xs ys : List Int) (b : Int), Lb xs → Lb ys → 0 ≤ b → b ≤ 1 → ys.length ≤ xs.length → V ys + b ≤ V xs → (subF xs ys b).2 = 0 ∧ V (subF xs ys b).1 = V xs - V ys - b
  | [], ys, b, _, _, h0, h1, hl, h => by
    have : ys = [] := List.length_eq_zero_iff.1 (by simpa using hl)
    subst this; simp [subF, V] at h ⊢; omega
  | a :: r, ys, b, hx, hy, h0, h1, hl, h => by
    have e := V_tail ys
    have g := getD0 hy
    have g1 := hx.head
    simp only [V] at h
    unfold subF
    split
    · have ih := subF_V r ys.tail 0 hx.tail hy.tl (by omega) (by omega) (by simp at hl ⊢; omega) (by omega)
      exact ⟨ih.1, by simp only [V]; omega⟩
    · have ih := subF_V r ys.tail 1 hx.tail hy.tl (by omega) (by omega) (by simp at hl ⊢; omega) (by omega)
      exact ⟨ih.1, by simp only [V]; omega⟩

theorem V_longer : ∀ (xs ys : List Int), Lb xs → Lb ys → Top ys → xs.length < ys.length → V xs < V ys
  | xs, [], _, _, _, h => by simp at h
  | [], b :: s, _, hy, ty, _ => by have := V_pos hy ty (by simp); simpa [V] using this
  | a :: r, b :: s, hx, hy, ty, h => by
    have := V_longer r s hx.tail hy.tail ty.tail (by simpa using h)
    have := hx.head
    have := hy.head
    simp only [V]; omega
/-- The highest limb in which they part decides. -/
theorem V_part : ∀ (xs ys : List Int) (i : Nat), Lb xs → Lb ys → xs.length = ys.length → (∀ j, i < j → j < xs.length → xs.getD j 0 = ys.getD j 0) → xs.getD i 0 < ys.getD i 0 → i < xs.length → V xs < V ys
  | [], _, i, _, _, _, _, _, h => by simp at h
  | a :: r, [], i, _, _, h, _, _, _ => by simp at h
  | a :: r, b :: s, 0, hx, hy, hl, hag, hlt, _ => by
    have e : r = s := by
      apply List.ext_getElem
      · simpa using hl
      · intro j h1 h2
        have := hag (j + 1) (by omega) (by simpa using h1)
        simpa [h1, h2] using this
    subst e
    simp at hlt
    simp only [V]; omega
  | a :: r, b :: s, i + 1, hx, hy, hl, hag, hlt, hi => by
    have := V_part r s i hx.tail hy.tail (by simpa using hl) (fun j h1 h2 => by simpa using hag (j + 1) (by omega) (by simpa using h2)) (by simpa using hlt) (by simpa using hi)
    have := hx.head
    have := hy.head
    simp only [V]; omega

/-- What comparing answers. -/
structure CmpR (A B : List Int) (c : Int) : Prop where
  less : A.length < B.length → c = -1
  more : B.length < A.length → c = 1
  same : A.length = B.length → (A = B ∧ c = 0) ∨ ∃ i, i < A.length ∧ (∀ j, i < j → j < A.length → A.getD j 0 = B.getD j 0) ∧ ((A.getD i 0 < B.getD i 0 ∧ c = -1) ∨ (B.getD i 0 < A.getD i 0 ∧ c = 1))
theorem cmp_gt {A B : List Int} {c : Int} (h : CmpR A B c) (hA : Lb A) (hB : Lb B) (tB : Top B) (hv : V B < V A) : c = 1 := by
  rcases Nat.lt_trichotomy A.length B.length with hl | hl | hl
  · have := V_longer A B hA hB tB hl; omega
  · rcases h.same hl with ⟨e, _⟩ | ⟨i, hi, hag, ⟨h1, _⟩ | ⟨_, h2⟩⟩
    · subst e; omega
    · have := V_part A B i hA hB hl hag h1 hi; omega
    · exact h2
  · exact h.more hl
theorem cmp_eq {A : List Int} {c : Int} (h : CmpR A A c) : c = 0 := by
  rcases h.same rfl with ⟨_, e⟩ | ⟨i, hi, hag, ⟨h1, _⟩ | ⟨h1, _⟩⟩
  · exact e
  · omega
  · omega

/-- Well formed, as the law's own test has it. -/
def isDN (l : List Int) : Bool := decide ((∀ a ∈ l, a < 1000000000000000000) ∧ (l = [] ∨ l.getD (l.length - 1) 0 ≠ 0))
theorem isDN_of {l : List Int} (h : Lb l) (t : Top l) : isDN l = true := by
  unfold isDN; exact decide_eq_true ⟨fun a ha => (h a ha).2, t⟩
theorem isDN_out {l : List Int} (h : isDN l = true) (h0 : ∀ a ∈ l, 0 ≤ a) : Lb l ∧ Top l := by
  unfold isDN at h
  have := of_decide_eq_true h
  exact ⟨fun a ha => ⟨h0 a ha, this.1 a ha⟩, this.2⟩

/-- The limbs of the sum. -/
def sumL (x y : List Int) : List Int := if x.length < y.length then strip (addF y x 0) else strip (addF x y 0)
theorem sumL_V {x y : List Int} (hx : Lb x) (hy : Lb y) : V (sumL x y) = V x + V y := by
  unfold sumL; split
  · rw [strip_V, addF_V y x 0 hy hx (by omega)]; omega
  · rw [strip_V, addF_V x y 0 hx hy (by omega)]; omega
theorem sumL_Lb {x y : List Int} (hx : Lb x) (hy : Lb y) : Lb (sumL x y) := by
  unfold sumL; split
  · exact strip_Lb (addF_Lb _ _ _ hy hx (by omega) (by omega))
  · exact strip_Lb (addF_Lb _ _ _ hx hy (by omega) (by omega))
theorem sumL_Top (x y : List Int) : Top (sumL x y) := by
  unfold sumL; split <;> exact strip_top _
theorem sumL_le {x y : List Int} : (sumL x y).length ≤ max x.length y.length + 1 := by
  unfold sumL; split
  · have := nz_le (addF y x 0) (addF y x 0).length; rw [strip_len]; rw [addF_len] at this ⊢; omega
  · have := nz_le (addF x y 0) (addF x y 0).length; rw [strip_len]; rw [addF_len] at this ⊢; omega
theorem sumL_ge {x y : List Int} (hx : Lb x) (hy : Lb y) (tx : Top x) (ty : Top y) : max x.length y.length ≤ (sumL x y).length := by
  have h := sumL_V hx hy
  have n1 := V_nonneg hx
  have n2 := V_nonneg hy
  have lb := sumL_Lb hx hy
  rcases Nat.lt_or_ge (sumL x y).length x.length with h1 | h1
  · have := V_longer _ _ lb hx tx h1; omega
  rcases Nat.lt_or_ge (sumL x y).length y.length with h2 | h2
  · have := V_longer _ _ lb hy ty h2; omega
  · omega
end Go.Proofs.Qxb6605524a
