import Derived.Test.Qxb6605516aSumP
namespace Go.Proofs.Qxb6605516a

theorem take_snoc (l : List Int) (j : Nat) (h : j < l.length) : l.take (j + 1) = l.take j ++ [l.getD j 0] := by
  rw [List.take_add_one]; simp [h]
/-- The pool while a place is made at a: c is what stands there. -/
def gap (P : List Int) (a : Nat) (c : Int) (Z : List Int) : List Int := (P.take a ++ c :: P.drop a) ++ Z

theorem gap_len (P : List Int) (a : Nat) (c : Int) (Z : List Int) (h : a ≤ P.length) : (gap P a c Z).length = P.length + 1 + Z.length := by
  simp [gap]; omega
theorem gap_start (P : List Int) (n : Nat) (h : P.length ≤ n) : P ++ List.replicate (n + 1 - P.length) 0 = gap P P.length 0 (List.replicate (n - P.length) 0) := by
  rw [show n + 1 - P.length = (n - P.length) + 1 from by omega, List.replicate_succ]
  simp [gap]
theorem gap_read (P : List Int) (a : Nat) (c : Int) (Z : List Int) (h : a < P.length) : (gap P (a + 1) c Z).getD a 0 = P.getD a 0 := by
  unfold gap
  simp only [List.append_assoc, List.getD_eq_getElem?_getD]
  rw [List.getElem?_append_left (by simp; omega), List.getElem?_take_of_lt (by omega)]
theorem gap_move (P : List Int) (a : Nat) (c : Int) (Z : List Int) (h : a < P.length) : (gap P (a + 1) c Z).set (a + 1) (P.getD a 0) = gap P a (P.getD a 0) Z := by
  unfold gap
  rw [List.set_append_left _ _ (by simp; omega), List.set_append_right _ _ (by simp; omega)]
  have e : a + 1 - (P.take (a + 1)).length = 0 := by simp; omega
  rw [e, List.set_cons_zero, take_snoc P a h, drop_getD P a h]
  simp
theorem gap_fill (P : List Int) (a : Nat) (c v : Int) (Z : List Int) (h : a ≤ P.length) : (gap P a c Z).set a v = (P.take a ++ v :: P.drop a) ++ Z := by
  unfold gap
  rw [List.set_append_left _ _ (by simp; omega), List.set_append_right _ _ (by simp; omega)]
  have e : a - (P.take a).length = 0 := by simp; omega
  rw [e, List.set_cons_zero]
theorem ins_perm (P : List Int) (a : Nat) (v : Int) : (P.take a ++ v :: P.drop a).Perm (v :: P) := by
  refine List.perm_middle.trans ?_
  rw [List.take_append_drop]
theorem ins_len (P : List Int) (a : Nat) (v : Int) : (P.take a ++ v :: P.drop a).length = P.length + 1 := by
  have := (ins_perm P a v).length_eq
  simpa using this
theorem ins_srt (P : List Int) (a : Nat) (v : Int) (hP : Srt P) (ha : a ≤ P.length) (h1 : a = 0 ∨ P.getD (a - 1) 0 ≤ v) (h2 : ∀ z ∈ P.drop a, v < z) : Srt (P.take a ++ v :: P.drop a) := by
  unfold Srt at *
  have hs : List.Pairwise (fun a b => a ≤ b) (P.take a ++ P.drop a) := by rw [List.take_append_drop]; exact hP
  rw [List.pairwise_append] at hs ⊢
  obtain ⟨s1, s2, s3⟩ := hs
  refine ⟨s1, List.pairwise_cons.2 ⟨fun z hz => by have := h2 z hz; omega, s2⟩, fun x hx z hz => ?_⟩
  rcases List.mem_cons.1 hz with rfl | hz
  · rcases h1 with h1 | h1
    · subst h1; simp at hx
    · by_cases h0 : a = 0
      · subst h0; simp at hx
      · -- x is at or before place a - 1
        have hlt : a - 1 < P.length := by omega
        obtain ⟨i, hi, rfl⟩ := List.getElem_of_mem hx
        have hi' : i < a := by simp at hi; omega
        rw [List.getElem_take]
        have e : P.getD (a - 1) 0 = P[a - 1] := by simp [hlt]
        rw [e] at h1
        by_cases hia : i = a - 1
        · subst hia; exact h1
        · have := List.pairwise_iff_getElem.1 hP i (a - 1) (by omega) hlt (by omega)
          omega
  · exact s3 x hx z hz
theorem mem_drop_getD (P : List Int) (a : Nat) (h : a < P.length) (v : Int) (hv : v < P.getD a 0) (h2 : ∀ z ∈ P.drop (a + 1), v < z) : ∀ z ∈ P.drop a, v < z := by
  intro z hz
  rw [drop_getD P a h] at hz
  rcases List.mem_cons.1 hz with rfl | hz
  · exact hv
  · exact h2 z hz
end Go.Proofs.Qxb6605516a
