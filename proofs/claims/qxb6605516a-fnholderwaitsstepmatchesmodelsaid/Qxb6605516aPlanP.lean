import Derived.Test.Qxb6605516aFc
namespace Go.Proofs.Qxb6605516a
set_option linter.unusedVariables false

def isRW (K : Nat → Int) (p : Nat) : Prop := K p = 1 ∨ K p = 2
def isEnd (K : Nat → Int) (p : Nat) : Prop := K p = 3 ∨ K p = 4

/-- The reads and writes of transaction τ among the last d operations, up to its first end there. -/
def chd (K T : Nat → Int) (n : Nat) : Nat → Int → List Nat
  | 0, _ => []
  | d + 1, τ => if (K (n - (d + 1)) = 1 ∨ K (n - (d + 1)) = 2) ∧ T (n - (d + 1)) = τ then (n - (d + 1)) :: chd K T n d τ
      else if (K (n - (d + 1)) = 3 ∨ K (n - (d + 1)) = 4) ∧ T (n - (d + 1)) = τ then [] else chd K T n d τ

/-- A list threaded through la, from h on. -/
def IsL (la : Nat → Int) : Int → List Nat → Prop
  | h, [] => h = -1
  | h, p :: r => h = p ∧ IsL la (la p) r

theorem chd_mem (K T : Nat → Int) (n d : Nat) (hd : d ≤ n) (τ : Int) (p : Nat) :
    p ∈ chd K T n d τ ↔ (n - d ≤ p ∧ p < n ∧ (K p = 1 ∨ K p = 2) ∧ T p = τ ∧ ∀ q, n - d ≤ q → q < p → ¬ ((K q = 3 ∨ K q = 4) ∧ T q = τ)) := by
  induction d with
  | zero => simp [chd]; omega
  | succ d ih =>
    have ih := ih (by omega)
    unfold chd
    by_cases h1 : (K (n - (d + 1)) = 1 ∨ K (n - (d + 1)) = 2) ∧ T (n - (d + 1)) = τ
    · rw [if_pos h1, List.mem_cons, ih]
      constructor
      · rintro (rfl | ⟨a, b, c, e, f⟩)
        · exact ⟨by omega, by omega, h1.1, h1.2, fun q h2 h3 => by omega⟩
        · refine ⟨by omega, b, c, e, fun q h2 h3 => ?_⟩
          by_cases hq : q = n - (d + 1)
          · subst hq; rintro ⟨h4, _⟩; omega
          · exact f q (by omega) h3
      · rintro ⟨a, b, c, e, f⟩
        by_cases hp : p = n - (d + 1)
        · exact .inl hp
        · exact .inr ⟨by omega, b, c, e, fun q h2 h3 => f q (by omega) h3⟩
    · rw [if_neg h1]
      by_cases h2 : (K (n - (d + 1)) = 3 ∨ K (n - (d + 1)) = 4) ∧ T (n - (d + 1)) = τ
      · rw [if_pos h2]
        simp only [List.not_mem_nil, false_iff]
        rintro ⟨a, b, c, e, f⟩
        by_cases hp : p = n - (d + 1)
        · subst hp; exact h1 ⟨c, e⟩
        · exact f (n - (d + 1)) (by omega) (by omega) h2
      · rw [if_neg h2, ih]
        constructor
        · rintro ⟨a, b, c, e, f⟩
          refine ⟨by omega, b, c, e, fun q h3 h4 => ?_⟩
          by_cases hq : q = n - (d + 1)
          · subst hq; exact h2
          · exact f q (by omega) h4
        · rintro ⟨a, b, c, e, f⟩
          have hp : p ≠ n - (d + 1) := by rintro rfl; exact h1 ⟨c, e⟩
          exact ⟨by omega, b, c, e, fun q h3 h4 => f q (by omega) h4⟩

theorem chd_sorted (K T : Nat → Int) (n d : Nat) (hd : d ≤ n) (τ : Int) : (chd K T n d τ).Pairwise (· < ·) := by
  induction d with
  | zero => simp [chd]
  | succ d ih =>
    have ih := ih (by omega)
    unfold chd
    split
    · refine List.pairwise_cons.2 ⟨fun q hq => ?_, ih⟩
      have := (chd_mem K T n d (by omega) τ q).1 hq
      omega
    · split
      · simp
      · exact ih

theorem IsL.other {la : Nat → Int} {h : Int} {l : List Nat} (hl : IsL la h l) (p : Nat) (v : Int) (hp : ∀ q ∈ l, q ≠ p) : IsL (upd la p v) h l := by
  induction l generalizing h with
  | nil => exact hl
  | cons q r ih =>
    refine ⟨hl.1, ?_⟩
    rw [upd_other _ _ _ _ (hp q (by simp))]
    exact ih hl.2 (fun x hx => hp x (by simp [hx]))

/-- What the loop that threads the lists holds. -/
def Thr (K T : Nat → Int) (n nt d : Nat) (F L : Nat → Int) : Prop := ∀ τ : Nat, τ < nt → IsL L (F τ) (chd K T n d τ)

theorem thr_start (K T : Nat → Int) (n nt : Nat) (L : Nat → Int) : Thr K T n nt 0 (fun _ => -1) L := fun τ _ => rfl
theorem thr_rw {K T : Nat → Int} {n nt d : Nat} {F L : Nat → Int} (hd : d < n) (h : Thr K T n nt d F L) (hk : K (n - (d + 1)) = 1 ∨ K (n - (d + 1)) = 2) (ht : 0 ≤ T (n - (d + 1))) (ht' : T (n - (d + 1)) < nt) :
    Thr K T n nt (d + 1) (upd F (T (n - (d + 1))).toNat ((n - (d + 1) : Nat) : Int)) (upd L (n - (d + 1)) (F (T (n - (d + 1))).toNat)) := by
  intro τ hτ
  have hne : ∀ σ : Int, ∀ q ∈ chd K T n d σ, q ≠ n - (d + 1) := fun σ q hq => by
    have := (chd_mem K T n d (by omega) σ q).1 hq; omega
  unfold chd
  by_cases e : T (n - (d + 1)) = τ
  · rw [if_pos ⟨hk, e⟩]
    have e2 : (T (n - (d + 1))).toNat = τ := by omega
    rw [e2]
    refine ⟨upd_same _ _ _, ?_⟩
    rw [upd_same]
    exact (h τ hτ).other _ _ (hne τ)
  · rw [if_neg (by simp [e]), if_neg (by simp [e])]
    rw [upd_other _ _ _ _ (by omega)]
    exact (h τ hτ).other _ _ (hne τ)
theorem thr_end {K T : Nat → Int} {n nt d : Nat} {F L : Nat → Int} (h : Thr K T n nt d F L) (hk : K (n - (d + 1)) = 3 ∨ K (n - (d + 1)) = 4) (ht : 0 ≤ T (n - (d + 1))) :
    Thr K T n nt (d + 1) (upd F (T (n - (d + 1))).toNat (-1)) L := by
  intro τ hτ
  unfold chd
  by_cases e : T (n - (d + 1)) = τ
  · rw [if_neg (by rintro ⟨h1, _⟩; omega), if_pos ⟨hk, e⟩]
    have e2 : (T (n - (d + 1))).toNat = τ := by omega
    rw [e2]
    exact upd_same _ _ _
  · rw [if_neg (by simp [e]), if_neg (by simp [e])]
    rw [upd_other _ _ _ _ (by omega)]
    exact h τ hτ
theorem thr_none {K T : Nat → Int} {n nt d : Nat} {F L : Nat → Int} (h : Thr K T n nt d F L) (h1 : ¬ (K (n - (d + 1)) = 1 ∨ K (n - (d + 1)) = 2)) (h2 : ¬ (K (n - (d + 1)) = 3 ∨ K (n - (d + 1)) = 4)) : Thr K T n nt (d + 1) F L := by
  intro τ hτ
  unfold chd
  rw [if_neg (by rintro ⟨h3, _⟩; exact h1 h3), if_neg (by rintro ⟨h3, _⟩; exact h2 h3)]
  exact h τ hτ
end Go.Proofs.Qxb6605516a
