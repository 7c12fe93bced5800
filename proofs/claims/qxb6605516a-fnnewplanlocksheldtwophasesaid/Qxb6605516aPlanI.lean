import Derived.Test.Qxb6605516aPlanX
namespace Go.Proofs.Qxb6605516a
set_option linter.unusedVariables false

section
variable {K T X : Nat → Int} {n nt : Nat} {v : Int} {p t : Nat} {M A N R FR CU CF CI CM : Nat → Int} {D D' : Nat → Nat → Prop}
/-- What has gone back so far. -/
def RInv (K T X : Nat → Int) (n : Nat) (v : Int) (D : Nat → Nat → Prop) (R : Nat → Int) : Prop := ∀ f, f < n → (0 ≤ R f ↔ ∃ r, Rel K T X n v f r ∧ D f r)
/-- Where a transaction has given one back. -/
def FrInv (K T X : Nat → Int) (n nt : Nat) (v : Int) (D : Nat → Nat → Prop) (FR : Nat → Int) : Prop := ∀ t : Nat, t < nt → 0 ≤ FR t → ∃ f r, Rel K T X n v f r ∧ D f r ∧ T f = t
theorem RInv.congr (h : RInv K T X n v D R) (e : ∀ f r, Rel K T X n v f r → (D f r ↔ D' f r)) : RInv K T X n v D' R := fun f hf => by
  rw [h f hf]
  constructor
  · rintro ⟨r, h1, h2⟩; exact ⟨r, h1, (e f r h1).1 h2⟩
  · rintro ⟨r, h1, h2⟩; exact ⟨r, h1, (e f r h1).2 h2⟩
theorem FrInv.congr (h : FrInv K T X n nt v D FR) (e : ∀ f r, Rel K T X n v f r → (D f r ↔ D' f r)) : FrInv K T X n nt v D' FR := fun t ht h0 => by
  obtain ⟨f, r, h1, h2, h3⟩ := h t ht h0
  exact ⟨f, r, h1, (e f r h1).1 h2, h3⟩
theorem RInv.start : RInv K T X n v (fun _ r => r < 0) (fun _ => -1) := fun f hf => ⟨fun h => by simp at h, fun ⟨r, _, h⟩ => by omega⟩
theorem FrInv.start : FrInv K T X n nt v (fun _ r => r < 0) (fun _ => -1) := fun t ht h => by simp at h
/-- Nothing goes back after a place that is in no run. -/
theorem skip_d (hp : ¬ Run K T n p) : ∀ f r, Rel K T X n v f r → (r < p ↔ r < p + 1) := fun f r hr => by
  have h1 : r ≠ p := by rintro rfl; exact hp hr.run.1
  omega
theorem md_zero {Pr : Nat → Prop} (h : MInv K T X n Pr M) (hp : p < n) (hf : ¬ Fst K T X n p) : M p = 0 := by
  rcases (h p hp).2 with ⟨h1, -⟩ | ⟨q, -, h1, -⟩
  · exact h1
  · exact absurd h1.2.1 hf
theorem af_none (h : AInv K T X n v (Run K T n) A N) (hp : p < n) (hr : ¬ Run K T n p) : A p = -1 := by
  rcases h.a p hp with ⟨h1, -⟩ | ⟨g, -, h1, -⟩
  · exact h1
  · exact absurd h1.2.run.1 hr
theorem md_first (h : MInv K T X n (Run K T n) M) (hf : Fst K T X n p) : M p = 1 ∨ M p = 2 := by
  obtain ⟨-, q, h1, h2⟩ := h.str hf (fun q hq => hq.1)
  rw [h2]
  unfold needAt
  rcases h1.1.2.1 with h3 | h3
  · rw [if_pos h3]; exact .inl rfl
  · rw [if_neg (by omega), if_pos h3]; exact .inr rfl
theorem md_need (h : MInv K T X n (Run K T n) M) {f : Nat} (hf : Tch K T X n f p) : needAt K p ≤ M f := (h.str hf.2.1 (fun q hq => hq.1)).1 p hf
theorem lst_le {f r : Nat} (hr : Rel K T X n v f r) (ht : Tch K T X n f p) : p ≤ r := by
  obtain ⟨-, -, a, b, ha, hb, h | h⟩ := hr <;> have := ha.2 p ht <;> omega
/-- Under Basic and Strict nothing goes back ahead of the lock point. -/
theorem lp_le {f r : Nat} (hr : Rel K T X n v f r) (hv : v ≠ 3) (hf : Fst K T X n p) (ht : T p = T f) : p ≤ r := by
  obtain ⟨-, -, a, b, ha, hb, h⟩ := hr
  unfold Lp at hb
  rw [if_neg hv] at hb
  rcases hb with ⟨-, h1⟩ | ⟨g, h1, -, h2⟩
  · exact absurd ⟨hf, ht⟩ (h1 p)
  · have := h2 p ⟨hf, ht⟩
    omega
theorem fr_none (h : FrInv K T X n nt v (fun _ r => r < p) FR) (hv : v ≠ 3) (hf : Fst K T X n p) (ht : T p = (t : Int)) (htn : t < nt) : FR t < 0 := by
  by_cases h0 : FR t < 0
  · exact h0
  · obtain ⟨f, r, h1, h2, h3⟩ := h t htn (by omega)
    have := lp_le h1 hv hf (by omega)
    omega
theorem r_none (h : RInv K T X n v (fun _ r => r < p) R) {f : Nat} (hf : Tch K T X n f p) : R f < 0 := by
  by_cases h0 : R f < 0
  · exact h0
  · obtain ⟨r, h1, h2⟩ := (h f hf.2.1.1.1).1 (by omega)
    have := lst_le h1 hf
    omega
/-- The inner loop: where the list of p's locks stands. -/
structure In2 (K T X : Nat → Int) (n nt : Nat) (v : Int) (p : Nat) (prev steps g : Int) (R FR : Nat → Int) : Prop where
  ri : RInv K T X n v (fun f r => r < p ∨ (r = p ∧ (f : Int) ≤ prev)) R
  fr : FrInv K T X n nt v (fun f r => r < p ∨ (r = p ∧ (f : Int) ≤ prev)) FR
  g : LeastOr (fun h => Rel K T X n v h p ∧ prev < (h : Int)) g
  st : 0 ≤ steps ∧ steps ≤ prev + 1 ∧ -1 ≤ prev ∧ prev ≤ p
theorem In2.start (hr : RInv K T X n v (fun _ r => r < p) R) (hf : FrInv K T X n nt v (fun _ r => r < p) FR) (ha : AInv K T X n v (Run K T n) A N) (hp : p < n) : In2 K T X n nt v p (-1) 0 (A p) R FR := by
  refine ⟨hr.congr fun f r h => by omega, hf.congr fun f r h => by omega, (ha.a p hp).congr fun g => ⟨fun h => ⟨h.2, by omega⟩, fun h => ⟨h.1.1.1, h.1⟩⟩, by omega⟩
theorem In2.none {prev steps : Int} (h : In2 K T X n nt v p prev steps (-1) R FR) : RInv K T X n v (fun _ r => r < p + 1) R ∧ FrInv K T X n nt v (fun _ r => r < p + 1) FR := by
  have hno : ∀ g, ¬ (Rel K T X n v g p ∧ prev < (g : Int)) := by
    rcases h.g with ⟨-, h1⟩ | ⟨g, h1, -⟩
    · exact h1
    · omega
  have e : ∀ f r, Rel K T X n v f r → ((r < p ∨ (r = p ∧ (f : Int) ≤ prev)) ↔ r < p + 1) := fun f r hr => by
    constructor
    · intro h1; omega
    · intro h1
      by_cases h2 : r = p
      · subst h2
        by_cases h3 : prev < (f : Int)
        · exact absurd ⟨hr, h3⟩ (hno f)
        · exact .inr ⟨rfl, by omega⟩
      · exact .inl (by omega)
  exact ⟨h.ri.congr e, h.fr.congr e⟩
theorem In2.at {prev steps g : Int} (h : In2 K T X n nt v p prev steps g R FR) (h0 : g ≠ -1) : ∃ k : Nat, g = k ∧ k < n ∧ k ≤ p ∧ prev < (k : Int) ∧ Rel K T X n v k p ∧ R k < 0 := by
  rcases h.g with ⟨h1, -⟩ | ⟨k, h1, ⟨h2, h3⟩, h4⟩
  · exact absurd h1 h0
  · refine ⟨k, h1, h2.1.1.1, h2.run.2.2, h3, h2, ?_⟩
    by_cases h5 : R k < 0
    · exact h5
    · obtain ⟨r, h6, h7⟩ := (h.ri k h2.1.1.1).1 (by omega)
      have := h6.uniq h2
      omega
theorem In2.next {prev steps : Int} {k : Nat} (h : In2 K T X n nt v p prev steps k R FR) (ha : AInv K T X n v (Run K T n) A N) (hk : Rel K T X n v k p) (ht : T k = (t : Int)) (htn : t < nt) :
    In2 K T X n nt v p k (steps + 1) (N k) (upd R k p) FR ∧ In2 K T X n nt v p k (steps + 1) (N k) (upd R k p) (upd FR t p) := by
  have hpk : prev < (k : Int) := by
    rcases h.g with ⟨h1, -⟩ | ⟨j, h1, ⟨-, h3⟩, -⟩
    · omega
    · omega
  have hleast : ∀ j : Nat, Rel K T X n v j p → prev < (j : Int) → k ≤ j := by
    rcases h.g with ⟨h1, -⟩ | ⟨j, h1, -, h4⟩
    · omega
    · intro i hi hi2
      have := h4 i ⟨hi, hi2⟩
      omega
  have hkn := hk.1.1.1
  have hri : RInv K T X n v (fun f r => r < p ∨ (r = p ∧ (f : Int) ≤ k)) (upd R k p) := fun f hf => by
    by_cases e : f = k
    · subst e
      rw [upd_same]
      exact ⟨fun _ => ⟨p, hk, .inr ⟨rfl, by omega⟩⟩, fun _ => by omega⟩
    · rw [upd_other _ _ _ _ e, h.ri f hf]
      constructor
      · rintro ⟨r, h1, h2⟩; exact ⟨r, h1, by omega⟩
      · rintro ⟨r, h1, h2 | ⟨rfl, h2⟩⟩
        · exact ⟨r, h1, .inl h2⟩
        · refine ⟨r, h1, .inr ⟨rfl, ?_⟩⟩
          by_cases h3 : prev < (f : Int)
          · have := hleast f h1 h3
            omega
          · omega
  have hd : ∀ f r, Rel K T X n v f r → (r < p ∨ (r = p ∧ (f : Int) ≤ prev)) → (r < p ∨ (r = p ∧ (f : Int) ≤ k)) := fun f r _ h1 => by omega
  have hg : LeastOr (fun h => Rel K T X n v h p ∧ (k : Int) < (h : Int)) (N k) := (ha.nx k hkn).congr fun j => by
    constructor
    · rintro ⟨-, -, h1, r, h2, h3⟩
      have := h2.uniq hk
      subst this
      exact ⟨h3, by omega⟩
    · rintro ⟨h1, h2⟩
      exact ⟨hk.1.1, h1.1.1, by omega, p, hk, h1⟩
  have hst := h.st
  have hkp := hk.run.2.2
  refine ⟨⟨hri, fun s hs h0 => ?_, hg, by omega⟩, ⟨hri, fun s hs h0 => ?_, hg, by omega⟩⟩
  · obtain ⟨f, r, h1, h2, h3⟩ := h.fr s hs h0
    exact ⟨f, r, h1, hd f r h1 h2, h3⟩
  · by_cases e : s = t
    · subst e
      exact ⟨k, p, hk, .inr ⟨rfl, by omega⟩, ht⟩
    · rw [upd_other _ _ _ _ e] at h0
      obtain ⟨f, r, h1, h2, h3⟩ := h.fr s hs h0
      exact ⟨f, r, h1, hd f r h1 h2, h3⟩
/-- In the end: what has not gone back is what Strict keeps. -/
theorem r_end (h : RInv K T X n v (fun _ r => r < n) R) (hm : MInv K T X n (Run K T n) M) {f : Nat} (hf : Fst K T X n f) : R f < 0 ↔ (v = 2 ∧ M f = 2) := by
  have hm' : MInv K T X n (fun q => q < n) M := hm.congr fun q hq => ⟨fun _ => hq.1, fun _ => hq⟩
  rw [kp_of hm' hf]
  constructor
  · intro h0
    by_cases hk : Kp K T X n v f
    · exact hk
    · obtain ⟨r, hr⟩ := rel_ex hf hk
      have := (h f hf.1.1).2 ⟨r, hr, hr.run.1.1⟩
      omega
  · intro hk
    by_cases h0 : R f < 0
    · exact h0
    · obtain ⟨r, hr, -⟩ := (h f hf.1.1).1 (by omega)
      exact absurd hk hr.2.1
theorem FInv.mono (h : FInv K T X n nt CF) (ht : t < nt) : CF t ≤ CF (t + 1) := by
  rw [h t (by omega), h (t + 1) (by omega)]
  have := cnt_mono (P := fun g => Fst K T X n g ∧ T g < (t : Int)) (Q := fun g => Fst K T X n g ∧ T g < ((t + 1 : Nat) : Int)) (m := n) (fun g _ hg => ⟨hg.1, by have := hg.2; omega⟩)
  omega
theorem FInv.pos {f : Nat} (h : FInv K T X n nt CF) (ht : t < nt) (hf : Fst K T X n f) (hT : T f = (t : Int)) : (pos K T X n f : Int) < CF (t + 1) := by
  rw [h (t + 1) (by omega)]
  have := cnt_lt (P := fun h => Fst K T X n h ∧ (T h < T f ∨ (T h = T f ∧ h < f))) (Q := fun g => Fst K T X n g ∧ T g < ((t + 1 : Nat) : Int)) (m := n) hf.1.1 (fun hh => by omega) ⟨hf, by omega⟩ (fun g _ hg => ⟨hg.1, by have := hg.2; omega⟩)
  unfold Qxb6605516a.pos
  omega
theorem CuInv.end_ (h : CuInv K T X n nt n CU) (hf : FInv K T X n nt CF) (ht : t < nt) : CU t = CF (t + 1) := by
  rw [h t ht, hf (t + 1) (by omega)]
  congr 1
  refine cnt_congr fun g hg => ?_
  constructor
  · rintro ⟨h1, h2⟩; exact ⟨h1, by omega⟩
  · rintro ⟨h1, h2⟩; exact ⟨h1, by omega⟩
end
end Go.Proofs.Qxb6605516a
