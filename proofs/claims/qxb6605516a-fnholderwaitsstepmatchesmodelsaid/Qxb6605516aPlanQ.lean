import Derived.Test.Qxb6605516aPlanP
namespace Go.Proofs.Qxb6605516a
set_option linter.unusedVariables false

/-- The least, the greatest of a set of places, or -1. -/
def LeastOr (S : Nat → Prop) (x : Int) : Prop := (x = -1 ∧ ∀ g, ¬ S g) ∨ ∃ g : Nat, x = g ∧ S g ∧ ∀ h, S h → g ≤ h
def GreatOr (S : Nat → Prop) (x : Int) : Prop := (x = -1 ∧ ∀ g, ¬ S g) ∨ ∃ g : Nat, x = g ∧ S g ∧ ∀ h, S h → h ≤ g
theorem LeastOr.uniq {S : Nat → Prop} {x y : Int} (hx : LeastOr S x) (hy : LeastOr S y) : x = y := by
  rcases hx with ⟨rfl, h1⟩ | ⟨g, rfl, h1, h2⟩ <;> rcases hy with ⟨rfl, k1⟩ | ⟨k, rfl, k1, k2⟩
  · rfl
  · exact absurd k1 (h1 k)
  · exact absurd h1 (k1 g)
  · have := h2 k k1; have := k2 g h1; omega
theorem GreatOr.uniq {S : Nat → Prop} {x y : Int} (hx : GreatOr S x) (hy : GreatOr S y) : x = y := by
  rcases hx with ⟨rfl, h1⟩ | ⟨g, rfl, h1, h2⟩ <;> rcases hy with ⟨rfl, k1⟩ | ⟨k, rfl, k1, k2⟩
  · rfl
  · exact absurd k1 (h1 k)
  · exact absurd h1 (k1 g)
  · have := h2 k k1; have := k2 g h1; omega
theorem LeastOr.congr {S S' : Nat → Prop} {x : Int} (hx : LeastOr S x) (h : ∀ g, S g ↔ S' g) : LeastOr S' x := by
  have e : S = S' := funext fun g => propext (h g)
  rw [← e]; exact hx
theorem GreatOr.congr {S S' : Nat → Prop} {x : Int} (hx : GreatOr S x) (h : ∀ g, S g ↔ S' g) : GreatOr S' x := by
  have e : S = S' := funext fun g => propext (h g)
  rw [← e]; exact hx
theorem great_ex (S : Nat → Prop) (n : Nat) (h : ∀ g, S g → g < n) : ∃ x, GreatOr S x := by
  induction n generalizing S with
  | zero => exact ⟨-1, .inl ⟨rfl, fun g hg => by have := h g hg; omega⟩⟩
  | succ n ih =>
    by_cases hn : S n
    · exact ⟨n, .inr ⟨n, rfl, hn, fun k hk => by have := h k hk; omega⟩⟩
    · exact ih S (fun g hg => by
        have := h g hg
        have : g ≠ n := by rintro rfl; exact hn hg
        omega)

def Run (K T : Nat → Int) (n p : Nat) : Prop := p < n ∧ (K p = 1 ∨ K p = 2) ∧ ∀ q, q < p → ¬ ((K q = 3 ∨ K q = 4) ∧ T q = T p)
/-- A first touch. -/
def Fst (K T X : Nat → Int) (n f : Nat) : Prop := Run K T n f ∧ ∀ q, q < f → ¬ (Run K T n q ∧ T q = T f ∧ X q = X f)
/-- f is the first touch of p's item. -/
def Tch (K T X : Nat → Int) (n f p : Nat) : Prop := Run K T n p ∧ Fst K T X n f ∧ T p = T f ∧ X p = X f
def needAt (K : Nat → Int) (p : Nat) : Int := if K p = 1 then 1 else if K p = 2 then 2 else 0
/-- Strict keeps it. -/
def Kp (K T X : Nat → Int) (n : Nat) (v : Int) (f : Nat) : Prop := v = 2 ∧ ∃ p, Tch K T X n f p ∧ K p = 2
def Lst (K T X : Nat → Int) (n f r : Nat) : Prop := Tch K T X n f r ∧ ∀ p, Tch K T X n f p → p ≤ r
def Lp (K T X : Nat → Int) (n : Nat) (v t b : Int) : Prop := if v = 3 then b = -1 else GreatOr (fun g => Fst K T X n g ∧ T g = t) b
/-- The lock taken at f goes back right after r. -/
def Rel (K T X : Nat → Int) (n : Nat) (v : Int) (f r : Nat) : Prop := Fst K T X n f ∧ ¬ Kp K T X n v f ∧ ∃ (a : Nat) (b : Int), Lst K T X n f a ∧ Lp K T X n v (T f) b ∧ (((r : Int) = a ∧ b ≤ a) ∨ ((r : Int) = b ∧ (a : Int) < b))

section
variable {K T X : Nat → Int} {n : Nat} {v : Int}
theorem Fst.self {f : Nat} (h : Fst K T X n f) : Tch K T X n f f := ⟨h.1, h, rfl, rfl⟩
theorem Tch.le {f p : Nat} (h : Tch K T X n f p) : f ≤ p := by
  by_cases hlt : p < f
  · exact absurd ⟨h.1, h.2.2.1, h.2.2.2⟩ (h.2.1.2 p hlt)
  · omega
theorem fst_uniq {f g : Nat} (hf : Fst K T X n f) (hg : Fst K T X n g) (ht : T f = T g) (hx : X f = X g) : f = g := by
  rcases Nat.lt_trichotomy f g with h | h | h
  · exact absurd ⟨hf.1, ht, hx⟩ (hg.2 f h)
  · exact h
  · exact absurd ⟨hg.1, ht.symm, hx.symm⟩ (hf.2 g h)
theorem Tch.uniq {f g p : Nat} (hf : Tch K T X n f p) (hg : Tch K T X n g p) : f = g :=
  fst_uniq hf.2.1 hg.2.1 (hf.2.2.1.symm.trans hg.2.2.1) (hf.2.2.2.symm.trans hg.2.2.2)
theorem run_tch (p : Nat) (h : Run K T n p) : ∃ f, Tch K T X n f p := by
  induction p using Nat.strongRecOn with
  | ind p ih =>
    by_cases hq : ∃ q, q < p ∧ Run K T n q ∧ T q = T p ∧ X q = X p
    · obtain ⟨q, hlt, hr, ht, hx⟩ := hq
      obtain ⟨f, h1, h2, h3, h4⟩ := ih q hlt hr
      exact ⟨f, h, h2, ht.symm.trans h3, hx.symm.trans h4⟩
    · exact ⟨p, h, ⟨h, fun q hlt hh => hq ⟨q, hlt, hh⟩⟩, rfl, rfl⟩
theorem lst_ex {f : Nat} (h : Fst K T X n f) : ∃ r, Lst K T X n f r := by
  obtain ⟨x, hx⟩ := great_ex (fun p => Tch K T X n f p) n (fun p hp => hp.1.1)
  rcases hx with ⟨-, h1⟩ | ⟨g, -, h1, h2⟩
  · exact absurd h.self (h1 f)
  · exact ⟨g, h1, h2⟩
theorem Lst.uniq {f r s : Nat} (hr : Lst K T X n f r) (hs : Lst K T X n f s) : r = s := by
  have := hr.2 s hs.1; have := hs.2 r hr.1; omega
theorem Lp.uniq {t b c : Int} (hb : Lp K T X n v t b) (hc : Lp K T X n v t c) : b = c := by
  unfold Lp at hb hc
  by_cases h3 : v = 3
  · rw [if_pos h3] at hb hc; omega
  · rw [if_neg h3] at hb hc; exact hb.uniq hc
theorem lp_ex (t : Int) : ∃ b, Lp K T X n v t b := by
  unfold Lp
  split
  · exact ⟨-1, rfl⟩
  · exact great_ex _ n (fun g hg => hg.1.1.1)
theorem Lp.at {t b : Int} (h : Lp K T X n v t b) (h0 : 0 ≤ b) : ∃ g : Nat, b = g ∧ Fst K T X n g ∧ T g = t := by
  unfold Lp at h
  split at h
  · omega
  · rcases h with ⟨h, -⟩ | ⟨g, h, h1, -⟩
    · omega
    · exact ⟨g, h, h1⟩
theorem Lp.ge {t b : Int} (h : Lp K T X n v t b) : -1 ≤ b := by
  unfold Lp at h
  split at h
  · omega
  · rcases h with ⟨h, -⟩ | ⟨g, h, h1, -⟩ <;> omega
theorem Rel.uniq {f r s : Nat} (hr : Rel K T X n v f r) (hs : Rel K T X n v f s) : r = s := by
  obtain ⟨-, -, a, b, h1, h2, h3⟩ := hr
  obtain ⟨-, -, c, d, k1, k2, k3⟩ := hs
  have := h1.uniq k1
  have := h2.uniq k2
  omega
theorem rel_ex {f : Nat} (h : Fst K T X n f) (hk : ¬ Kp K T X n v f) : ∃ r, Rel K T X n v f r := by
  obtain ⟨a, ha⟩ := lst_ex h
  obtain ⟨b, hb⟩ := lp_ex (K := K) (X := X) (n := n) (v := v) (T f)
  by_cases hab : b ≤ a
  · exact ⟨a, h, hk, a, b, ha, hb, .inl ⟨rfl, hab⟩⟩
  · exact ⟨b.toNat, h, hk, a, b, ha, hb, .inr ⟨by omega, by omega⟩⟩
theorem Rel.run {f r : Nat} (h : Rel K T X n v f r) : Run K T n r ∧ T r = T f ∧ f ≤ r := by
  obtain ⟨h1, -, a, b, ha, hb, h | h⟩ := h
  · obtain rfl : r = a := by omega
    exact ⟨ha.1.1, ha.1.2.2.1, ha.1.le⟩
  · obtain ⟨g, hg, h2, h3⟩ := hb.at (by omega)
    obtain rfl : r = g := by omega
    have := ha.1.le
    exact ⟨h2.1, h3, by omega⟩
theorem Rel.two {f g r : Nat} (hf : Rel K T X n v f r) (hg : Rel K T X n v g r) (hne : f ≠ g) : Lp K T X n v (T f) r := by
  have t1 := hf.run.2.1
  have t2 := hg.run.2.1
  obtain ⟨-, -, a, b, h1, h2, h3⟩ := hf
  obtain ⟨-, -, c, d, k1, k2, k3⟩ := hg
  rw [← t2, t1] at k2
  obtain rfl := h2.uniq k2
  by_cases hb : (r : Int) = b
  · rw [hb]; exact h2
  · exfalso
    obtain rfl : r = a := by omega
    obtain rfl : r = c := by omega
    exact hne (h1.1.uniq k1.1)

/-- What goes back after what, of the locks in Pr. -/
structure AInv (K T X : Nat → Int) (n : Nat) (v : Int) (Pr : Nat → Prop) (A N : Nat → Int) : Prop where
  a : ∀ r, r < n → LeastOr (fun g => Pr g ∧ Rel K T X n v g r) (A r)
  nx : ∀ g, g < n → LeastOr (fun h => Pr g ∧ Pr h ∧ g < h ∧ ∃ r, Rel K T X n v g r ∧ Rel K T X n v h r) (N g)
theorem AInv.congr {Pr Pr' : Nat → Prop} {A N : Nat → Int} (h : AInv K T X n v Pr A N) (e : ∀ g, Fst K T X n g → (Pr g ↔ Pr' g)) : AInv K T X n v Pr' A N := by
  refine ⟨fun r hr => (h.a r hr).congr fun g => ?_, fun g hg => (h.nx g hg).congr fun k => ?_⟩
  · constructor
    · rintro ⟨h1, h2⟩; exact ⟨(e g h2.1).1 h1, h2⟩
    · rintro ⟨h1, h2⟩; exact ⟨(e g h2.1).2 h1, h2⟩
  · constructor
    · rintro ⟨h1, h2, h3, r, h4, h5⟩; exact ⟨(e g h4.1).1 h1, (e k h5.1).1 h2, h3, r, h4, h5⟩
    · rintro ⟨h1, h2, h3, r, h4, h5⟩; exact ⟨(e g h4.1).2 h1, (e k h5.1).2 h2, h3, r, h4, h5⟩
theorem AInv.start {A N : Nat → Int} (ha : ∀ i, A i = -1) (hn : ∀ i, N i = -1) : AInv K T X n v (fun _ => False) A N :=
  ⟨fun r _ => .inl ⟨ha r, fun g h => h.1⟩, fun g _ => .inl ⟨hn g, fun h k => k.1⟩⟩
theorem AInv.uniq {Pr : Nat → Prop} {A N A' N' : Nat → Int} (h : AInv K T X n v Pr A N) (k : AInv K T X n v Pr A' N') (i : Nat) (hi : i < n) : A i = A' i ∧ N i = N' i :=
  ⟨(h.a i hi).uniq (k.a i hi), (h.nx i hi).uniq (k.nx i hi)⟩
/-- One lock more: it is kept. -/
theorem AInv.none {Pr : Nat → Prop} {A N : Nat → Int} {p : Nat} (h : AInv K T X n v Pr A N) (hp : ∀ r, ¬ Rel K T X n v p r) : AInv K T X n v (fun g => Pr g ∨ g = p) A N := by
  refine ⟨fun r hr => (h.a r hr).congr fun g => ?_, fun g hg => (h.nx g hg).congr fun k => ?_⟩
  · constructor
    · rintro ⟨h1, h2⟩; exact ⟨.inl h1, h2⟩
    · rintro ⟨h1 | rfl, h2⟩
      · exact ⟨h1, h2⟩
      · exact absurd h2 (hp r)
  · constructor
    · rintro ⟨h1, h2, h3, r, h4, h5⟩; exact ⟨.inl h1, .inl h2, h3, r, h4, h5⟩
    · rintro ⟨h1, h2, h3, r, h4, h5⟩
      refine ⟨?_, ?_, h3, r, h4, h5⟩
      · rcases h1 with h1 | rfl
        · exact h1
        · exact absurd h4 (hp r)
      · rcases h2 with h2 | rfl
        · exact h2
        · exact absurd h5 (hp r)
/-- .. it is the first that goes back there. -/
theorem AInv.head {Pr : Nat → Prop} {A N : Nat → Int} {p r : Nat} (h : AInv K T X n v Pr A N) (hp : Rel K T X n v p r) (h0 : ∀ g, Pr g → ¬ Rel K T X n v g r) : AInv K T X n v (fun g => Pr g ∨ g = p) (upd A r p) N := by
  refine ⟨fun s hs => ?_, fun g hg => (h.nx g hg).congr fun k => ?_⟩
  · by_cases e : s = r
    · subst e
      rw [upd_same]
      refine .inr ⟨p, rfl, ⟨.inr rfl, hp⟩, ?_⟩
      rintro g ⟨h1 | rfl, h2⟩
      · exact absurd h2 (h0 g h1)
      · exact Nat.le_refl _
    · rw [upd_other _ _ _ _ e]
      refine (h.a s hs).congr fun g => ?_
      constructor
      · rintro ⟨h1, h2⟩; exact ⟨.inl h1, h2⟩
      · rintro ⟨h1 | rfl, h2⟩
        · exact ⟨h1, h2⟩
        · exact absurd (h2.uniq hp) e
  · constructor
    · rintro ⟨h1, h2, h3, r, h4, h5⟩; exact ⟨.inl h1, .inl h2, h3, r, h4, h5⟩
    · rintro ⟨h1, h2, h3, s, h4, h5⟩
      rcases h1 with h1 | rfl
      · rcases h2 with h2 | rfl
        · exact ⟨h1, h2, h3, s, h4, h5⟩
        · obtain rfl := h5.uniq hp
          exact absurd h4 (h0 g h1)
      · obtain rfl := h4.uniq hp
        rcases h2 with h2 | rfl
        · exact absurd h5 (h0 k h2)
        · omega
/-- .. it goes back behind the last there. -/
theorem AInv.next {Pr : Nat → Prop} {A N : Nat → Int} {p r tl : Nat} (h : AInv K T X n v Pr A N) (hp : Rel K T X n v p r) (h1 : Pr tl) (h2 : Rel K T X n v tl r) (h3 : ∀ g, Pr g → Rel K T X n v g r → g ≤ tl) (hlt : tl < p) : AInv K T X n v (fun g => Pr g ∨ g = p) A (upd N tl p) := by
  refine ⟨fun s hs => ?_, fun g hg => ?_⟩
  · rcases h.a s hs with ⟨e, h4⟩ | ⟨g, e, h4, h5⟩
    · refine .inl ⟨e, ?_⟩
      rintro g ⟨h6 | rfl, h7⟩
      · exact h4 g ⟨h6, h7⟩
      · obtain rfl := h7.uniq hp
        exact h4 tl ⟨h1, h2⟩
    · refine .inr ⟨g, e, ⟨.inl h4.1, h4.2⟩, ?_⟩
      rintro k ⟨h6 | rfl, h7⟩
      · exact h5 k ⟨h6, h7⟩
      · obtain rfl := h7.uniq hp
        have := h5 tl ⟨h1, h2⟩
        omega
  · by_cases e : g = tl
    · subst e
      rw [upd_same]
      refine .inr ⟨p, rfl, ⟨.inl h1, .inr rfl, hlt, r, h2, hp⟩, ?_⟩
      rintro k ⟨h4, h5, h6, s, h7, h8⟩
      rcases h5 with h5 | rfl
      · obtain rfl := h7.uniq h2
        have := h3 k h5 h8
        omega
      · exact Nat.le_refl _
    · rw [upd_other _ _ _ _ e]
      have key : ∀ k s, k = p → Pr g → Rel K T X n v g s → Rel K T X n v k s → g < tl := by
        rintro k s rfl h4 h5 h6
        obtain rfl := h6.uniq hp
        have := h3 g h4 h5
        omega
      rcases h.nx g hg with ⟨e2, h4⟩ | ⟨k, e2, h4, h5⟩
      · refine .inl ⟨e2, ?_⟩
        rintro k ⟨h5, h6, h7, s, h8, h9⟩
        rcases h5 with h5 | rfl
        · rcases h6 with h6 | rfl
          · exact h4 k ⟨h5, h6, h7, s, h8, h9⟩
          · have h10 := key k s rfl h5 h8 h9
            obtain rfl := h9.uniq hp
            exact h4 tl ⟨h5, h1, h10, s, h8, h2⟩
        · obtain rfl := h8.uniq hp
          rcases h6 with h6 | rfl
          · have := h3 k h6 h9; omega
          · omega
      · refine .inr ⟨k, e2, ⟨.inl h4.1, .inl h4.2.1, h4.2.2⟩, ?_⟩
        rintro m ⟨h5', h6, h7, s, h8, h9⟩
        rcases h5' with h5' | rfl
        · rcases h6 with h6 | rfl
          · exact h5 m ⟨h5', h6, h7, s, h8, h9⟩
          · have h10 := key m s rfl h5' h8 h9
            obtain rfl := h9.uniq hp
            have := h5 tl ⟨h5', h1, h10, s, h8, h2⟩
            omega
        · obtain rfl := h8.uniq hp
          rcases h6 with h6 | rfl
          · have := h3 m h6 h9; omega
          · omega

/-- The locks asked for, of the reads and writes in Pr. -/
def MInv (K T X : Nat → Int) (n : Nat) (Pr : Nat → Prop) (M : Nat → Int) : Prop := ∀ f, f < n → (∀ q, Pr q → Tch K T X n f q → needAt K q ≤ M f) ∧ ((M f = 0 ∧ ∀ q, Pr q → ¬ Tch K T X n f q) ∨ ∃ q, Pr q ∧ Tch K T X n f q ∧ M f = needAt K q)
theorem needAt_pos {p : Nat} (h : Run K T n p) : 1 ≤ needAt K p ∧ needAt K p ≤ 2 := by
  unfold needAt; rcases h.2.1 with h | h <;> simp [h]
theorem needAt_nonneg (p : Nat) : 0 ≤ needAt K p ∧ needAt K p ≤ 2 := by
  unfold needAt; split
  · omega
  · split <;> omega
theorem MInv.start {M : Nat → Int} (h : ∀ i, M i = 0) : MInv K T X n (fun _ => False) M := fun f _ => ⟨fun q h => h.elim, .inl ⟨h f, fun q h => h.elim⟩⟩
theorem MInv.congr {Pr Pr' : Nat → Prop} {M : Nat → Int} (h : MInv K T X n Pr M) (e : ∀ q, Run K T n q → (Pr q ↔ Pr' q)) : MInv K T X n Pr' M := by
  intro f hf
  obtain ⟨h1, h2⟩ := h f hf
  refine ⟨fun q h3 h4 => h1 q ((e q h4.1).2 h3) h4, ?_⟩
  rcases h2 with ⟨h2, h3⟩ | ⟨q, h2, h3, h4⟩
  · exact .inl ⟨h2, fun q h4 h5 => h3 q ((e q h5.1).2 h4) h5⟩
  · exact .inr ⟨q, (e q h3.1).1 h2, h3, h4⟩
theorem MInv.uniq {Pr : Nat → Prop} {M M' : Nat → Int} (h : MInv K T X n Pr M) (k : MInv K T X n Pr M') (i : Nat) (hi : i < n) : M i = M' i := by
  obtain ⟨h1, h2⟩ := h i hi
  obtain ⟨k1, k2⟩ := k i hi
  rcases h2 with ⟨h2, h3⟩ | ⟨q, h2, h3, h4⟩ <;> rcases k2 with ⟨k2, k3⟩ | ⟨r, k2, k3, k4⟩
  · omega
  · exact absurd k3 (h3 r k2)
  · exact absurd h3 (k3 q h2)
  · have := h1 r k2 k3; have := k1 q h2 h3; omega
theorem MInv.bounds {Pr : Nat → Prop} {M : Nat → Int} (h : MInv K T X n Pr M) (i : Nat) (hi : i < n) : 0 ≤ M i ∧ M i ≤ 2 := by
  rcases (h i hi).2 with ⟨h2, h3⟩ | ⟨q, h2, h3, h4⟩
  · omega
  · rw [h4]; exact needAt_nonneg q
theorem MInv.add {Pr : Nat → Prop} {M : Nat → Int} {f p : Nat} {m : Int} (h : MInv K T X n Pr M) (ht : Tch K T X n f p) (hf : f < n) (hm : m = max (M f) (needAt K p)) : MInv K T X n (fun q => Pr q ∨ q = p) (upd M f m) := by
  intro g hg
  by_cases e : g = f
  · subst e
    rw [upd_same]
    obtain ⟨h1, h2⟩ := h g hg
    have n1 := needAt_pos ht.1
    refine ⟨?_, .inr ?_⟩
    · rintro q (h3 | rfl) h4
      · have := h1 q h3 h4; omega
      · omega
    · rcases h2 with ⟨h2, h3⟩ | ⟨q, h2, h3, h4⟩
      · exact ⟨p, .inr rfl, ht, by omega⟩
      · by_cases hc : M g < needAt K p
        · exact ⟨p, .inr rfl, ht, by omega⟩
        · exact ⟨q, .inl h2, h3, by omega⟩
  · rw [upd_other _ _ _ _ e]
    obtain ⟨h1, h2⟩ := h g hg
    refine ⟨?_, ?_⟩
    · rintro q (h3 | rfl) h4
      · exact h1 q h3 h4
      · exact absurd (h4.uniq ht) e
    · rcases h2 with ⟨h2, h3⟩ | ⟨q, h2, h3, h4⟩
      · refine .inl ⟨h2, ?_⟩
        rintro q (h4 | rfl) h5
        · exact h3 q h4 h5
        · exact e (h5.uniq ht)
      · exact .inr ⟨q, .inl h2, h3, h4⟩
/-- A lock's mode, when all is read. -/
theorem MInv.two {Pr : Nat → Prop} {M : Nat → Int} {f : Nat} (h : MInv K T X n Pr M) (hf : f < n) (hp : ∀ q, Tch K T X n f q → Pr q) : M f = 2 ↔ ∃ p, Tch K T X n f p ∧ K p = 2 := by
  obtain ⟨h1, h2⟩ := h f hf
  have hb := h.bounds f hf
  constructor
  · intro e
    rcases h2 with ⟨h2, h3⟩ | ⟨q, h2, h3, h4⟩
    · omega
    · refine ⟨q, h3, ?_⟩
      rw [e] at h4
      unfold needAt at h4
      split at h4
      · omega
      · split at h4
        · assumption
        · omega
  · rintro ⟨p, h3, h4⟩
    have := h1 p (hp p h3) h3
    have e : needAt K p = 2 := by unfold needAt; simp [h4]
    omega
end
end Go.Proofs.Qxb6605516a
