import Derived.Test.Qxb6605516aPlanU
namespace Go.Proofs.Qxb6605516a
set_option linter.unusedVariables false

section
variable {K T X : Nat → Int} {n nt : Nat} {v : Int} {p : Nat} {M ST LA LP EM EA EN TA FR CU G : Nat → Int}
/-- The last touches, of the places below p. -/
def LaInv (K T X : Nat → Int) (n p : Nat) (LA : Nat → Int) : Prop := ∀ f, f < n → ∀ q, q < p → Tch K T X n f q → ∃ g : Nat, LA f = g ∧ g < p ∧ Tch K T X n f g ∧ ∀ h, h < p → Tch K T X n f h → h ≤ g
theorem LaInv.skip (h : LaInv K T X n p LA) (hp : ¬ Run K T n p) : LaInv K T X n (p + 1) LA := by
  intro f hf q hq ht
  have hq' : q < p := by
    by_cases e : q = p
    · subst e; exact absurd ht.1 hp
    · omega
  obtain ⟨g, h1, h2, h3, h4⟩ := h f hf q hq' ht
  refine ⟨g, h1, by omega, h3, fun k hk hkt => ?_⟩
  by_cases e : k = p
  · subst e; exact absurd hkt.1 hp
  · exact h4 k (by omega) hkt
theorem LaInv.set {f : Nat} (h : LaInv K T X n p LA) (ht : Tch K T X n f p) : LaInv K T X n (p + 1) (upd LA f p) := by
  intro g hg q hq hq2
  by_cases e : g = f
  · subst e
    exact ⟨p, upd_same _ _ _, by omega, ht, fun k hk _ => by omega⟩
  · rw [upd_other _ _ _ _ e]
    have hq' : q < p := by
      by_cases e2 : q = p
      · subst e2; exact absurd (hq2.uniq ht) e
      · omega
    obtain ⟨k, h1, h2, h3, h4⟩ := h g hg q hq' hq2
    refine ⟨k, h1, by omega, h3, fun m hm hmt => ?_⟩
    by_cases e2 : m = p
    · subst e2; exact absurd (hmt.uniq ht) e
    · exact h4 m (by omega) hmt
theorem LaInv.done {f : Nat} (h : LaInv K T X n n LA) (hf : Fst K T X n f) : ∃ g : Nat, LA f = g ∧ g < n ∧ Lst K T X n f g := by
  obtain ⟨g, h1, h2, h3, h4⟩ := h f hf.1.1 f hf.1.1 hf.self
  exact ⟨g, h1, h2, h3, fun q hq => h4 q hq.1.1 hq⟩
theorem MInv.skipP (h : MInv K T X n (fun q => q < p) M) (hp : ¬ Run K T n p) : MInv K T X n (fun q => q < p + 1) M :=
  h.congr fun q hq => by
    constructor
    · intro h; omega
    · intro h
      by_cases e : q = p
      · subst e; exact absurd hq hp
      · omega
theorem MInv.up {f : Nat} (h : MInv K T X n (fun q => q < p) M) (ht : Tch K T X n f p) (hf : f < n) (hlt : M f < needAt K p) : MInv K T X n (fun q => q < p + 1) (upd M f (needAt K p)) :=
  (h.add ht hf (m := needAt K p) (by omega)).congr fun q _ => by omega
theorem MInv.same {f : Nat} (h : MInv K T X n (fun q => q < p) M) (ht : Tch K T X n f p) (hf : f < n) (hlt : ¬ M f < needAt K p) : MInv K T X n (fun q => q < p + 1) M := by
  have h1 := (h.add ht hf (m := M f) (by omega)).congr (Pr' := fun q => q < p + 1) fun q _ => by omega
  have e : upd M f (M f) = M := by
    funext d
    by_cases e : d = f
    · subst e; exact upd_same _ _ _
    · exact upd_other _ _ _ _ e
  rwa [e] at h1
/-- The lock points. -/
def LpInv (K T X : Nat → Int) (n nt p : Nat) (LP : Nat → Int) : Prop := ∀ t : Nat, t < nt → GreatOr (fun g => g < p ∧ Fst K T X n g ∧ T g = t) (LP t)
theorem LpInv.start : LpInv K T X n nt 0 (fun _ => -1) := fun t _ => .inl ⟨rfl, fun g h => by omega⟩
theorem LpInv.skip (h : LpInv K T X n nt p LP) (hp : ¬ Fst K T X n p) : LpInv K T X n nt (p + 1) LP := fun t ht => (h t ht).congr fun g => by
  constructor
  · rintro ⟨h1, h2⟩; exact ⟨by omega, h2⟩
  · rintro ⟨h1, h2⟩
    by_cases e : g = p
    · subst e; exact absurd h2.1 hp
    · exact ⟨by omega, h2⟩
theorem LpInv.set {t : Nat} (h : LpInv K T X n nt p LP) (hp : Fst K T X n p) (ht : T p = t) : LpInv K T X n nt (p + 1) (upd LP t p) := by
  intro s hs
  by_cases e : s = t
  · subst e
    rw [upd_same]
    exact .inr ⟨p, rfl, ⟨by omega, hp, ht⟩, fun k hk => by omega⟩
  · rw [upd_other _ _ _ _ e]
    refine (h s hs).congr fun g => ?_
    constructor
    · rintro ⟨h1, h2⟩; exact ⟨by omega, h2⟩
    · rintro ⟨h1, h2⟩
      by_cases e2 : g = p
      · subst e2; omega
      · exact ⟨by omega, h2⟩
/-- The lock points, as the plan takes them. -/
def LpAll (K T X : Nat → Int) (n nt : Nat) (v : Int) (LP : Nat → Int) : Prop := ∀ t : Nat, t < nt → Lp K T X n v t (LP t)
theorem LpInv.all (h : LpInv K T X n nt n LP) (hv : v ≠ 3) : LpAll K T X n nt v LP := fun t ht => by
  unfold Lp
  rw [if_neg hv]
  exact (h t ht).congr fun g => ⟨fun h => h.2, fun h => ⟨h.1.1.1, h⟩⟩
theorem lpAll_3 (hv : v = 3) : LpAll K T X n nt v (fun _ => -1) := fun t ht => by
  unfold Lp
  rw [if_pos hv]
/-- The law's tables, of the first touches below f. -/
structure E3 (K T X : Nat → Int) (n : Nat) (v : Int) (ST : Nat → Int) (f : Nat) (EM EA EN TA : Nat → Int) : Prop where
  ai : AInv K T X n v (fun g => g < f) EA EN
  ta : ∀ r, r < n → GreatOr (fun g => g < f ∧ Rel K T X n v g r) (TA r)
  em1 : ∀ g, g < f → Fst K T X n g → EM g = ST g
  em0 : ∀ g, ¬ (g < f ∧ Fst K T X n g) → EM g = 0
theorem E3.start : E3 K T X n v ST 0 (fun _ => 0) (fun _ => -1) (fun _ => -1) (fun _ => -1) :=
  ⟨(AInv.start (fun _ => rfl) (fun _ => rfl)).congr fun g _ => ⟨False.elim, fun h => by omega⟩, fun r _ => .inl ⟨rfl, fun g h => by omega⟩, fun g h => by omega, fun _ _ => rfl⟩
theorem E3.em_set {f : Nat} (h : E3 K T X n v ST f EM EA EN TA) (hf : Fst K T X n f) : (∀ g, g < f + 1 → Fst K T X n g → upd EM f (ST f) g = ST g) ∧ ∀ g, ¬ (g < f + 1 ∧ Fst K T X n g) → upd EM f (ST f) g = 0 := by
  constructor
  · intro g hg hgf
    by_cases e : g = f
    · subst e; exact upd_same _ _ _
    · rw [upd_other _ _ _ _ e]; exact h.em1 g (by omega) hgf
  · intro g hg
    by_cases e : g = f
    · subst e; exact absurd ⟨by omega, hf⟩ hg
    · rw [upd_other _ _ _ _ e]; exact h.em0 g (fun hh => hg ⟨by omega, hh.2⟩)
theorem E3.skip {f : Nat} (h : E3 K T X n v ST f EM EA EN TA) (hf : ¬ Fst K T X n f) : E3 K T X n v ST (f + 1) EM EA EN TA := by
  have e : ∀ g, Fst K T X n g → (g < f ↔ g < f + 1) := fun g hg => by
    constructor
    · intro h; omega
    · intro h
      by_cases e : g = f
      · subst e; exact absurd hg hf
      · omega
  refine ⟨h.ai.congr e, fun r hr => (h.ta r hr).congr fun g => ?_, fun g hg hgf => h.em1 g ((e g hgf).2 hg) hgf, fun g hg => h.em0 g fun hh => hg ⟨by omega, hh.2⟩⟩
  constructor
  · rintro ⟨h1, h2⟩; exact ⟨(e g h2.1).1 h1, h2⟩
  · rintro ⟨h1, h2⟩; exact ⟨(e g h2.1).2 h1, h2⟩
theorem ta_same {f : Nat} (h : ∀ r, r < n → GreatOr (fun g => g < f ∧ Rel K T X n v g r) (TA r)) (hf : ∀ r, ¬ Rel K T X n v f r) : ∀ r, r < n → GreatOr (fun g => g < f + 1 ∧ Rel K T X n v g r) (TA r) := fun r hr => (h r hr).congr fun g => by
  constructor
  · rintro ⟨h1, h2⟩; exact ⟨by omega, h2⟩
  · rintro ⟨h1, h2⟩
    by_cases e : g = f
    · subst e; exact absurd h2 (hf r)
    · exact ⟨by omega, h2⟩
theorem ta_set {f r : Nat} (h : ∀ r, r < n → GreatOr (fun g => g < f ∧ Rel K T X n v g r) (TA r)) (hf : Rel K T X n v f r) : ∀ s, s < n → GreatOr (fun g => g < f + 1 ∧ Rel K T X n v g s) (upd TA r f s) := by
  intro s hs
  by_cases e : s = r
  · subst e
    rw [upd_same]
    exact .inr ⟨f, rfl, ⟨by omega, hf⟩, fun k hk => by omega⟩
  · rw [upd_other _ _ _ _ e]
    refine (h s hs).congr fun g => ?_
    constructor
    · rintro ⟨h1, h2⟩; exact ⟨by omega, h2⟩
    · rintro ⟨h1, h2⟩
      by_cases e2 : g = f
      · subst e2; exact absurd (h2.uniq hf) e
      · exact ⟨by omega, h2⟩
theorem lt_next {f g : Nat} : g < f ∨ g = f ↔ g < f + 1 := by omega
theorem E3.kept {f : Nat} (h : E3 K T X n v ST f EM EA EN TA) (hf : Fst K T X n f) (hk : Kp K T X n v f) : E3 K T X n v ST (f + 1) (upd EM f (ST f)) EA EN TA :=
  ⟨(h.ai.none fun r hr => hr.2.1 hk).congr fun g _ => lt_next, ta_same h.ta fun r hr => hr.2.1 hk, (h.em_set hf).1, (h.em_set hf).2⟩
theorem E3.head {f r : Nat} (h : E3 K T X n v ST f EM EA EN TA) (hf : Rel K T X n v f r) (hr : r < n) (h0 : EA r < 0) : E3 K T X n v ST (f + 1) (upd EM f (ST f)) (upd EA r f) EN (upd TA r f) := by
  have hno : ∀ g, g < f → ¬ Rel K T X n v g r := by
    rcases h.ai.a r hr with ⟨-, h1⟩ | ⟨g, h1, -⟩
    · exact fun g hg hgr => h1 g ⟨hg, hgr⟩
    · omega
  exact ⟨(h.ai.head hf hno).congr fun g _ => lt_next, ta_set h.ta hf, (h.em_set hf.1).1, (h.em_set hf.1).2⟩
theorem E3.more {f r : Nat} (h : E3 K T X n v ST f EM EA EN TA) (hf : Rel K T X n v f r) (hr : r < n) (h0 : ¬ EA r < 0) : ∃ tl : Nat, TA r = tl ∧ tl < n ∧ E3 K T X n v ST (f + 1) (upd EM f (ST f)) EA (upd EN tl f) (upd TA r f) := by
  obtain ⟨k, hk1, hk2⟩ : ∃ k, k < f ∧ Rel K T X n v k r := by
    rcases h.ai.a r hr with ⟨h1, -⟩ | ⟨g, -, h1, -⟩
    · omega
    · exact ⟨g, h1⟩
  rcases h.ta r hr with ⟨-, h1⟩ | ⟨tl, h1, h2, h3⟩
  · exact absurd ⟨hk1, hk2⟩ (h1 k)
  · exact ⟨tl, h1, h2.2.1.1.1, (h.ai.next hf h2.1 h2.2 (fun g hg hgr => h3 g ⟨hg, hgr⟩) h2.1).congr fun g _ => lt_next, ta_set h.ta hf, (h.em_set hf.1).1, (h.em_set hf.1).2⟩
theorem rel_of {f a : Nat} {b : Int} (hf : Fst K T X n f) (hk : ¬ Kp K T X n v f) (ha : Lst K T X n f a) (hb : Lp K T X n v (T f) b) : (b ≤ a → Rel K T X n v f a) ∧ (∀ c : Nat, b = c → (a : Int) < b → Rel K T X n v f c) :=
  ⟨fun h => ⟨hf, hk, a, b, ha, hb, .inl ⟨rfl, h⟩⟩, fun c hc h => ⟨hf, hk, a, b, ha, hb, .inr ⟨hc.symm, h⟩⟩⟩
theorem kp_of {f : Nat} (h : MInv K T X n (fun q => q < n) ST) (hf : Fst K T X n f) : (v = 2 ∧ ST f = 2) ↔ Kp K T X n v f := by
  unfold Kp
  rw [h.two hf.1.1 (fun q hq => hq.1.1)]
/-- The tables are the plan. -/
theorem E3.same (h : E3 K T X n v ST n EM EA EN TA) (hs : MInv K T X n (fun q => q < n) ST) {A N : Nat → Int} (hm : MInv K T X n (Run K T n) M) (ha : AInv K T X n v (Run K T n) A N) (i : Nat) (hi : i < n) : EM i = M i ∧ EA i = A i ∧ EN i = N i := by
  have hs' : MInv K T X n (Run K T n) ST := hs.congr fun q hq => ⟨fun _ => hq, fun _ => hq.1⟩
  have ha' : AInv K T X n v (Run K T n) EA EN := h.ai.congr fun g hg => ⟨fun _ => hg.1, fun _ => hg.1.1⟩
  refine ⟨?_, (ha'.uniq ha i hi).1, (ha'.uniq ha i hi).2⟩
  rw [← hs'.uniq hm i hi]
  by_cases hf : Fst K T X n i
  · exact h.em1 i hi hf
  · rw [h.em0 i (fun hh => hf hh.2)]
    rcases (hs' i hi).2 with ⟨h1, -⟩ | ⟨q, -, h1, -⟩
    · exact h1.symm
    · exact absurd h1.2.1 hf
theorem FoIs.fst {g : Int} (h : FoIs K T X n p g) : g = p ↔ Fst K T X n p := by
  constructor
  · rintro rfl
    rcases h with ⟨h1, -⟩ | ⟨f, h1, h2⟩
    · omega
    · obtain rfl : p = f := by omega
      exact h2.2.1
  · intro hf
    rcases h with ⟨-, h1⟩ | ⟨f, rfl, h2⟩
    · exact absurd hf.1 h1
    · have := h2.uniq hf.self
      omega
theorem FoIs.at {g : Int} (h : FoIs K T X n p g) (h0 : ¬ g < 0) : ∃ f : Nat, g = f ∧ f < n ∧ Tch K T X n f p := by
  rcases h with ⟨h1, -⟩ | ⟨f, rfl, h2⟩
  · omega
  · exact ⟨f, rfl, h2.2.1.1.1, h2⟩

/-! The claims. -/
theorem cnt_disj {P Q R : Nat → Prop} {m : Nat} (h : ∀ g, g < m → (R g ↔ P g ∨ Q g)) (hd : ∀ g, g < m → P g → ¬ Q g) : cnt R m = cnt P m + cnt Q m := by
  induction m with
  | zero => rfl
  | succ m ih =>
    have e := ih (fun g hg => h g (by omega)) (fun g hg => hd g (by omega))
    have hm := h m (by omega)
    have hdm := hd m (by omega)
    simp only [cnt, e]
    by_cases hp : P m
    · rw [if_pos hp, if_neg (hdm hp), if_pos (hm.2 (.inl hp))]; omega
    · by_cases hq : Q m
      · rw [if_neg hp, if_pos hq, if_pos (hm.2 (.inr hq))]; omega
      · rw [if_neg hp, if_neg hq, if_neg (fun hr => by rcases hm.1 hr with h1 | h1; exact hp h1; exact hq h1)]; omega
def Fr1 (K T X : Nat → Int) (n nt f : Nat) (FR : Nat → Int) : Prop := ∀ s : Nat, s ≤ nt → FR s = cnt (fun g => g < f ∧ Fst K T X n g ∧ T g + 1 = s) n
theorem Fr1.start : Fr1 K T X n nt 0 (fun _ => 0) := fun s _ => by rw [cnt_none fun g _ h => by omega]; rfl
theorem Fr1.skip {f : Nat} (h : Fr1 K T X n nt f FR) (hf : ¬ Fst K T X n f) : Fr1 K T X n nt (f + 1) FR := fun s hs => by
  rw [h s hs]
  congr 1
  refine cnt_congr fun g _ => ?_
  constructor
  · rintro ⟨h1, h2⟩; exact ⟨by omega, h2⟩
  · rintro ⟨h1, h2⟩
    by_cases e : g = f
    · subst e; exact absurd h2.1 hf
    · exact ⟨by omega, h2⟩
theorem Fr1.add {f t : Nat} (h : Fr1 K T X n nt f FR) (hf : Fst K T X n f) (ht : T f = t) (htn : t < nt) : Fr1 K T X n nt (f + 1) (upd FR (t + 1) (FR (t + 1) + 1)) := fun s hs => by
  by_cases e : s = t + 1
  · subst e
    rw [upd_same, h _ hs]
    have := cnt_add (P := fun g => g < f ∧ Fst K T X n g ∧ T g + 1 = ((t + 1 : Nat) : Int)) (Q := fun g => g < f + 1 ∧ Fst K T X n g ∧ T g + 1 = ((t + 1 : Nat) : Int)) (m := n) hf.1.1 (fun hh => by omega) (fun g _ => by
      constructor
      · rintro ⟨h1, h2⟩
        by_cases e : g = f
        · exact .inr e
        · exact .inl ⟨by omega, h2⟩
      · rintro (⟨h1, h2⟩ | rfl)
        · exact ⟨by omega, h2⟩
        · exact ⟨by omega, hf, by omega⟩)
    rw [this]
    omega
  · rw [upd_other _ _ _ _ e, h s hs]
    congr 1
    refine cnt_congr fun g _ => ?_
    constructor
    · rintro ⟨h1, h2⟩; exact ⟨by omega, h2⟩
    · rintro ⟨h1, h2⟩
      by_cases e2 : g = f
      · subst e2; omega
      · exact ⟨by omega, h2⟩
theorem Fr1.le {f s : Nat} (h : Fr1 K T X n nt f FR) (hs : s ≤ nt) : 0 ≤ FR s ∧ FR s ≤ n := by
  rw [h s hs]
  have := cnt_le (fun g => g < f ∧ Fst K T X n g ∧ T g + 1 = (s : Int)) n
  omega
def Fr2 (K T X : Nat → Int) (n nt t : Nat) (FR : Nat → Int) : Prop := (∀ s : Nat, s ≤ t → FR s = cnt (fun g => Fst K T X n g ∧ T g < s) n) ∧ ∀ s : Nat, t < s → s ≤ nt → FR s = cnt (fun g => Fst K T X n g ∧ T g + 1 = s) n
theorem Fr1.two (h : Fr1 K T X n nt n FR) (hT : ∀ g, Run K T n g → 0 ≤ T g) : Fr2 K T X n nt 0 FR := by
  refine ⟨fun s hs => ?_, fun s _ hs => ?_⟩
  · obtain rfl : s = 0 := by omega
    rw [h 0 (by omega), cnt_none fun g _ hh => by have := hT g hh.2.1.1; have := hh.2.2; omega, cnt_none fun g _ hh => by have := hT g hh.1.1; have := hh.2; omega]
  · rw [h s hs]
    congr 1
    exact cnt_congr fun g hg => ⟨fun h => h.2, fun h => ⟨hg, h⟩⟩
theorem Fr2.next {t : Nat} (h : Fr2 K T X n nt t FR) (ht : t < nt) : Fr2 K T X n nt (t + 1) (upd FR (t + 1) (FR (t + 1) + FR t)) := by
  refine ⟨fun s hs => ?_, fun s hs hs2 => ?_⟩
  · by_cases e : s = t + 1
    · subst e
      rw [upd_same, h.2 (t + 1) (by omega) (by omega), h.1 t (by omega)]
      have := cnt_disj (P := fun g => Fst K T X n g ∧ T g + 1 = ((t + 1 : Nat) : Int)) (Q := fun g => Fst K T X n g ∧ T g < (t : Int)) (R := fun g => Fst K T X n g ∧ T g < ((t + 1 : Nat) : Int)) (m := n) (fun g _ => by
        constructor
        · rintro ⟨h1, h2⟩
          by_cases e : T g < (t : Int)
          · exact .inr ⟨h1, e⟩
          · exact .inl ⟨h1, by omega⟩
        · rintro (⟨h1, h2⟩ | ⟨h1, h2⟩)
          · exact ⟨h1, by omega⟩
          · exact ⟨h1, by omega⟩) (fun g _ h1 h2 => by have := h1.2; have := h2.2; omega)
      rw [this]
      omega
    · rw [upd_other _ _ _ _ e]; exact h.1 s (by omega)
  · rw [upd_other _ _ _ _ (by omega)]; exact h.2 s (by omega) hs2
theorem Fr2.le {t s : Nat} (h : Fr2 K T X n nt t FR) (hs : s ≤ nt) : 0 ≤ FR s ∧ FR s ≤ n := by
  by_cases e : s ≤ t
  · rw [h.1 s e]
    have := cnt_le (fun g => Fst K T X n g ∧ T g < (s : Int)) n
    omega
  · rw [h.2 s (by omega) hs]
    have := cnt_le (fun g => Fst K T X n g ∧ T g + 1 = (s : Int)) n
    omega
def CuInv (K T X : Nat → Int) (n nt f : Nat) (CU : Nat → Int) : Prop := ∀ t : Nat, t < nt → CU t = cnt (fun h => Fst K T X n h ∧ (T h < t ∨ (T h = t ∧ h < f))) n
theorem CuInv.pos {f t : Nat} (h : CuInv K T X n nt f CU) (ht : T f = t) (htn : t < nt) : CU t = pos K T X n f := by
  rw [h t htn]; unfold Qxb6605516a.pos; rw [ht]
theorem CuInv.skip {f : Nat} (h : CuInv K T X n nt f CU) (hf : ¬ Fst K T X n f) : CuInv K T X n nt (f + 1) CU := fun t ht => by
  rw [h t ht]
  congr 1
  refine cnt_congr fun g _ => ?_
  constructor
  · rintro ⟨h1, h2⟩; exact ⟨h1, by omega⟩
  · rintro ⟨h1, h2⟩
    have : g ≠ f := by rintro rfl; exact hf h1
    exact ⟨h1, by omega⟩
theorem CuInv.add {f t : Nat} (h : CuInv K T X n nt f CU) (hf : Fst K T X n f) (ht : T f = t) (htn : t < nt) : CuInv K T X n nt (f + 1) (upd CU t (CU t + 1)) := fun s hs => by
  by_cases e : s = t
  · subst e
    rw [upd_same, h s hs]
    have := cnt_add (P := fun h => Fst K T X n h ∧ (T h < (s : Int) ∨ (T h = s ∧ h < f))) (Q := fun h => Fst K T X n h ∧ (T h < (s : Int) ∨ (T h = s ∧ h < f + 1))) (m := n) hf.1.1 (fun hh => by omega) (fun g _ => by
      constructor
      · rintro ⟨h1, h2⟩
        by_cases e : g = f
        · exact .inr e
        · exact .inl ⟨h1, by omega⟩
      · rintro (⟨h1, h2⟩ | rfl)
        · exact ⟨h1, by omega⟩
        · exact ⟨hf, by omega⟩)
    rw [this]
    omega
  · rw [upd_other _ _ _ _ e, h s hs]
    congr 1
    refine cnt_congr fun g _ => ?_
    constructor
    · rintro ⟨h1, h2⟩; exact ⟨h1, by omega⟩
    · rintro ⟨h1, h2⟩
      by_cases e2 : g = f
      · subst e2; exact ⟨h1, by omega⟩
      · exact ⟨h1, by omega⟩
theorem CuInv.start (h : ∀ t : Nat, t < nt → CU t = cnt (fun g => Fst K T X n g ∧ T g < t) n) : CuInv K T X n nt 0 CU := fun t ht => by
  rw [h t ht]
  congr 1
  refine cnt_congr fun g _ => ?_
  constructor
  · rintro ⟨h1, h2⟩; exact ⟨h1, .inl h2⟩
  · rintro ⟨h1, h2⟩; exact ⟨h1, by omega⟩
theorem pos_lt {f len : Nat} {CI CM : Nat → Int} (h : CInv K T X n (Run K T n) CI CM len) (hf : Fst K T X n f) : pos K T X n f < len := by
  rw [h.len]
  refine cnt_lt hf.1.1 (fun hh => by omega) ⟨hf, hf.1⟩ (fun g _ hg => ⟨hg.1, hg.1.1⟩)
end
end Go.Proofs.Qxb6605516a
