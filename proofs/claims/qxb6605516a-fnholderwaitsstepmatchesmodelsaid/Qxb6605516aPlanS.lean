import Derived.Test.Qxb6605516aPlanR
namespace Go.Proofs.Qxb6605516a
set_option linter.unusedVariables false

open Classical in
/-- How many places below m there are in P. -/
noncomputable def cnt (P : Nat → Prop) : Nat → Nat
  | 0 => 0
  | m + 1 => cnt P m + if P m then 1 else 0
theorem cnt_congr {P Q : Nat → Prop} {m : Nat} (h : ∀ g, g < m → (P g ↔ Q g)) : cnt P m = cnt Q m := by
  induction m with
  | zero => rfl
  | succ m ih =>
    have e := ih (fun g hg => h g (by omega))
    have hm := h m (by omega)
    simp only [cnt, e]
    by_cases hp : P m
    · rw [if_pos hp, if_pos (hm.1 hp)]
    · rw [if_neg hp, if_neg (fun hq => hp (hm.2 hq))]
theorem cnt_le (P : Nat → Prop) (m : Nat) : cnt P m ≤ m := by
  induction m with
  | zero => simp [cnt]
  | succ m ih => simp only [cnt]; split <;> omega
theorem cnt_mono {P Q : Nat → Prop} {m : Nat} (h : ∀ g, g < m → P g → Q g) : cnt P m ≤ cnt Q m := by
  induction m with
  | zero => simp [cnt]
  | succ m ih =>
    have e := ih (fun g hg => h g (by omega))
    simp only [cnt]
    by_cases hp : P m
    · rw [if_pos hp, if_pos (h m (by omega) hp)]; omega
    · rw [if_neg hp]; split <;> omega
/-- One place more. -/
theorem cnt_add {P Q : Nat → Prop} {m p : Nat} (hp : p < m) (h0 : ¬ P p) (h : ∀ g, g < m → (Q g ↔ P g ∨ g = p)) : cnt Q m = cnt P m + 1 := by
  induction m with
  | zero => omega
  | succ m ih =>
    simp only [cnt]
    by_cases e : p = m
    · subst e
      have e1 : cnt Q p = cnt P p := cnt_congr fun g hg => by
        rw [h g (by omega)]
        constructor
        · rintro (h1 | rfl)
          · exact h1
          · omega
        · exact .inl
      rw [if_pos ((h p (by omega)).2 (.inr rfl)), if_neg h0, e1]
    · have e1 := ih (by omega) (fun g hg => h g (by omega))
      rw [e1]
      by_cases hq : P m
      · rw [if_pos hq, if_pos ((h m (by omega)).2 (.inl hq))]
      · rw [if_neg hq, if_neg (fun hh => by
          rcases (h m (by omega)).1 hh with h1 | h1
          · exact hq h1
          · omega)]
theorem cnt_lt {P Q : Nat → Prop} {m p : Nat} (hp : p < m) (h0 : ¬ P p) (h1 : Q p) (h : ∀ g, g < m → P g → Q g) : cnt P m < cnt Q m := by
  have e := cnt_add (P := P) (Q := fun g => P g ∨ g = p) hp h0 (fun g _ => Iff.rfl)
  have l := cnt_mono (P := fun g => P g ∨ g = p) (Q := Q) (m := m) (by
    rintro g hg (h2 | rfl)
    · exact h g hg h2
    · exact h1)
  omega
/-- A claim's place among all claims. -/
noncomputable def pos (K T X : Nat → Int) (n g : Nat) : Nat := cnt (fun h => Fst K T X n h ∧ (T h < T g ∨ (T h = T g ∧ h < g))) n
/-- A lock's mode. -/
def Str (K T X : Nat → Int) (n f : Nat) (m : Int) : Prop := (∀ q, Tch K T X n f q → needAt K q ≤ m) ∧ ∃ q, Tch K T X n f q ∧ m = needAt K q
theorem Str.uniq {K T X : Nat → Int} {n f : Nat} {m k : Int} (h : Str K T X n f m) (h' : Str K T X n f k) : m = k := by
  obtain ⟨h1, q, h2, h3⟩ := h
  obtain ⟨k1, r, k2, k3⟩ := h'
  have := h1 r k2
  have := k1 q h2
  omega
/-- The claims of the locks in Pr. -/
structure CInv (K T X : Nat → Int) (n : Nat) (Pr : Nat → Prop) (CI CM : Nat → Int) (len : Nat) : Prop where
  len : len = cnt (fun h => Fst K T X n h ∧ Pr h) n
  at_ : ∀ g, Fst K T X n g → Pr g → CI (pos K T X n g) = X g ∧ Str K T X n g (CM (pos K T X n g))
def FInv (K T X : Nat → Int) (n t : Nat) (CF : Nat → Int) : Prop := ∀ s, s ≤ t → CF s = cnt (fun h => Fst K T X n h ∧ T h < s) n
section
variable {K T X : Nat → Int} {n ni : Nat} {v t : Int} {l dn r : List Nat} {p x : Nat} {FO LO A N M CI CM CF : Nat → Int} {lp tail : Int} {len : Nat}
theorem MInv.str {Pr : Nat → Prop} {f : Nat} (h : MInv K T X n Pr M) (hf : Fst K T X n f) (hp : ∀ q, Tch K T X n f q → Pr q) : Str K T X n f (M f) := by
  obtain ⟨h1, h2⟩ := h f hf.1.1
  refine ⟨fun q hq => h1 q (hp q hq) hq, ?_⟩
  rcases h2 with ⟨h2, h3⟩ | ⟨q, h2, h3, h4⟩
  · exact absurd hf.self (h3 f (hp f hf.self))
  · exact ⟨q, h3, h4⟩
theorem CInv.congr {Pr Pr' : Nat → Prop} (h : CInv K T X n Pr CI CM len) (e : ∀ g, Fst K T X n g → (Pr g ↔ Pr' g)) : CInv K T X n Pr' CI CM len := by
  refine ⟨h.len.trans (cnt_congr fun g _ => ?_), fun g h1 h2 => h.at_ g h1 ((e g h1).2 h2)⟩
  constructor
  · rintro ⟨h1, h2⟩; exact ⟨h1, (e g h1).1 h2⟩
  · rintro ⟨h1, h2⟩; exact ⟨h1, (e g h1).2 h2⟩
theorem cnt_none {P : Nat → Prop} {m : Nat} (h : ∀ g, g < m → ¬ P g) : cnt P m = 0 := by
  induction m with
  | zero => rfl
  | succ m ih => simp only [cnt]; rw [ih (fun g hg => h g (by omega)), if_neg (h m (by omega))]
/-- A first touch that is no claim yet: there is room, and it is the next. -/
theorem CInv.room (h : CInv K T X n (fun g => (Run K T n g ∧ T g < t) ∨ g ∈ dn) CI CM len) (ha : At K T n t l dn (p :: r)) (hf : Fst K T X n p) : len < n ∧ len = pos K T X n p := by
  have hnp : ¬ ((Run K T n p ∧ T p < t) ∨ p ∈ dn) := by
    rintro (h1 | h1)
    · have := ha.run.2; omega
    · have := ha.lt h1; omega
  constructor
  · rw [h.len]
    have h1 := cnt_lt (P := fun h => Fst K T X n h ∧ ((Run K T n h ∧ T h < t) ∨ h ∈ dn)) (Q := fun _ => True) (m := n) hf.1.1 (fun hh => hnp hh.2) trivial (fun _ _ _ => trivial)
    have h2 := cnt_le (fun _ => True) n
    omega
  · rw [h.len]
    refine cnt_congr fun g hg => ?_
    have hT := ha.run.2
    constructor
    · rintro ⟨h1, ⟨h2, h3⟩ | h2⟩
      · exact ⟨h1, .inl (by omega)⟩
      · have h3 := (ha.isdn g).1 h2
        exact ⟨h1, .inr ⟨by omega, h3.2.2⟩⟩
    · rintro ⟨h1, h2 | ⟨h2, h3⟩⟩
      · exact ⟨h1, .inl ⟨h1.1, by omega⟩⟩
      · exact ⟨h1, .inr ((ha.isdn g).2 ⟨h1.1, by omega, h3⟩)⟩
theorem CInv.add (h : CInv K T X n (fun g => (Run K T n g ∧ T g < t) ∨ g ∈ dn) CI CM len) (ha : At K T n t l dn (p :: r)) (hf : Fst K T X n p) {m : Int} (hm : Str K T X n p m) :
    CInv K T X n (fun g => (Run K T n g ∧ T g < t) ∨ g ∈ dn ++ [p]) (upd CI len (X p)) (upd CM len m) (len + 1) := by
  have hr := (h.room ha hf).2
  have hnp : ¬ ((Run K T n p ∧ T p < t) ∨ p ∈ dn) := by
    rintro (h1 | h1)
    · have := ha.run.2; omega
    · have := ha.lt h1; omega
  refine ⟨?_, fun g h1 h2 => ?_⟩
  · rw [h.len]
    refine (cnt_add hf.1.1 (fun hh => hnp hh.2) fun g hg => ?_).symm
    constructor
    · rintro ⟨h1, h2⟩
      rcases pr_next.1 h2 with h2 | rfl
      · exact .inl ⟨h1, h2⟩
      · exact .inr rfl
    · rintro (⟨h1, h2⟩ | rfl)
      · exact ⟨h1, pr_next.2 (.inl h2)⟩
      · exact ⟨hf, pr_next.2 (.inr rfl)⟩
  · rcases pr_next.1 h2 with h2 | rfl
    · have hlt : pos K T X n g < pos K T X n p := by
        have hT := ha.run.2
        have hgp : T g < T p ∨ (T g = T p ∧ g < p) := by
          rcases h2 with h2 | h2
          · exact .inl (by omega)
          · have h3 := (ha.isdn g).1 h2
            exact .inr ⟨by omega, h3.2.2⟩
        refine cnt_lt h1.1.1 ?_ ⟨h1, hgp⟩ ?_
        · rintro ⟨-, h3 | h3⟩ <;> omega
        · rintro k hk ⟨k1, k2⟩
          exact ⟨k1, by omega⟩
      rw [upd_other _ _ _ _ (by omega), upd_other _ _ _ _ (by omega)]
      exact h.at_ g h1 h2
    · rw [← hr, upd_same, upd_same]
      exact ⟨rfl, hm⟩
theorem CInv.skip (h : CInv K T X n (fun g => (Run K T n g ∧ T g < t) ∨ g ∈ dn) CI CM len) (hf : ¬ Fst K T X n p) : CInv K T X n (fun g => (Run K T n g ∧ T g < t) ∨ g ∈ dn ++ [p]) CI CM len :=
  h.congr fun g hg => by
    rw [pr_next]
    constructor
    · exact .inl
    · rintro (h1 | rfl)
      · exact h1
      · exact absurd hg hf
theorem P2.notFst (h : P2 K T X n v t ni l dn FO lp tail A N) (ha : At K T n t l dn (p :: r)) (hx : X p = x) (hxn : x < ni) (h0 : FO x ≠ p) : ¬ Fst K T X n p := by
  intro hh
  have hpl : p ∈ l := by rw [ha.eq]; simp
  have hc : ∀ f, f ∈ dn → X f ≠ x := fun f hf e => by
    have hd := (ha.isdn f).1 hf
    exact hh.2 f hd.2.2 ⟨hd.1, hd.2.1.trans ha.run.2.symm, e.trans hx.symm⟩
  rcases h.fo x hxn with ⟨h1, h2⟩ | ⟨g, h1, h2, h3⟩
  · exact h2 p ⟨hpl, hx, hc⟩
  · have := h3 p ⟨hpl, hx, hc⟩
    have hg : ¬ g < p := fun hlt => by
      have hr := (ha.mem g).1 h2.1
      exact hc g ((ha.isdn g).2 ⟨hr.1, hr.2, hlt⟩) h2.2.1
    omega
theorem CInv.begin_ (h : CInv K T X n (fun g => Run K T n g ∧ T g < t) CI CM len) : CInv K T X n (fun g => (Run K T n g ∧ T g < t) ∨ g ∈ ([] : List Nat)) CI CM len := h.congr fun g _ => by simp
theorem CInv.done (h : CInv K T X n (fun g => (Run K T n g ∧ T g < t) ∨ g ∈ l) CI CM len) (ha : At K T n t l [] l) : CInv K T X n (fun g => Run K T n g ∧ T g < t + 1) CI CM len := by
  refine h.congr fun g hg => ?_
  rw [ha.mem]
  constructor
  · rintro (⟨h1, h2⟩ | ⟨h1, h2⟩)
    · exact ⟨h1, by omega⟩
    · exact ⟨h1, by omega⟩
  · rintro ⟨h1, h2⟩
    by_cases e : T g < t
    · exact .inl ⟨h1, e⟩
    · exact .inr ⟨h1, by omega⟩
theorem CInv.empty (hT : ∀ g, Run K T n g → 0 ≤ T g) : CInv K T X n (fun g => Run K T n g ∧ T g < (0 : Nat)) CI CM 0 :=
  ⟨(cnt_none fun g _ hh => by have := hT g hh.2.1; have := hh.2.2; omega).symm, fun g h1 h2 => by have := hT g h2.1; have := h2.2; omega⟩
theorem FInv.start (hT : ∀ g, Run K T n g → 0 ≤ T g) (h0 : CF 0 = 0) : FInv K T X n 0 CF := by
  intro s hs
  obtain rfl : s = 0 := by omega
  rw [h0, cnt_none fun g _ hh => by have := hT g hh.1.1; have := hh.2; omega]
  rfl
theorem FInv.next {s : Nat} (h : FInv K T X n s CF) (hl : len = cnt (fun h => Fst K T X n h ∧ (Run K T n h ∧ T h < (s : Int) + 1)) n) : FInv K T X n (s + 1) (upd CF (s + 1) len) := by
  intro k hk
  by_cases e : k = s + 1
  · subst e
    rw [upd_same, hl]
    congr 1
    refine cnt_congr fun g _ => ?_
    constructor
    · rintro ⟨h1, h2, h3⟩; exact ⟨h1, by omega⟩
    · rintro ⟨h1, h3⟩; exact ⟨h1, h1.1, by omega⟩
  · rw [upd_other _ _ _ _ e]
    exact h k (by omega)
end
end Go.Proofs.Qxb6605516a
