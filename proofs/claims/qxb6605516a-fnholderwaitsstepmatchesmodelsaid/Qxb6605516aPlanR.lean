import Derived.Test.Qxb6605516aPlanQ
namespace Go.Proofs.Qxb6605516a
set_option linter.unusedVariables false

/-- Where the walk along a transaction's list stands. -/
structure At (K T : Nat → Int) (n : Nat) (t : Int) (l dn r : List Nat) : Prop where
  eq : l = dn ++ r
  mem : ∀ q, q ∈ l ↔ Run K T n q ∧ T q = t
  srt : l.Pairwise (· < ·)
section
variable {K T X : Nat → Int} {n ni : Nat} {v t : Int} {l dn r : List Nat} {p x : Nat} {FO LO A N M : Nat → Int} {lp tail : Int}
theorem at_chd (K T : Nat → Int) (n : Nat) (t : Int) : At K T n t (chd K T n n t) [] (chd K T n n t) := by
  refine ⟨rfl, fun q => ?_, chd_sorted K T n n (Nat.le_refl _) t⟩
  rw [chd_mem K T n n (Nat.le_refl _)]
  unfold Run
  constructor
  · rintro ⟨-, h1, h2, rfl, h4⟩; exact ⟨⟨h1, h2, fun q hq => h4 q (by omega) hq⟩, rfl⟩
  · rintro ⟨⟨h1, h2, h4⟩, rfl⟩; exact ⟨by omega, h1, h2, rfl, fun q _ hq => h4 q hq⟩
theorem At.next (h : At K T n t l dn (p :: r)) : At K T n t l (dn ++ [p]) r := ⟨by rw [h.eq]; simp, h.mem, h.srt⟩
theorem At.back (h : At K T n t l dn []) : At K T n t l [] l := ⟨rfl, h.mem, h.srt⟩
theorem At.run (h : At K T n t l dn (p :: r)) : Run K T n p ∧ T p = t := (h.mem p).1 (by rw [h.eq]; simp)
theorem At.isdn (h : At K T n t l dn (p :: r)) (q : Nat) : q ∈ dn ↔ Run K T n q ∧ T q = t ∧ q < p := by
  have hs := h.srt
  rw [h.eq, List.pairwise_append] at hs
  constructor
  · intro hq
    have h1 := (h.mem q).1 (by rw [h.eq]; simp [hq])
    exact ⟨h1.1, h1.2, hs.2.2 q hq p (by simp)⟩
  · rintro ⟨h1, h2, h3⟩
    have h4 := (h.mem q).2 ⟨h1, h2⟩
    rw [h.eq] at h4
    rcases List.mem_append.1 h4 with h5 | h5
    · exact h5
    · rcases List.mem_cons.1 h5 with rfl | h6
      · omega
      · have := (List.pairwise_cons.1 hs.2.1).1 q h6
        omega
theorem At.lt (h : At K T n t l dn (p :: r)) {q : Nat} (hq : q ∈ dn) : q < p := ((h.isdn q).1 hq).2.2
theorem At.inl (h : At K T n t l dn r) {q : Nat} (hq : q ∈ dn) : q ∈ l := by rw [h.eq]; simp [hq]
theorem At.whole (h : At K T n t l dn []) : dn = l := by rw [h.eq]; simp
theorem mem_dn {q : Nat} : q ∈ dn ++ [p] ↔ q ∈ dn ∨ q = p := by simp

/-- Along the first pass. -/
structure P1 (X : Nat → Int) (v : Int) (ni : Nat) (dn : List Nat) (FO LO : Nat → Int) (lp : Int) : Prop where
  fo : ∀ x : Nat, x < ni → LeastOr (fun q => q ∈ dn ∧ X q = x) (FO x)
  lo : ∀ x : Nat, x < ni → ∀ q, q ∈ dn → X q = x → ∃ g : Nat, LO x = g ∧ g ∈ dn ∧ X g = x ∧ ∀ h, h ∈ dn → X h = x → h ≤ g
  lp : if v = 3 then lp = -1 else GreatOr (fun g => g ∈ dn ∧ ∀ q, q ∈ dn → X q = X g → g ≤ q) lp
theorem P1.start (h : ∀ x, x < ni → FO x = -1) : P1 X v ni [] FO LO (-1) :=
  ⟨fun x hx => .inl ⟨h x hx, fun g hg => by simp at hg⟩, fun x hx q hq => by simp at hq, by
    split
    · rfl
    · exact .inl ⟨rfl, fun g hg => by simp at hg⟩⟩
theorem P1.lo_next (h : P1 X v ni dn FO LO lp) (ha : At K T n t l dn (p :: r)) (hx : X p = x) : ∀ y : Nat, y < ni → ∀ q, q ∈ dn ++ [p] → X q = y → ∃ g : Nat, upd LO x p y = g ∧ g ∈ dn ++ [p] ∧ X g = y ∧ ∀ h, h ∈ dn ++ [p] → X h = y → h ≤ g := by
  intro y hy q hq hqy
  by_cases e : y = x
  · subst e
    refine ⟨p, upd_same _ _ _, by simp, hx, fun k hk _ => ?_⟩
    rcases mem_dn.1 hk with hk | rfl
    · have := ha.lt hk; omega
    · omega
  · rw [upd_other _ _ _ _ e]
    have hq' : q ∈ dn := by
      rcases mem_dn.1 hq with hq | rfl
      · exact hq
      · omega
    obtain ⟨g, h1, h2, h3, h4⟩ := h.lo y hy q hq' hqy
    refine ⟨g, h1, mem_dn.2 (.inl h2), h3, fun k hk hky => ?_⟩
    rcases mem_dn.1 hk with hk | rfl
    · exact h4 k hk hky
    · omega
theorem P1.first (h : P1 X v ni dn FO LO lp) (ha : At K T n t l dn (p :: r)) (hx : X p = x) (hxn : x < ni) (h0 : FO x < 0) :
    P1 X v ni (dn ++ [p]) (upd FO x p) (upd LO x p) (if v = 3 then lp else p) ∧ Tch K T X n p p := by
  have hno : ∀ q, q ∈ dn → X q ≠ x := by
    rcases h.fo x hxn with ⟨-, h1⟩ | ⟨g, h1, -, -⟩
    · exact fun q hq e => h1 q ⟨hq, e⟩
    · omega
  refine ⟨⟨fun y hy => ?_, h.lo_next ha hx, ?_⟩, ?_⟩
  · by_cases e : y = x
    · subst e
      rw [upd_same]
      refine .inr ⟨p, rfl, ⟨by simp, hx⟩, fun k hk => ?_⟩
      rcases mem_dn.1 hk.1 with hk' | rfl
      · exact absurd hk.2 (hno k hk')
      · omega
    · rw [upd_other _ _ _ _ e]
      refine (h.fo y hy).congr fun g => ?_
      constructor
      · rintro ⟨h1, h2⟩; exact ⟨mem_dn.2 (.inl h1), h2⟩
      · rintro ⟨h1, h2⟩
        rcases mem_dn.1 h1 with h1 | rfl
        · exact ⟨h1, h2⟩
        · omega
  · have hl := h.lp
    by_cases e : v = 3
    · rw [if_pos e] at hl ⊢; rw [if_pos e]; exact hl
    · rw [if_neg e, if_neg e]
      refine .inr ⟨p, rfl, ⟨by simp, fun q hq hqx => ?_⟩, fun k hk => ?_⟩
      · rcases mem_dn.1 hq with hq | rfl
        · exact absurd (hqx.trans hx) (hno q hq)
        · omega
      · rcases mem_dn.1 hk.1 with hk' | rfl
        · have := ha.lt hk'; omega
        · omega
  · have hr := ha.run
    refine ⟨hr.1, ⟨hr.1, fun q hq hh => ?_⟩, rfl, rfl⟩
    exact hno q ((ha.isdn q).2 ⟨hh.1, hh.2.1.trans hr.2, hq⟩) (hh.2.2.trans hx)
theorem P1.again (h : P1 X v ni dn FO LO lp) (ha : At K T n t l dn (p :: r)) (hx : X p = x) (hxn : x < ni) (h0 : 0 ≤ FO x) :
    P1 X v ni (dn ++ [p]) FO (upd LO x p) lp ∧ ∃ f : Nat, FO x = f ∧ f < n ∧ Tch K T X n f p := by
  rcases h.fo x hxn with ⟨h1, -⟩ | ⟨f, h1, h2, h3⟩
  · omega
  have hf := (ha.isdn f).1 h2.1
  refine ⟨⟨fun y hy => ?_, h.lo_next ha hx, ?_⟩, f, h1, hf.1.1, ?_⟩
  · rcases h.fo y hy with ⟨k1, k2⟩ | ⟨g, k1, k2, k3⟩
    · refine .inl ⟨k1, fun g hg => ?_⟩
      rcases mem_dn.1 hg.1 with hg' | rfl
      · exact k2 g ⟨hg', hg.2⟩
      · have : y = x := by omega
        subst this
        omega
    · refine .inr ⟨g, k1, ⟨mem_dn.2 (.inl k2.1), k2.2⟩, fun k hk => ?_⟩
      rcases mem_dn.1 hk.1 with hk' | rfl
      · exact k3 k ⟨hk', hk.2⟩
      · have := ha.lt k2.1; omega
  · have hl := h.lp
    by_cases e : v = 3
    · rw [if_pos e] at hl ⊢; exact hl
    · rw [if_neg e] at hl ⊢
      refine hl.congr fun g => ?_
      constructor
      · rintro ⟨k1, k2⟩
        refine ⟨mem_dn.2 (.inl k1), fun q hq hqx => ?_⟩
        rcases mem_dn.1 hq with hq | rfl
        · exact k2 q hq hqx
        · have := ha.lt k1; omega
      · rintro ⟨k1, k2⟩
        rcases mem_dn.1 k1 with k1 | rfl
        · exact ⟨k1, fun q hq hqx => k2 q (mem_dn.2 (.inl hq)) hqx⟩
        · have := k2 f (mem_dn.2 (.inl h2.1)) (h2.2.trans hx.symm)
          have := hf.2.2
          omega
  · have hr := ha.run
    refine ⟨hr.1, ⟨hf.1, fun q hq hh => ?_⟩, hr.2.trans hf.2.1.symm, hx.trans h2.2.symm⟩
    have hq' : q ∈ dn := (ha.isdn q).2 ⟨hh.1, hh.2.1.trans hf.2.1, by omega⟩
    have := h3 q ⟨hq', hh.2.2.trans h2.2⟩
    omega

/-- What the second pass reads. -/
structure L2 (K T X : Nat → Int) (n : Nat) (v t : Int) (ni : Nat) (l : List Nat) (LO : Nat → Int) (lp : Int) (M : Nat → Int) : Prop where
  lo : ∀ x : Nat, x < ni → ∀ q, q ∈ l → X q = x → ∃ g : Nat, LO x = g ∧ g ∈ l ∧ X g = x ∧ ∀ h, h ∈ l → X h = x → h ≤ g
  lp : Lp K T X n v t lp
  m : MInv K T X n (fun q => (Run K T n q ∧ T q < t) ∨ q ∈ l) M
theorem P1.done (h : P1 X v ni l FO LO lp) (ha : At K T n t l [] l) (hm : MInv K T X n (fun q => (Run K T n q ∧ T q < t) ∨ q ∈ l) M) : L2 K T X n v t ni l LO lp M := by
  refine ⟨h.lo, ?_, hm⟩
  have hl := h.lp
  unfold Lp
  by_cases e : v = 3
  · rw [if_pos e] at hl ⊢; exact hl
  · rw [if_neg e] at hl ⊢
    refine hl.congr fun g => ?_
    rw [ha.mem]
    constructor
    · rintro ⟨⟨h1, h2⟩, h3⟩
      refine ⟨⟨h1, fun q hq hh => ?_⟩, h2⟩
      have := h3 q ((ha.mem q).2 ⟨hh.1, hh.2.1.trans h2⟩) hh.2.2
      omega
    · rintro ⟨h1, h2⟩
      refine ⟨⟨h1.1, h2⟩, fun q hq hqx => ?_⟩
      have h4 := (ha.mem q).1 hq
      by_cases hlt : q < g
      · exact absurd ⟨h4.1, h4.2.trans h2.symm, hqx⟩ (h1.2 q hlt)
      · omega
/-- Along the second pass. -/
structure P2 (K T X : Nat → Int) (n : Nat) (v t : Int) (ni : Nat) (l dn : List Nat) (FO : Nat → Int) (lp tail : Int) (A N : Nat → Int) : Prop where
  fo : ∀ x : Nat, x < ni → LeastOr (fun q => q ∈ l ∧ X q = x ∧ ∀ f, f ∈ dn → X f ≠ x) (FO x)
  tl : GreatOr (fun g => g ∈ dn ∧ ∃ r : Nat, (r : Int) = lp ∧ Rel K T X n v g r) tail
  ai : AInv K T X n v (fun g => (Run K T n g ∧ T g < t) ∨ g ∈ dn) A N
theorem P2.start (h : P1 X v ni l FO LO lp) (ha : AInv K T X n v (fun g => Run K T n g ∧ T g < t) A N) : P2 K T X n v t ni l [] FO lp (-1) A N :=
  ⟨fun x hx => (h.fo x hx).congr fun q => by simp, .inl ⟨rfl, fun g hg => by simp at hg⟩, ha.congr fun g _ => by simp⟩
theorem pr_next {g : Nat} : ((Run K T n g ∧ T g < t) ∨ g ∈ dn ++ [p]) ↔ (((Run K T n g ∧ T g < t) ∨ g ∈ dn) ∨ g = p) := by
  rw [mem_dn, or_assoc]
theorem P2.skip (h : P2 K T X n v t ni l dn FO lp tail A N) (ha : At K T n t l dn (p :: r)) (hx : X p = x) (hxn : x < ni) (h0 : FO x ≠ p) : P2 K T X n v t ni l (dn ++ [p]) FO lp tail A N := by
  have hpl : p ∈ l := by rw [ha.eq]; simp
  obtain ⟨f, hf, hfx⟩ : ∃ f, f ∈ dn ∧ X f = x := by
    by_cases hc : ∃ f, f ∈ dn ∧ X f = x
    · exact hc
    · exfalso
      have hc' : ∀ f, f ∈ dn → X f ≠ x := fun f hf e => hc ⟨f, hf, e⟩
      rcases h.fo x hxn with ⟨h1, h2⟩ | ⟨g, h1, h2, h3⟩
      · exact h2 p ⟨hpl, hx, hc'⟩
      · have := h3 p ⟨hpl, hx, hc'⟩
        have hg : ¬ g < p := fun hlt => by
          have hr := (ha.mem g).1 h2.1
          exact hc' g ((ha.isdn g).2 ⟨hr.1, hr.2, hlt⟩) h2.2.1
        omega
  have hnf : ¬ Fst K T X n p := fun hh => by
    have hd := (ha.isdn f).1 hf
    exact hh.2 f hd.2.2 ⟨hd.1, hd.2.1.trans ha.run.2.symm, hfx.trans hx.symm⟩
  refine ⟨fun y hy => (h.fo y hy).congr fun q => ?_, h.tl.congr fun g => ?_, (h.ai.none fun r hr => hnf hr.1).congr fun g _ => pr_next.symm⟩
  · constructor
    · rintro ⟨h1, h2, h3⟩
      refine ⟨h1, h2, fun k hk => ?_⟩
      rcases mem_dn.1 hk with hk | rfl
      · exact h3 k hk
      · intro e
        have : y = x := by omega
        subst this
        exact h3 f hf hfx
    · rintro ⟨h1, h2, h3⟩; exact ⟨h1, h2, fun k hk => h3 k (mem_dn.2 (.inl hk))⟩
  · constructor
    · rintro ⟨h1, h2⟩; exact ⟨mem_dn.2 (.inl h1), h2⟩
    · rintro ⟨h1, s, h2, h3⟩
      rcases mem_dn.1 h1 with h1 | rfl
      · exact ⟨h1, s, h2, h3⟩
      · exact absurd h3.1 hnf
theorem P2.got (h : P2 K T X n v t ni l dn FO lp tail A N) (ha : At K T n t l dn (p :: r)) (hx : X p = x) (hxn : x < ni) (h0 : FO x = p) :
    Fst K T X n p ∧ ∀ y : Nat, y < ni → LeastOr (fun q => q ∈ l ∧ X q = y ∧ ∀ f, f ∈ dn ++ [p] → X f ≠ y) (upd FO x (-1) y) := by
  have hc : ∀ f, f ∈ dn → X f ≠ x := by
    rcases h.fo x hxn with ⟨h1, h2⟩ | ⟨g, h1, h2, h3⟩
    · omega
    · exact h2.2.2
  refine ⟨⟨ha.run.1, fun q hq hh => ?_⟩, fun y hy => ?_⟩
  · exact hc q ((ha.isdn q).2 ⟨hh.1, hh.2.1.trans ha.run.2, hq⟩) (hh.2.2.trans hx)
  · by_cases e : y = x
    · subst e
      rw [upd_same]
      exact .inl ⟨rfl, fun q hq => hq.2.2 p (by simp) hx⟩
    · rw [upd_other _ _ _ _ e]
      refine (h.fo y hy).congr fun q => ?_
      constructor
      · rintro ⟨h1, h2, h3⟩
        refine ⟨h1, h2, fun k hk => ?_⟩
        rcases mem_dn.1 hk with hk | rfl
        · exact h3 k hk
        · omega
      · rintro ⟨h1, h2, h3⟩; exact ⟨h1, h2, fun k hk => h3 k (mem_dn.2 (.inl hk))⟩
theorem tl_same (h : GreatOr (fun g => g ∈ dn ∧ ∃ r : Nat, (r : Int) = lp ∧ Rel K T X n v g r) tail) (hp : ∀ r : Nat, (r : Int) = lp → ¬ Rel K T X n v p r) : GreatOr (fun g => g ∈ dn ++ [p] ∧ ∃ r : Nat, (r : Int) = lp ∧ Rel K T X n v g r) tail := by
  refine h.congr fun g => ?_
  constructor
  · rintro ⟨h1, h2⟩; exact ⟨mem_dn.2 (.inl h1), h2⟩
  · rintro ⟨h1, s, h2, h3⟩
    rcases mem_dn.1 h1 with h1 | rfl
    · exact ⟨h1, s, h2, h3⟩
    · exact absurd h3 (hp s h2)
theorem P2.kept (h : P2 K T X n v t ni l dn FO lp tail A N) (ha : At K T n t l dn (p :: r)) (hx : X p = x) (hxn : x < ni) (h0 : FO x = p) (hk : Kp K T X n v p) : P2 K T X n v t ni l (dn ++ [p]) (upd FO x (-1)) lp tail A N :=
  ⟨(h.got ha hx hxn h0).2, tl_same h.tl fun r _ hr => hr.2.1 hk, (h.ai.none fun r hr => hr.2.1 hk).congr fun g _ => pr_next.symm⟩
theorem L2.kept (hL : L2 K T X n v t ni l LO lp M) (ha : At K T n t l dn (p :: r)) (hf : Fst K T X n p) : (v = 2 ∧ M p = 2) ↔ Kp K T X n v p := by
  unfold Kp
  rw [hL.m.two hf.1.1 (fun q hq => .inr ((ha.mem q).2 ⟨hq.1, hq.2.2.1.trans ha.run.2⟩))]
theorem L2.last (hL : L2 K T X n v t ni l LO lp M) (ha : At K T n t l dn (p :: r)) (hx : X p = x) (hxn : x < ni) (hf : Fst K T X n p) : ∃ g : Nat, LO x = g ∧ g < n ∧ Lst K T X n p g := by
  have hpl : p ∈ l := by rw [ha.eq]; simp
  obtain ⟨g, h1, h2, h3, h4⟩ := hL.lo x hxn p hpl hx
  have hg := (ha.mem g).1 h2
  refine ⟨g, h1, hg.1.1, ⟨hg.1, hf, hg.2.trans ha.run.2.symm, h3.trans hx.symm⟩, fun q hq => ?_⟩
  exact h4 q ((ha.mem q).2 ⟨hq.1, hq.2.2.1.trans ha.run.2⟩) (hq.2.2.2.trans hx)
theorem P2.past (h : P2 K T X n v t ni l dn FO lp tail A N) (hL : L2 K T X n v t ni l LO lp M) (ha : At K T n t l dn (p :: r)) (hx : X p = x) (hxn : x < ni) (h0 : FO x = p) (hk : ¬ Kp K T X n v p) {g : Nat} (hg : Lst K T X n p g) (hlt : lp < g) :
    P2 K T X n v t ni l (dn ++ [p]) (upd FO x (-1)) lp tail (upd A g p) N := by
  obtain ⟨hf, hfo⟩ := h.got ha hx hxn h0
  have hlp := hL.lp
  rw [← ha.run.2] at hlp
  have hr : Rel K T X n v p g := ⟨hf, hk, g, lp, hg, hlp, .inl ⟨rfl, by omega⟩⟩
  refine ⟨hfo, tl_same h.tl fun s hs hr' => ?_, (h.ai.head hr fun k hk1 hk2 => ?_).congr fun g _ => pr_next.symm⟩
  · have := hr.uniq hr'; omega
  · have hne : p ≠ k := by
      rintro rfl
      rcases hk1 with hk1 | hk1
      · have := ha.run.2; omega
      · have := ha.lt hk1; omega
    have := (hr.two hk2 hne).uniq hlp
    omega
theorem P2.head (h : P2 K T X n v t ni l dn FO lp tail A N) (hL : L2 K T X n v t ni l LO lp M) (ha : At K T n t l dn (p :: r)) (hx : X p = x) (hxn : x < ni) (h0 : FO x = p) (hk : ¬ Kp K T X n v p) {g b : Nat} (hg : Lst K T X n p g) (hlp : lp = b) (hle : g ≤ b) (ht : tail < 0) :
    P2 K T X n v t ni l (dn ++ [p]) (upd FO x (-1)) lp p (upd A b p) N := by
  obtain ⟨hf, hfo⟩ := h.got ha hx hxn h0
  have hlp' := hL.lp
  rw [← ha.run.2] at hlp'
  have hr : Rel K T X n v p b := ⟨hf, hk, g, lp, hg, hlp', by omega⟩
  have hno : ∀ k, k ∈ dn → ¬ Rel K T X n v k b := by
    rcases h.tl with ⟨-, h1⟩ | ⟨k, h1, -⟩
    · exact fun k hk hkr => h1 k ⟨hk, b, hlp.symm, hkr⟩
    · omega
  refine ⟨hfo, .inr ⟨p, rfl, ⟨by simp, b, hlp.symm, hr⟩, fun k hk => ?_⟩, (h.ai.head hr fun k hk1 hk2 => ?_).congr fun g _ => pr_next.symm⟩
  · rcases mem_dn.1 hk.1 with hk' | rfl
    · have := ha.lt hk'; omega
    · omega
  · rcases hk1 with hk1 | hk1
    · have e1 := hk2.run.2.1
      have e2 := hr.run.2.1
      have := ha.run.2
      omega
    · exact hno k hk1 hk2
theorem P2.more (h : P2 K T X n v t ni l dn FO lp tail A N) (hL : L2 K T X n v t ni l LO lp M) (ha : At K T n t l dn (p :: r)) (hx : X p = x) (hxn : x < ni) (h0 : FO x = p) (hk : ¬ Kp K T X n v p) {g b tl : Nat} (hg : Lst K T X n p g) (hlp : lp = b) (hle : g ≤ b) (ht : tail = tl) :
    P2 K T X n v t ni l (dn ++ [p]) (upd FO x (-1)) lp p A (upd N tl p) := by
  obtain ⟨hf, hfo⟩ := h.got ha hx hxn h0
  have hlp' := hL.lp
  rw [← ha.run.2] at hlp'
  have hr : Rel K T X n v p b := ⟨hf, hk, g, lp, hg, hlp', by omega⟩
  obtain ⟨h1, h2, h3⟩ : tl ∈ dn ∧ Rel K T X n v tl b ∧ ∀ k, k ∈ dn → Rel K T X n v k b → k ≤ tl := by
    rcases h.tl with ⟨h1, -⟩ | ⟨k, h1, ⟨h2, s, h3, h4⟩, h5⟩
    · omega
    · obtain rfl : k = tl := by omega
      obtain rfl : s = b := by omega
      exact ⟨h2, h4, fun m hm hmr => h5 m ⟨hm, s, h3, hmr⟩⟩
  refine ⟨hfo, .inr ⟨p, rfl, ⟨by simp, b, hlp.symm, hr⟩, fun k hk => ?_⟩, (h.ai.next hr (.inr h1) h2 (fun k hk1 hk2 => ?_) (ha.lt h1)).congr fun g _ => pr_next.symm⟩
  · rcases mem_dn.1 hk.1 with hk' | rfl
    · have := ha.lt hk'; omega
    · omega
  · rcases hk1 with hk1 | hk1
    · have e1 := hk2.run.2.1
      have e2 := hr.run.2.1
      have := ha.run.2
      omega
    · exact h3 k hk1 hk2
theorem P2.tailAt (h : P2 K T X n v t ni l dn FO lp tail A N) (ha : At K T n t l dn r) : -1 ≤ tail ∧ tail < n := by
  rcases h.tl with ⟨h1, -⟩ | ⟨k, h1, h2, -⟩
  · omega
  · have := ((ha.mem k).1 (ha.inl h2.1)).1.1
    omega
theorem P2.foAt (h : P2 K T X n v t ni l dn FO lp tail A N) (ha : At K T n t l dn r) (hx : x < ni) : -1 ≤ FO x ∧ FO x < n := by
  rcases h.fo x hx with ⟨h1, -⟩ | ⟨k, h1, h2, -⟩
  · omega
  · have := ((ha.mem k).1 h2.1).1.1
    omega
theorem P1.foAt (h : P1 X v ni dn FO LO lp) (ha : At K T n t l dn r) (hx : x < ni) : -1 ≤ FO x ∧ FO x < n := by
  rcases h.fo x hx with ⟨h1, -⟩ | ⟨k, h1, h2, -⟩
  · omega
  · have := ((ha.mem k).1 (ha.inl h2.1)).1.1
    omega
theorem Lp.lt {b : Int} (h : Lp K T X n v t b) : -1 ≤ b ∧ b < n := by
  have := h.ge
  by_cases h0 : 0 ≤ b
  · obtain ⟨g, h1, h2, -⟩ := h.at h0
    have := h2.1.1
    omega
  · omega
/-- The second pass is done: the transaction's locks are planned. -/
theorem P2.done (h : P2 K T X n v t ni l l FO lp tail A N) (ha : At K T n t l [] l) : (∀ x, x < ni → FO x = -1) ∧ AInv K T X n v (fun g => Run K T n g ∧ T g < t + 1) A N := by
  refine ⟨fun x hx => ?_, h.ai.congr fun g hg => ?_⟩
  · rcases h.fo x hx with ⟨h1, -⟩ | ⟨k, h1, h2, -⟩
    · exact h1
    · exact absurd h2.2.1 (h2.2.2 k h2.1)
  · rw [ha.mem]
    constructor
    · rintro (⟨h1, h2⟩ | ⟨h1, h2⟩)
      · exact ⟨h1, by omega⟩
      · exact ⟨h1, by omega⟩
    · rintro ⟨h1, h2⟩
      by_cases e : T g < t
      · exact .inl ⟨h1, e⟩
      · exact .inr ⟨h1, by omega⟩
theorem MInv.done (hm : MInv K T X n (fun q => (Run K T n q ∧ T q < t) ∨ q ∈ l) M) (ha : At K T n t l [] l) : MInv K T X n (fun g => Run K T n g ∧ T g < t + 1) M := by
  refine hm.congr fun g hg => ?_
  rw [ha.mem]
  constructor
  · rintro (⟨h1, h2⟩ | ⟨h1, h2⟩)
    · exact ⟨h1, by omega⟩
    · exact ⟨h1, by omega⟩
  · rintro ⟨h1, h2⟩
    by_cases e : T g < t
    · exact .inl ⟨h1, e⟩
    · exact .inr ⟨h1, by omega⟩
end
end Go.Proofs.Qxb6605516a
