import Derived.Test.Qxb6605516aFc
namespace Go.Proofs.Qxb6605516a
open Go.RowKit
set_option linter.unusedVariables false

/-! The plain side of step: F the entries of t's list, flat (item, epoch); G the items, flat (epoch, waiting, steps). -/

/-- How many of the first j entries name the count of item x. -/
def cm (F G : Nat → Int) (x : Nat) : Nat → Nat
  | 0 => 0
  | j + 1 => cm F G x j + if F (j * 2) = x ∧ G (x * 3) = F (j * 2 + 1) then 1 else 0
theorem cm_le (F G : Nat → Int) (x j : Nat) : cm F G x j ≤ j := by
  induction j with
  | zero => simp [cm]
  | succ j ih => simp only [cm]; split <;> omega
/-- At which step a count is let go. -/
def rst (s : Int) : Int := if 0 ≤ s then s + 1 else if s = -2147483648 then 1099511627776 else 1
def itE (G : Nat → Int) (x c : Nat) : Int := if c = 0 then G (x * 3) else if rst (G (x * 3 + 2)) ≤ c then 0 else G (x * 3)
def itW (d : Int) (G : Nat → Int) (x c : Nat) : Int := if c = 0 then G (x * 3 + 1) else if rst (G (x * 3 + 2)) ≤ c then 0 else wrap32 (G (x * 3 + 1) + c * d)
def itS (G : Nat → Int) (x c : Nat) : Int := if c = 0 then G (x * 3 + 2) else if rst (G (x * 3 + 2)) ≤ c then 0 else wrap32 (G (x * 3 + 2) - c)
/-- The items behind the first j entries. -/
def ItInv (d : Int) (F G : Nat → Int) (ni j : Nat) (H : Nat → Int) : Prop := ∀ x, x < ni → H (x * 3) = itE G x (cm F G x j) ∧ H (x * 3 + 1) = itW d G x (cm F G x j) ∧ H (x * 3 + 2) = itS G x (cm F G x j)
/-- Entry i is kept. -/
def kpt (F G : Nat → Int) (i : Nat) : Prop := G ((F (i * 2)).toNat * 3) = F (i * 2 + 1) ∧ (cm F G (F (i * 2)).toNat i : Int) + 1 < rst (G ((F (i * 2)).toNat * 3 + 2))
instance (F G : Nat → Int) (i : Nat) : Decidable (kpt F G i) := by unfold kpt; exact inferInstance
/-- How many of the first j are kept. -/
def kn (F G : Nat → Int) : Nat → Nat
  | 0 => 0
  | j + 1 => kn F G j + if kpt F G j then 1 else 0
theorem kn_le (F G : Nat → Int) (j : Nat) : kn F G j ≤ j := by
  induction j with
  | zero => simp [kn]
  | succ j ih => simp only [kn]; split <;> omega
theorem kn_mono (F G : Nat → Int) {i j : Nat} (h : i ≤ j) : kn F G i ≤ kn F G j := by
  induction j with
  | zero => obtain rfl : i = 0 := by omega
            exact Nat.le_refl _
  | succ j ih =>
    by_cases e : i = j + 1
    · subst e; exact Nat.le_refl _
    · have := ih (by omega)
      simp only [kn]; omega
theorem kn_lt (F G : Nat → Int) {i j : Nat} (h : i < j) (hk : kpt F G i) : kn F G i < kn F G j := by
  have h1 : kn F G (i + 1) ≤ kn F G j := kn_mono F G h
  simp only [kn, if_pos hk] at h1
  omega
/-- The row behind the first j entries. -/
def KRow (F G : Nat → Int) (j : Nat) (R : Nat → Int) : Prop := (∀ i, i < j → kpt F G i → R (kn F G i * 2) = F (i * 2) ∧ R (kn F G i * 2 + 1) = F (i * 2 + 1)) ∧ ∀ c, j * 2 ≤ c → R c = F c
section
variable {d : Int} {F G H R : Nat → Int} {ni j x : Nat}
theorem ItInv.start : ItInv d F G ni 0 G := fun x _ => by simp [itE, itW, itS, cm]
theorem KRow.start : KRow F G 0 F := ⟨fun i h => by omega, fun _ _ => rfl⟩
theorem cm_other {y : Nat} (hx : F (j * 2) = (x : Int)) (h : y ≠ x) : cm F G y (j + 1) = cm F G y j := by
  simp only [cm]
  rw [if_neg (fun hh => h (by have := hh.1; omega))]
  rfl
theorem it_big {c : Nat} (h : rst (G (x * 3 + 2)) ≤ c) (hc : c ≠ 0) : itE G x c = 0 ∧ itW d G x c = 0 ∧ itS G x c = 0 := by
  simp [itE, itW, itS, hc, h]
/-- An entry that names no count: nothing changes. -/
theorem ItInv.skip (h : ItInv d F G ni j H) (hx : F (j * 2) = (x : Int)) (hxn : x < ni) (he : F (j * 2 + 1) ≠ 0) (hne : H (x * 3) ≠ F (j * 2 + 1)) : ItInv d F G ni (j + 1) H ∧ ¬ kpt F G j := by
  have hX : (F (j * 2)).toNat = x := by omega
  by_cases hm : G (x * 3) = F (j * 2 + 1)
  · have h1 := (h x hxn).1
    have hc : cm F G x j ≠ 0 := fun e => by rw [e] at h1; exact hne (by rw [h1]; simpa [itE] using hm)
    have hb : rst (G (x * 3 + 2)) ≤ cm F G x j := by
      by_cases hb : rst (G (x * 3 + 2)) ≤ cm F G x j
      · exact hb
      · exact absurd (by rw [h1, itE, if_neg hc, if_neg hb]; exact hm) hne
    have e1 : cm F G x (j + 1) = cm F G x j + 1 := by simp only [cm]; rw [if_pos ⟨hx, hm⟩]
    refine ⟨fun y hy => ?_, fun hk => ?_⟩
    · by_cases e : y = x
      · subst e
        have a := it_big (d := d) hb hc
        have b := it_big (d := d) (G := G) (x := y) (c := cm F G y j + 1) (by omega) (by omega)
        rw [e1, b.1, b.2.1, b.2.2]
        have := h y hy
        rw [a.1, a.2.1, a.2.2] at this
        exact this
      · rw [cm_other hx e]; exact h y hy
    · have := hk.2
      rw [hX] at this
      omega
  · refine ⟨fun y hy => ?_, fun hk => hm (by have := hk.1; rwa [hX] at this)⟩
    by_cases e : y = x
    · subst e
      have e1 : cm F G y (j + 1) = cm F G y j := by
        simp only [cm]
        rw [if_neg (fun hh => hm hh.2)]
        rfl
      rw [e1]; exact h y hy
    · rw [cm_other hx e]; exact h y hy
theorem KRow.skip (h : KRow F G j R) (hk : ¬ kpt F G j) : KRow F G (j + 1) R := by
  refine ⟨fun i hi hki => ?_, fun c hc => h.2 c (by omega)⟩
  have : i ≠ j := by rintro rfl; exact hk hki
  exact h.1 i (by omega) hki
theorem w32_in {z : Int} (h : -2147483648 ≤ z ∧ z ≤ 2147483647) : wrap32 z = z := by unfold wrap32; omega
theorem w32_add (a b : Int) : wrap32 (wrap32 a + b) = wrap32 (a + b) := by unfold wrap32; omega
theorem w32_sub (a b : Int) : wrap32 (wrap32 a - b) = wrap32 (a - b) := by unfold wrap32; omega
/-- A count that is named: what it was, and what the step makes of it. -/
theorem ItInv.hit (h : ItInv d F G ni j H) (hG : ∀ c, -2147483648 ≤ G c ∧ G c ≤ 2147483647) (hj : j ≤ 1048576) (hx : F (j * 2) = (x : Int)) (hxn : x < ni) (he : F (j * 2 + 1) ≠ 0) (hm : H (x * 3) = F (j * 2 + 1)) :
    G (x * 3) = F (j * 2 + 1) ∧ (wrap32 (H (x * 3 + 2) - 1) < 0 ↔ rst (G (x * 3 + 2)) ≤ (cm F G x j : Int) + 1) ∧
    H (x * 3) = G (x * 3) ∧ wrap32 (H (x * 3 + 1) + d) = wrap32 (G (x * 3 + 1) + ((cm F G x j + 1 : Nat) : Int) * d) ∧ wrap32 (H (x * 3 + 2) - 1) = wrap32 (G (x * 3 + 2) - ((cm F G x j + 1 : Nat) : Int)) := by
  obtain ⟨h1, h2, h3⟩ := h x hxn
  have hle := cm_le F G x j
  generalize cm F G x j = c at *
  have hg := hG (x * 3 + 2)
  by_cases hc : c = 0
  · subst hc
    simp only [itE, itW, itS, if_true] at h1 h2 h3
    refine ⟨by rw [← h1]; exact hm, ?_, h1, by rw [h2]; congr 1; simp, by rw [h3]; congr 1⟩
    rw [h3]
    unfold wrap32 rst
    split <;> rename_i hs
    · omega
    · split <;> omega
  · have hb : ¬ rst (G (x * 3 + 2)) ≤ c := fun hb => he (by rw [← hm, h1, itE, if_neg hc, if_pos hb])
    simp only [itE, itW, itS, if_neg hc, if_neg hb] at h1 h2 h3
    refine ⟨by rw [← h1]; exact hm, ?_, h1, ?_, ?_⟩
    · rw [h3, w32_sub]
      unfold rst at hb ⊢
      unfold wrap32
      split at hb <;> rename_i hs
      · rw [if_pos hs]; omega
      · rw [if_neg hs]
        split at hb <;> rename_i hs2
        · rw [if_pos hs2]; omega
        · omega
    · rw [h2, w32_add]
      congr 1
      rw [Int.natCast_add, Int.add_mul]
      simp
      omega
    · rw [h3, w32_sub]
      congr 1
      simp
      omega
theorem cm_hit (hx : F (j * 2) = (x : Int)) (hm : G (x * 3) = F (j * 2 + 1)) : cm F G x (j + 1) = cm F G x j + 1 := by
  simp only [cm]; rw [if_pos ⟨hx, hm⟩]
/-- .. let go. -/
theorem ItInv.zero (h : ItInv d F G ni j H) (hx : F (j * 2) = (x : Int)) (hm : G (x * 3) = F (j * 2 + 1)) (hb : rst (G (x * 3 + 2)) ≤ (cm F G x j : Int) + 1) {H' : Nat → Int}
    (h0 : H' (x * 3) = 0 ∧ H' (x * 3 + 1) = 0 ∧ H' (x * 3 + 2) = 0) (ho : ∀ c, c / 3 ≠ x → H' c = H c) : ItInv d F G ni (j + 1) H' ∧ ¬ kpt F G j := by
  refine ⟨fun y hy => ?_, fun hk => ?_⟩
  · by_cases e : y = x
    · subst e
      rw [cm_hit hx hm]
      have b := it_big (d := d) (G := G) (x := y) (c := cm F G y j + 1) (by omega) (by omega)
      rw [b.1, b.2.1, b.2.2]
      exact h0
    · rw [cm_other hx e, ho _ (by omega), ho _ (by omega), ho _ (by omega)]
      exact h y hy
  · have hX : (F (j * 2)).toNat = x := by omega
    have := hk.2
    rw [hX] at this
    omega
/-- .. kept. -/
theorem ItInv.keep (h : ItInv d F G ni j H) (hx : F (j * 2) = (x : Int)) (hm : G (x * 3) = F (j * 2 + 1)) (hb : ¬ rst (G (x * 3 + 2)) ≤ (cm F G x j : Int) + 1) {H' : Nat → Int}
    (h0 : H' (x * 3) = G (x * 3) ∧ H' (x * 3 + 1) = wrap32 (G (x * 3 + 1) + ((cm F G x j + 1 : Nat) : Int) * d) ∧ H' (x * 3 + 2) = wrap32 (G (x * 3 + 2) - ((cm F G x j + 1 : Nat) : Int))) (ho : ∀ c, c / 3 ≠ x → H' c = H c) : ItInv d F G ni (j + 1) H' ∧ kpt F G j := by
  refine ⟨fun y hy => ?_, ?_⟩
  · by_cases e : y = x
    · subst e
      rw [cm_hit hx hm]
      have hb' : ¬ rst (G (y * 3 + 2)) ≤ ((cm F G y j + 1 : Nat) : Int) := by omega
      simp only [itE, itW, itS, if_neg hb', if_neg (Nat.succ_ne_zero _)]
      exact h0
    · rw [cm_other hx e, ho _ (by omega), ho _ (by omega), ho _ (by omega)]
      exact h y hy
  · have hX : (F (j * 2)).toNat = x := by omega
    unfold kpt
    rw [hX]
    exact ⟨hm, by omega⟩
theorem KRow.keep (h : KRow F G j R) (hk : kpt F G j) : KRow F G (j + 1) (upd (upd R (kn F G j * 2) (F (j * 2))) (kn F G j * 2 + 1) (F (j * 2 + 1))) := by
  have hle := kn_le F G j
  refine ⟨fun i hi hki => ?_, fun c hc => ?_⟩
  · by_cases e : i = j
    · subst e
      rw [upd_other _ _ _ _ (by omega), upd_same, upd_same]
      exact ⟨rfl, rfl⟩
    · have hlt := kn_lt F G (show i < j by omega) hki
      rw [upd_other _ _ _ _ (by omega), upd_other _ _ _ _ (by omega), upd_other _ _ _ _ (by omega), upd_other _ _ _ _ (by omega)]
      exact h.1 i (by omega) hki
  · rw [upd_other _ _ _ _ (by omega), upd_other _ _ _ _ (by omega)]
    exact h.2 c (by omega)
theorem kn_keep (hk : kpt F G j) : kn F G (j + 1) = kn F G j + 1 := by simp only [kn]; rw [if_pos hk]
theorem kn_skip (hk : ¬ kpt F G j) : kn F G (j + 1) = kn F G j := by simp only [kn]; rw [if_neg hk]; rfl
end
end Go.Proofs.Qxb6605516a
