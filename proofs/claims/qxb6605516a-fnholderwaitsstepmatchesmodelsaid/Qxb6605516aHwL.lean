import Derived.Test.Qxb6605516aHwJ
namespace Go.Proofs.Qxb6605516a
open Go.RowKit
set_option linter.unusedVariables false

theorem dom_at {ni m no : Nat} {LO : Nat → Int} {L : Nat → Nat} {F : Nat → Nat → Int} {tn : Nat} (h : StepDom ni m no LO L F (tn : Int)) :
    tn < no ∧ (LO tn < 0 ∨ ∃ q : Nat, LO tn = (q : Int) ∧ q < m ∧ ∀ j, j < L q → (0 ≤ F q (j * 2) ∧ F q (j * 2) < ni) ∧ F q (j * 2 + 1) ≠ 0) := by
  obtain ⟨t, ht, h1, h2⟩ := h
  obtain rfl : tn = t := by omega
  exact ⟨h1, h2⟩
theorem stp_le {w w' : World} {bh : Nat} {ia : Option Addr} {ni : Nat} {G : Nat → Int} {ha : Option Addr} {m : Nat} {L : Nat → Nat} {F : Nat → Nat → Int} {la : Nat → Option Addr} {d p : Int} {H : Nat → Int} {L1 : Nat → Nat} {F1 : Nat → Nat → Int} {lc1 : Nat → Nat} (h : Stp w w' bh ia ni G ha m L F la d p H L1 F1 lc1) (hL : ∀ i, i < m → L i ≤ 1048576) : ∀ i, i < m → L1 i ≤ 1048576 := by
  intro i hi
  by_cases e : (i : Int) = p
  · have h1 := (h.hit i e.symm).2.1
    have h2 := kn_le (F i) G (L i)
    have h3 := hL i hi
    omega
  · rw [(h.oth i e).1]; exact hL i hi
theorem hold_nz {w : World} {bh : Nat} {ask keep ep : Int} {ia : Option Addr} {ni : Nat} {G : Nat → Int} {ha : Option Addr} {m : Nat} {L : Nat → Nat} {F : Nat → Nat → Int} {zz : Nat → Prop} {la : Nat → Option Addr} {lv fv : Value} (h : Hold w bh ask keep ep ia ni G ha m L F zz la lv fv) (i : Nat) (hi : i < m) : la i = none ↔ zz i := by
  rcases h.ls with ⟨-, h1⟩ | ⟨bo, -, -, -, h2⟩
  · omega
  · exact h2.nz i hi
theorem cnts_le {m ni : Nat} {L : Nat → Nat} {F : Nat → Nat → Int} {G : Nat → Int} {p : Int} (hL : ∀ i, i < m → L i ≤ 1048576) (hp : p < 0 ∨ ∃ q : Nat, p = (q : Int) ∧ q < m ∧ ∀ j, j < L q → (0 ≤ F q (j * 2) ∧ F q (j * 2) < ni) ∧ F q (j * 2 + 1) ≠ 0) (x : Nat) : cnts L F G p x ≤ 1048576 := by
  unfold cnts
  split
  · omega
  · rcases hp with h | ⟨q, rfl, hq, -⟩
    · omega
    · rw [Int.toNat_natCast]
      exact Nat.le_trans (cm_le _ _ _ _) (hL q hq)
theorem cnts_it {ni : Nat} {L : Nat → Nat} {F : Nat → Nat → Int} {G H : Nat → Int} {d p : Int} (hn : p < 0 → H = G) (hh : ∀ q : Nat, p = (q : Int) → ItInv d (F q) G ni (L q) H) (x : Nat) (hx : x < ni) : H (x * 3) = itE G x (cnts L F G p x) ∧ H (x * 3 + 1) = itW d G x (cnts L F G p x) ∧ H (x * 3 + 2) = itS G x (cnts L F G p x) := by
  unfold cnts
  split
  · rename_i h0
    rw [hn h0]
    simp [itE, itW, itS]
  · exact hh p.toNat (by omega) x hx
end Go.Proofs.Qxb6605516a
