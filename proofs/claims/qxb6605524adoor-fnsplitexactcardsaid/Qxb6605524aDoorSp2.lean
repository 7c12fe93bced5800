import Derived.Test.Qxb6605524aDoorSp1
import Derived.Lib.ParseIntBTie
namespace Go.Proofs.Qxb6605524aDoor
open Go.Lib

/-- A text's byte. -/
def bt (s : ByteArray) (i : Nat) : Int := ((s.data.toList[i]?.map (·.toNat)).getD 0 : Nat)
theorem bt_at (s : ByteArray) (i : Nat) (h : i < s.size) : ((s[i]'h).toNat : Int) = bt s i := by
  unfold bt
  have h' : i < s.data.toList.length := by simpa using h
  rw [List.getElem?_eq_getElem h']
  simp
  rfl
theorem bt_lo (s : ByteArray) (i : Nat) : 0 ≤ bt s i ∧ bt s i < 256 := by
  unfold bt
  cases h : s.data.toList[i]? with
  | none => simp
  | some b => simp; have := b.toNat_lt; omega
theorem bt_extract (s : ByteArray) (a b i : Nat) (hb : b ≤ s.size) (h : i < b - a) : bt (s.extract a b) i = bt s (a + i) := by
  unfold bt
  have : (s.extract a b).data = s.data.extract a b := ByteArray.data_extract
  rw [this]
  have hb' : b ≤ s.data.size := hb
  simp only [Array.getElem?_toList]
  rw [Array.getElem?_extract_of_lt (by omega), Array.getElem?_eq_getElem (by omega)]

/-- The digits' number, as the law's parser reads on: nothing where a byte is no digit or it passes 2^63. -/
def magF : Int → List UInt8 → Option Int
  | a, [] => some a
  | a, c :: r =>
    if (c.toNat : Int) < 48 ∨ 57 < (c.toNat : Int) then none
    else if (9223372036854775808 - ((c.toNat : Int) - 48)) / 10 < a then none
    else magF (a * 10 + ((c.toNat : Int) - 48)) r
theorem parse_ge : ∀ (l : List UInt8) (M a u : Nat), parseUintM M a l = .ok u → a ≤ u
  | [], M, a, u, h => by simp [parseUintM] at h; omega
  | c :: r, M, a, u, h => by
    unfold parseUintM at h
    split at h
    · split at h
      · simp at h
      · split at h
        · simp at h
        · have := parse_ge r M _ u h; omega
    · simp at h
theorem magF_some : ∀ (l : List UInt8) (a : Nat) (v : Int), a ≤ 9223372036854775808 → magF a l = some v → ∃ u : Nat, v = u ∧ u ≤ 9223372036854775808 ∧ parseUintM (2 ^ 64 - 1) a l = .ok u
  | [], a, v, ha, h => by simp [magF] at h; exact ⟨a, h.symm, ha, rfl⟩
  | c :: r, a, v, ha, h => by
    unfold magF at h
    split at h
    · simp at h
    · split at h
      · simp at h
      · next h1 h2 =>
        have e : (a : Int) * 10 + ((c.toNat : Int) - 48) = ((a * 10 + (c.toNat - 48) : Nat) : Int) := by omega
        rw [e] at h
        obtain ⟨u, e1, e2, e3⟩ := magF_some r (a * 10 + (c.toNat - 48)) v (by omega) h
        refine ⟨u, e1, e2, ?_⟩
        unfold parseUintM
        rw [if_pos (by omega), if_neg (by omega), if_neg (by omega)]
        exact e3
theorem magF_none : ∀ (l : List UInt8) (a : Nat), a ≤ 9223372036854775808 → magF a l = none → ∀ u, parseUintM (2 ^ 64 - 1) a l = .ok u → 9223372036854775808 < u
  | [], a, ha, h, u, hu => by simp [magF] at h
  | c :: r, a, ha, h, u, hu => by
    unfold parseUintM at hu
    split at hu
    · split at hu
      · simp at hu
      · split at hu
        · simp at hu
        · next h1 h2 h3 =>
          unfold magF at h
          rw [if_neg (by omega)] at h
          split at h
          · have := parse_ge _ _ _ _ hu; omega
          · have e : (a : Int) * 10 + ((c.toNat : Int) - 48) = ((a * 10 + (c.toNat - 48) : Nat) : Int) := by omega
            rw [e] at h
            exact magF_none r _ (by omega) h u hu
    · simp at hu
/-- What the library's parser finds, if it finds a number. -/
def pd (l : List UInt8) : Option Int := match parseIntB 64 l with | .ok v => some v | _ => none
/-- The law's own parser behind the sign. -/
def pdF (neg : Bool) (l : List UInt8) : Option Int :=
  if l = [] then none else match magF 0 l with
  | none => none
  | some a => if neg then some (-a) else if a = 9223372036854775808 then none else some a
theorem pd_nil : pd [] = none := rfl
theorem pd_cons (c : UInt8) (r : List UInt8) : pd (c :: r) = pdF (decide (c.toNat = 45)) (if c.toNat = 43 ∨ c.toNat = 45 then r else c :: r) := by
  unfold pd parseIntB
  simp only []
  unfold pdF parseUintB
  generalize (if c.toNat = 43 ∨ c.toNat = 45 then r else c :: r) = l
  by_cases h0 : l = []
  · simp [h0]
  · rw [if_neg h0, if_neg h0]
    cases hm : magF 0 l with
    | some a =>
      obtain ⟨u, rfl, h1, h2⟩ := magF_some l 0 a (by omega) (by exact_mod_cast hm)
      rw [h2]
      by_cases hn : c.toNat = 45
      · have e1 : ¬ (9223372036854775808 < u) := by omega
        simp [hn, e1]
      · by_cases hu : u = 9223372036854775808
        · simp [hn, hu]
        · have e1 : ¬ (9223372036854775808 ≤ u) := by omega
          have e2 : ¬ ((u : Int) = 9223372036854775808) := by omega
          simp [hn, e1, e2]
    | none =>
      have h2 := magF_none l 0 (by omega) (by exact_mod_cast hm)
      cases hp : parseUintM (2 ^ 64 - 1) 0 l with
      | ok u =>
        have := h2 u hp
        by_cases hn : c.toNat = 45
        · have e1 : 9223372036854775808 < u := by omega
          simp [hn, e1]
        · have e1 : 9223372036854775808 ≤ u := by omega
          simp [hn, e1]
      | «syntax» => simp
      | range => simp
end Go.Proofs.Qxb6605524aDoor
