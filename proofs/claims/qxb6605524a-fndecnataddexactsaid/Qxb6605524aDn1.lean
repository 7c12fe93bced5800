import Derived.Test.Qxb6605524aRow
import Derived.Test.Qxb6605524aPm
import Derived.Deep.OwnRows
import Derived.Deep.DeepCutAuto
import Derived.Deep.CutBlock
import Derived.Deep.LoopGhost
namespace Go.Proofs.Qxb6605524a
open Go.RowKit
set_option linter.unusedVariables false

/-- A slice of words that can be read: nothing in it; or its numbers lie there. -/
structure Sl (w : World) (a : Option Addr) (n : Nat) (L : List Int) : Prop where
  len : L.length = n
  cells : n = 0 ∨ ∃ b off, a = some ⟨b, off, none⟩ ∧ b < w.heap.size ∧ ∀ i, i < n → w.cell? ⟨b, off + i, none⟩ = some (.int .u64 (L.getD i 0))
theorem Sl.below {w w' : World} {a : Option Addr} {n : Nat} {L : List Int} (h : Sl w a n L) (hb : Below w.heap.size w w') : Sl w' a n L := by
  refine ⟨h.len, ?_⟩
  rcases h.cells with h | ⟨b, off, rfl, hlt, hc⟩
  · exact .inl h
  · exact .inr ⟨b, off, rfl, Nat.lt_of_lt_of_le hlt hb.size, fun c h => by rw [hb.cell hlt]; exact hc c h⟩
theorem Sl.drewN {w : World} {a : Option Addr} {n : Nat} {L : List Int} (h : Sl w a n L) (q : Nat) : Sl (w.drewN q) a n L := h.below (below_drewN (Below.refl _ _) q)
theorem Sl.nil (w : World) (a : Option Addr) : Sl w a 0 [] := ⟨rfl, .inl rfl⟩
/-- A slice that is the head of a row of the call's own. -/
theorem Sl.own {w : World} {g : Nat} {L : List Int} (h : Blk w g (ints .u64 L) 34) (n : Nat) (hn : n ≤ L.length) : Sl w (some ⟨g, 0, none⟩) n (L.take n) := by
  refine ⟨by simp; omega, .inr ⟨g, 0, rfl, h.lt, fun i hi => ?_⟩⟩
  rw [Nat.zero_add, h.icell i (by omega)]
  simp [hi]

def SomeB (e : Ending) : Prop := ∃ b, e = .returned (.bool b)
theorem someB (b : Bool) : SomeB (.returned (.bool b)) := ⟨b, rfl⟩

set_option maxHeartbeats 400000 in
theorem zzbytes5 (a0 : Option Addr) (n0 c0 : Nat) (a1 : Option Addr) (n1 c1 : Nat) (w : World) :
    Calls Try.prog 5 #[.slice a0 n0 c0, .slice a1 n1 c1] w fun e w' => SomeB e ∧ w' = w := by
  go_enter Try.func5, Try.ntmps5
  go_wp2
  all_goals (go_ret; exact ⟨someB _, rfl⟩)
set_option maxHeartbeats 400000 in
theorem zzbytes12 (a0 : Option Addr) (n0 c0 : Nat) (a1 : Option Addr) (n1 c1 : Nat) (w : World) :
    Calls Try.prog 12 #[.slice a0 n0 c0, .slice a1 n1 c1] w fun e w' => SomeB e ∧ w' = w := by
  go_enter Try.func12, Try.ntmps12
  go_wp2
  all_goals (go_ret; exact ⟨someB _, rfl⟩)

theorem dn_false {L : List Int} {i : Nat} (hi : i < L.length) (h : 1000000000000000000 ≤ L.getD i 0) : isDN L = false := by
  unfold isDN
  apply decide_eq_false
  rintro ⟨h1, _⟩
  have := h1 (L.getD i 0) (by simp [hi])
  omega
theorem all_of {L : List Int} (h : ∀ i, i < L.length → L.getD i 0 < 1000000000000000000) : ∀ a ∈ L, a < 1000000000000000000 := by
  intro a ha
  obtain ⟨i, hi, rfl⟩ := List.getElem_of_mem ha
  have := h i hi
  simpa [hi] using this
theorem ret_b {x y : Bool} (h : x = y) : Ending.returned (.bool x) = .returned (.bool y) := by rw [h]

set_option maxHeartbeats 400000 in
theorem isdn_any (a : Option Addr) (n c : Nat) (L : List Int) (hn : n ≤ 1048577) (w : World) (h : Sl w a n L) :
    Calls Try.prog 6 #[.slice a n c] w fun e w' => e = .returned (.bool (isDN L)) ∧ w' = w := by
  have H := hide h
  have hl := h.len
  have Hl := hide hl
  clear h hl
  go_enter Try.func6, Try.ntmps6
  go_wp2
  go_loop [3] (fun s => ∃ i : Nat, s = .int .i64 i ∧ i ≤ n ∧ (∀ j, j < i → L.getD j 0 < 1000000000000000000)) (fun s => n - (intOf s).toNat)
  case atStart => exact ⟨0, rfl, by omega, fun j hj => by omega⟩
  case round =>
    obtain ⟨i, rfl, hi, hs⟩ := hrel
    have Hs := hide hs
    clear hs
    by_cases hlt : i < n
    · rcases H.out.cells with h0 | ⟨b, off, rfl, hb, hc⟩
      · omega
      have c0 := hc i hlt
      clear hc
      go_wp2
      · go_ret
        exact ⟨ret_b (dn_false (i := i) (by have := Hl.out; omega) ‹1000000000000000000 ≤ L[i]?.getD 0›).symm, rfl⟩
      · go_round
        case rel => exact ⟨i + 1, by go_num, by omega, fun j hj => by
          by_cases e : j = i
          · subst e; exact ‹L[j]?.getD 0 < 1000000000000000000›
          · exact Hs.out j (by omega)⟩
        case measure => simp [intOf]; omega
    · by_cases h0 : n = 0
      · have h0' : ((n : Int) == 0) = true := by simp [h0]
        have H0 := hide h0
        clear h0
        go_wp2
        go_ret
        exact ⟨ret_b (by
          have e : L = [] := List.length_eq_zero_iff.1 (by rw [Hl.out, H0.out])
          subst e; rfl), rfl⟩
      · have h0' : ((n : Int) == 0) = false := by simp [h0]
        rcases H.out.cells with h1 | ⟨b, off, rfl, hb, hc⟩
        · omega
        have c0 := hc (n - 1) (by omega)
        clear hc
        go_wp2
        go_ret
        exact ⟨ret_b (by
          unfold isDN
          have e1 := all_of (L := L) (fun j hj => Hs.out j (by have := Hl.out; omega))
          have e2 : L ≠ [] := by intro e; subst e; have := Hl.out; simp at this; omega
          rw [Hl.out]
          by_cases e3 : L.getD (n - 1) 0 = 0
          · rw [decide_eq_false (by rintro ⟨_, h | h⟩; exact e2 h; exact h e3)]
            simp at e3; simp [e3]
          · rw [decide_eq_true ⟨e1, .inr e3⟩]
            simp at e3; simp [e3]), rfl⟩
end Go.Proofs.Qxb6605524a
