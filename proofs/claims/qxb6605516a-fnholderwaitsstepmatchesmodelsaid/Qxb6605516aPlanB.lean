import Derived.Test.Qxb6605516aPlanA
import Derived.Deep.Light
namespace Go.Proofs.Qxb6605516a
open Go.RowKit

def SomeI (e : Ending) : Prop := ∃ z, e = .returned (.int .i64 z)
theorem someI (z : Int) : SomeI (.returned (.int .i64 z)) := ⟨z, rfl⟩

set_option maxHeartbeats 1000000 in
theorem planbytes_any (a0 : Option Addr) (n0 c0 : Nat) (a1 : Option Addr) (n1 c1 : Nat) (a2 : Option Addr) (n2 c2 : Nat) (l : ByteArray) (S1 S2 : Nat → ByteArray) (w : World) (h1 : SlA w a1 n1 1 (fun i => .string (S1 i))) (h2 : SlA w a2 n2 1 (fun i => .string (S2 i))) :
    Calls Try.prog 10 #[.slice a0 n0 c0, .slice a1 n1 c1, .slice a2 n2 c2, .string l] w fun e w' => SomeI e ∧ w' = w := by
  have H1 := hide h1
  have H2 := hide h2
  clear h1 h2
  by_cases g0 : 1048576 < n0
  · have d0 : decide ((1048576 : Int) < (n0 : Int)) = true := by simp; omega
    go_enter Try.func10, Try.ntmps10
    go_wp2
    go_ret; exact ⟨someI _, rfl⟩
  have d0 : decide ((1048576 : Int) < (n0 : Int)) = false := by simp; omega
  by_cases g1 : 1048576 < n1
  · have d1 : decide ((1048576 : Int) < (n1 : Int)) = true := by simp; omega
    go_enter Try.func10, Try.ntmps10
    go_wp2
    go_ret; exact ⟨someI _, rfl⟩
  have d1 : decide ((1048576 : Int) < (n1 : Int)) = false := by simp; omega
  by_cases g2 : 1048576 < n2
  · have d2 : decide ((1048576 : Int) < (n2 : Int)) = true := by simp; omega
    go_enter Try.func10, Try.ntmps10
    go_wp2
    go_ret; exact ⟨someI _, rfl⟩
  have d2 : decide ((1048576 : Int) < (n2 : Int)) = false := by simp; omega
  by_cases g3 : 1048576 < l.size
  · have d3 : decide ((1048576 : Int) < (l.size : Int)) = true := by simp; omega
    go_enter Try.func10, Try.ntmps10
    go_wp2
    go_ret; exact ⟨someI _, rfl⟩
  have d3 : decide ((1048576 : Int) < (l.size : Int)) = false := by simp; omega
  go_enter Try.func10, Try.ntmps10
  go_wp2
  all_goals (try (go_ret; exact ⟨someI _, rfl⟩))
  go_loop [9, 10] (fun sz si => ∃ (z : Int) (i : Nat), sz = .int .i64 z ∧ si = .int .i64 i ∧ i ≤ n1) (fun _ si => n1 - (intOf si).toNat)
  case atStart => exact ⟨_, 0, rfl, rfl, by omega⟩
  case round =>
    obtain ⟨z, i, rfl, rfl, hi⟩ := hrel
    by_cases hlt : i < n1
    · rcases H1.out with h0 | ⟨b, off, rfl, hb, hc⟩
      · omega
      have c1 := hc i (by omega)
      have Hc := hide hc
      clear hc
      go_wp2
      all_goals (try (go_ret; exact ⟨someI _, rfl⟩))
      go_round
      case rel => exact ⟨_, i + 1, rfl, by go_num, by omega⟩
      case measure => simp [intOf]; omega
    · go_wp2
      all_goals (try (go_ret; exact ⟨someI _, rfl⟩))
      go_loop [9, 11] (fun sz si => ∃ (z : Int) (i : Nat), sz = .int .i64 z ∧ si = .int .i64 i ∧ i ≤ n2) (fun _ si => n2 - (intOf si).toNat)
      case atStart => exact ⟨_, 0, rfl, rfl, by omega⟩
      case round =>
        obtain ⟨z, i, rfl, rfl, hi⟩ := hrel
        by_cases hlt : i < n2
        · rcases H2.out with h0 | ⟨b, off, rfl, hb, hc⟩
          · omega
          have c1 := hc i (by omega)
          have Hc := hide hc
          clear hc
          go_wp2
          all_goals (try (go_ret; exact ⟨someI _, rfl⟩))
          go_round
          case rel => exact ⟨_, i + 1, rfl, by go_num, by omega⟩
          case measure => simp [intOf]; omega
        · go_wp2
          all_goals (go_ret; exact ⟨someI _, rfl⟩)

/-- The cells of operations: kind, transaction, item. -/
def opCell (K T X : Nat → Int) (c : Nat) : Value := if c % 3 = 0 then .int .u8 (K (c / 3)) else if c % 3 = 1 then .int .i32 (T (c / 3)) else .int .i32 (X (c / 3))
theorem opCell0 (K T X : Nat → Int) (i : Nat) : opCell K T X (i * 3) = .int .u8 (K i) := by
  unfold opCell; rw [if_pos (by omega), show i * 3 / 3 = i from by omega]
theorem opCell1 (K T X : Nat → Int) (i : Nat) : opCell K T X (i * 3 + 1) = .int .i32 (T i) := by
  unfold opCell; rw [if_neg (by omega), if_pos (by omega), show (i * 3 + 1) / 3 = i from by omega]
theorem opCell2 (K T X : Nat → Int) (i : Nat) : opCell K T X (i * 3 + 2) = .int .i32 (X i) := by
  unfold opCell; rw [if_neg (by omega), if_neg (by omega), show (i * 3 + 2) / 3 = i from by omega]

/-- The domain of newPlan. -/
structure Dom (n nt ni : Nat) (K T X : Nat → Int) (v : Int) : Prop where
  v1 : 1 ≤ v
  v3 : v ≤ 3
  rw : ∀ i, i < n → K i = 1 ∨ K i = 2 → 0 ≤ T i ∧ T i < nt ∧ 0 ≤ X i ∧ X i < ni
  en : ∀ i, i < n → K i = 3 ∨ K i = 4 → 0 ≤ T i ∧ T i < nt
/-- .. of the operations ahead of m. -/
def DomTo (m nt ni : Nat) (K T X : Nat → Int) : Prop :=
  (∀ i, i < m → K i = 1 ∨ K i = 2 → 0 ≤ T i ∧ T i < nt ∧ 0 ≤ X i ∧ X i < ni) ∧ (∀ i, i < m → K i = 3 ∨ K i = 4 → 0 ≤ T i ∧ T i < nt)
def DomB (e : Ending) (n nt ni : Nat) (K T X : Nat → Int) (v : Int) : Prop := e = .returned (.bool false) ∨ (e = .returned (.bool true) ∧ Dom n nt ni K T X v)

set_option maxHeartbeats 2000000 in
theorem plandomain_any (a0 : Option Addr) (n c0 nt ni : Nat) (v : Int) (K T X : Nat → Int) (w : World) (hn : n ≤ 4096) (hT : ∀ i, -2147483648 ≤ T i ∧ T i ≤ 2147483647) (hX : ∀ i, -2147483648 ≤ X i ∧ X i ≤ 2147483647) (h : SlA w a0 n 3 (opCell K T X)) :
    Calls Try.prog 11 #[.slice a0 n c0, .int .i64 nt, .int .i64 ni, .int .u8 v] w fun e w' => DomB e n nt ni K T X v ∧ Below w.heap.size w w' := by
  have H := hide h
  clear h
  by_cases v1 : v < 1
  · have d1 : decide (v < 1) = true := by simp; omega
    go_enter Try.func11, Try.ntmps11
    go_wp2
    go_ret; exact ⟨.inl rfl, Below.refl _ _⟩
  have d1 : decide (v < 1) = false := by simp; omega
  by_cases v3 : 3 < v
  · have d3 : decide (3 < v) = true := by simp; omega
    go_enter Try.func11, Try.ntmps11
    go_wp2
    go_ret; exact ⟨.inl rfl, Below.refl _ _⟩
  have d3 : decide (3 < v) = false := by simp; omega
  have HT := hide hT
  have HX := hide hX
  clear hT hX
  go_enter Try.func11, Try.ntmps11
  go_wp2
  go_loopw [9] (fun si wr => ∃ i : Nat, si = .int .i64 i ∧ i ≤ n ∧ DomTo i nt ni K T X ∧ Below w.heap.size w wr) (fun si _ => n - (intOf si).toNat)
  case atStart => exact ⟨0, rfl, by omega, ⟨fun i hi => by omega, fun i hi => by omega⟩, Below.refl _ _⟩
  case round =>
    obtain ⟨i, rfl, hi, hd, hb⟩ := hrel
    have Hd := hide hd
    have Hb := hide hb
    clear hd hb
    by_cases hlt : i < n
    · have h1 := H.out.below Hb.out
      rcases h1 with h0 | ⟨b, off, rfl, hbl, hc⟩
      · omega
      have c0 := hc (i * 3) (by omega)
      have c1 := hc (i * 3 + 1) (by omega)
      have c2 := hc (i * 3 + 2) (by omega)
      rw [opCell0] at c0
      rw [opCell1, ← Nat.add_assoc] at c1
      rw [opCell2, ← Nat.add_assoc] at c2
      have hTi := HT.out i
      have hXi := HX.out i
      clear hc
      go_wp2
      all_goals (try (go_ret; exact ⟨.inl rfl, Hb.out.alloc (Nat.le_trans (Nat.le_refl _) Hb.out.size) _⟩))
      all_goals
        go_roundw
        case measure => simp [intOf]; omega
        case rel =>
          refine ⟨i + 1, by go_num, by omega, ⟨fun j hj hk => ?_, fun j hj hk => ?_⟩, Hb.out.alloc (Nat.le_trans (Nat.le_refl _) Hb.out.size) _⟩
          · by_cases e : j = i
            · subst e
              go_light
              simp only [beq_iff_eq, beq_eq_false_iff_ne, ne_eq] at *
              omega
            · exact Hd.out.1 j (by omega) hk
          · by_cases e : j = i
            · subst e
              go_light
              simp only [beq_iff_eq, beq_eq_false_iff_ne, ne_eq] at *
              omega
            · exact Hd.out.2 j (by omega) hk
    · go_wp2
      go_ret
      exact ⟨.inr ⟨rfl, ⟨by omega, by omega, fun j hj => Hd.out.1 j (by omega), fun j hj => Hd.out.2 j (by omega)⟩⟩, Hb.out⟩
end Go.Proofs.Qxb6605516a
