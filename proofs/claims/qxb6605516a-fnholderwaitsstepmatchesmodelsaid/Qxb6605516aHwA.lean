import Derived.Test.Qxb6605516aPlanC
import Derived.Test.Qxb6605516aHwP
namespace Go.Proofs.Qxb6605516a
open Go.RowKit
set_option linter.unusedVariables false

/-- Integers that came in. -/
def IRow (w : World) (a : Option Addr) (len sz : Nat) (F : Nat → Int) : Prop := SlA w a len sz (fun c => .int .i32 (F c))
/-- Slices of rows of integers, that came in. -/
structure Nst (w : World) (a : Option Addr) (m sz : Nat) (L : Nat → Nat) (F : Nat → Nat → Int) (la : Nat → Option Addr) (lc : Nat → Nat) : Prop where
  hd : SlA w a m 1 (fun i => .slice (la i) (L i) (lc i))
  el : ∀ i, i < m → IRow w (la i) (L i) sz (F i)
  zl : ∀ i, i < m → la i = none → L i = 0
theorem Nst.below {w w' : World} {a : Option Addr} {m sz : Nat} {L : Nat → Nat} {F : Nat → Nat → Int} {la : Nat → Option Addr} {lc : Nat → Nat} (h : Nst w a m sz L F la lc) (hb : Below w.heap.size w w') : Nst w' a m sz L F la lc :=
  ⟨h.hd.below hb, fun i hi => SlA.below (h.el i hi) hb, h.zl⟩

/-- It answers; and where it answers true, P. -/
def Yes (P : Prop) (e : Ending) : Prop := ∃ b, e = .returned (.bool b) ∧ (b = true → P)
theorem yes_no {P : Prop} : Yes P (.returned (.bool false)) := ⟨_, rfl, by simp⟩
theorem yes_yes {P : Prop} (h : P) : Yes P (.returned (.bool true)) := ⟨_, rfl, fun _ => h⟩
/-- All lengths so far are small. -/
structure Zl (n : Nat) (L : Nat → Nat) (sz si : Value) (z : Int) (i : Nat) : Prop where
  s1 : sz = .int .i64 z
  s2 : si = .int .i64 i
  hi : i ≤ n
  l : ∀ j, j < i → L j ≤ 1048576

set_option maxHeartbeats 1000000 in
theorem zzbytes20 (x0 x1 : Value) (a2 : Option Addr) (n2 c2 : Nat) (a3 : Option Addr) (n3 c3 : Nat) (a4 : Option Addr) (n4 c4 : Nat) (a5 : Option Addr) (n5 c5 : Nat) (x6 x7 x8 : Value) (L : Nat → Nat) (F : Nat → Nat → Int) (la : Nat → Option Addr) (lc : Nat → Nat) (w : World) (h : Nst w a3 n3 2 L F la lc) :
    Calls Try.prog 20 #[x0, x1, .slice a2 n2 c2, .slice a3 n3 c3, .slice a4 n4 c4, .slice a5 n5 c5, x6, x7, x8] w fun e w' => Yes (∀ i, i < n3 → L i ≤ 1048576) e ∧ w' = w := by
  have H1 := hide h.hd
  clear h
  go_enter Try.func20, Try.ntmps20
  go_wp2
  all_goals (try (go_ret; exact ⟨yes_no, rfl⟩))
  go_loop [19, 20] (fun sz si => ∃ (z : Int) (i : Nat), Zl n3 L sz si z i) (fun _ si => n3 - (intOf si).toNat)
  case atStart => exact ⟨_, 0, rfl, rfl, by omega, fun j hj => by omega⟩
  case round =>
    obtain ⟨z, i, hR⟩ := hrel
    obtain rfl := hR.s1
    obtain rfl := hR.s2
    have hi := hR.hi
    have hL := hR.l
    have HL := hide hL
    clear hL hR
    by_cases hlt : i < n3
    · rcases H1.out with h0 | ⟨b, off, rfl, hb, hc⟩
      · omega
      have c1 := hc i (by omega)
      have Hc := hide hc
      clear hc
      by_cases hl : 1048576 < L i
      · go_wp2
        all_goals (go_ret; exact ⟨yes_no, rfl⟩)
      · go_wp2
        all_goals (try (go_ret; exact ⟨yes_no, rfl⟩))
        go_round
        case rel => exact ⟨_, i + 1, rfl, by go_num, by omega, fun j hj => by
          by_cases e : j = i
          · subst e; omega
          · exact HL.out j (by omega)⟩
        case measure => simp [intOf]; omega
    · obtain rfl : i = n3 := by omega
      go_wp2
      all_goals (go_ret; first | exact ⟨yes_no, rfl⟩ | exact ⟨yes_yes HL.out, rfl⟩)
end Go.Proofs.Qxb6605516a
