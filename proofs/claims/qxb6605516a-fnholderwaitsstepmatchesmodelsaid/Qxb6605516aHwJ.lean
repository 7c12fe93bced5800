import Derived.Test.Qxb6605516aHwG
import Derived.Test.Qxb6605516aHwI
import Derived.Test.Qxb6605516aPlanL
namespace Go.Proofs.Qxb6605516a
open Go.RowKit
set_option linter.unusedVariables false
noncomputable def lp5_1 : Code := ((loopsOf (Try.f5.body.getD .skip))[0]?).getD .skip
noncomputable def lp5_2 : Code := ((loopsOf (Try.f5.body.getD .skip))[1]?).getD .skip
noncomputable def lp5_3 : Code := ((loopsOf (Try.f5.body.getD .skip))[2]?).getD .skip
noncomputable def lp5_4 : Code := ((loopsOf (Try.f5.body.getD .skip))[3]?).getD .skip
/-- What the law's loops read. -/
structure S5 (w w0 : World) (ni m : Nat) (G H : Nat → Int) (L L1 : Nat → Nat) (F F1 : Nat → Nat → Int) (i2 h3 : Option Addr) (la : Nat → Option Addr) (lc : Nat → Nat) (p1 p2 p3 q1 q2 : Option Addr) (l1 l2 : Nat → Option Addr) (k1 k2 : Nat → Nat) : Prop where
  it : IRow w0 i2 ni 3 G
  ls : Nst w0 h3 m 2 L F la lc
  r1 : IRow w0 p1 ni 1 (fun i => H (i * 3))
  r2 : IRow w0 p2 ni 1 (fun i => H (i * 3 + 1))
  r3 : IRow w0 p3 ni 1 (fun i => H (i * 3 + 2))
  t1 : Nst w0 q1 m 1 L1 (fun i j => F1 i (j * 2)) l1 k1
  t2 : Nst w0 q2 m 1 L1 (fun i j => F1 i (j * 2 + 1)) l2 k2
  bel : Below w.heap.size w w0
theorem S5.below {w w0 w2 : World} {ni m : Nat} {G H : Nat → Int} {L L1 : Nat → Nat} {F F1 : Nat → Nat → Int} {i2 h3 : Option Addr} {la : Nat → Option Addr} {lc : Nat → Nat} {p1 p2 p3 q1 q2 : Option Addr} {l1 l2 : Nat → Option Addr} {k1 k2 : Nat → Nat} (h : S5 w w0 ni m G H L L1 F F1 i2 h3 la lc p1 p2 p3 q1 q2 l1 l2 k1 k2) (hb : Below w0.heap.size w0 w2) : S5 w w2 ni m G H L L1 F F1 i2 h3 la lc p1 p2 p3 q1 q2 l1 l2 k1 k2 :=
  ⟨SlA.below h.it hb, h.ls.below hb, SlA.below h.r1 hb, SlA.below h.r2 hb, SlA.below h.r3 hb, h.t1.below hb, h.t2.below hb, h.bel.trans (hb.mono h.bel.size)⟩
/-- A loop that only reads. -/
structure U1 (w0 : World) (n : Nat) (s : Value) (wr : World) (p : Nat) : Prop where
  hp : p ≤ n
  s : s = .int .i64 p
  bel : Below w0.heap.size w0 wr
/-- The loop over t's list. -/
structure U4 (w0 : World) (ni Lq bs : Nat) (Fq G : Nat → Int) (s1 s2 : Value) (wr : World) (j : Nat) (S : Nat → Int) : Prop where
  s1 : s1 = .int .i64 (kn Fq G j)
  s2 : s2 = .int .i64 j
  hj : j ≤ Lq
  blk : Blk wr bs (irow .i64 ni S) 2
  c : ∀ x, x < ni → S x = (cm Fq G x j : Nat)
  bel : Below w0.heap.size w0 wr
/-- The loop over the lists. -/
structure U2 (w0 : World) (ni m bs : Nat) (p : Int) (s : Value) (wr : World) (i : Nat) (S : Nat → Int) : Prop where
  hp : i ≤ m
  s : s = .int .i64 i
  blk : Blk wr bs (irow .i64 ni S) 2
  z : (i : Int) ≤ p → ∀ x, x < ni → S x = 0
  bel : Below w0.heap.size w0 wr
theorem slCell {w : World} {a : Option Addr} {n : Nat} {f : Nat → Value} (h : SlA w a n 1 f) {i : Nat} (hi : i < n) : ∃ b off, a = some ⟨b, off, none⟩ ∧ b < w.heap.size ∧ w.cell? ⟨b, off + i, none⟩ = some (f i) := by
  rcases h with h0 | ⟨b, off, rfl, hb, hc⟩
  · omega
  · exact ⟨b, off, rfl, hb, hc i (by omega)⟩
theorem rowCell {w : World} {a : Option Addr} {n sz : Nat} {F : Nat → Int} (h : IRow w a n sz F) (h0 : 0 < n) : ∃ b off, a = some ⟨b, off, none⟩ ∧ b < w.heap.size ∧ ∀ c, c < n * sz → w.cell? ⟨b, off + c, none⟩ = some (.int .i32 (F c)) := by
  rcases h with h0 | ⟨b, off, rfl, hb, hc⟩
  · omega
  · exact ⟨b, off, rfl, hb, hc⟩
end Go.Proofs.Qxb6605516a
