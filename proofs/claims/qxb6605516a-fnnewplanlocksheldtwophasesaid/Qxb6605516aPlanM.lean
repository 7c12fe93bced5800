import Derived.Test.Qxb6605516aPlanY
import Derived.Test.Qxb6605516aPlanL
namespace Go.Proofs.Qxb6605516a
open Go.RowKit
noncomputable def lp3_1 : Code := ((loopsOf (Try.f3.body.getD .skip))[0]?).getD .skip
noncomputable def lp3_2 : Code := ((loopsOf (Try.f3.body.getD .skip))[1]?).getD .skip
noncomputable def lp3_3 : Code := ((loopsOf (Try.f3.body.getD .skip))[2]?).getD .skip
noncomputable def lp3_4 : Code := ((loopsOf (Try.f3.body.getD .skip))[3]?).getD .skip
noncomputable def lp3_5 : Code := ((loopsOf (Try.f3.body.getD .skip))[4]?).getD .skip
noncomputable def lp3_6 : Code := ((loopsOf (Try.f3.body.getD .skip))[5]?).getD .skip
noncomputable def lp3_7 : Code := ((loopsOf (Try.f3.body.getD .skip))[6]?).getD .skip
noncomputable def lp3_8 : Code := ((loopsOf (Try.f3.body.getD .skip))[7]?).getD .skip
noncomputable def lp3_9 : Code := ((loopsOf (Try.f3.body.getD .skip))[8]?).getD .skip
/-- Loop 2: the lock points. -/
structure Q2 (w0 : World) (n nt lb : Nat) (K T X : Nat → Int) (s : Value) (wr : World) (p : Nat) (LP : Nat → Int) : Prop where
  hp : p ≤ n
  s : s = .int .i64 p
  b : Blk wr lb (irow .i32 nt LP) 21
  lp : LpInv K T X n nt p LP
  bel : Below w0.heap.size w0 wr
/-- Loop 3: the expected plan. -/
structure Q3 (w0 : World) (n em ea en ta : Nat) (K T X : Nat → Int) (v : Int) (ST : Nat → Int) (s : Value) (wr : World) (f : Nat) (EM EA EN TA : Nat → Int) : Prop where
  hp : f ≤ n
  s : s = .int .i64 f
  bm : Blk wr em (irow .u8 n EM) 5
  ba : Blk wr ea (irow .i32 n EA) 21
  bn : Blk wr en (irow .i32 n EN) 21
  bt : Blk wr ta (irow .i32 n TA) 21
  e : E3 K T X n v ST f EM EA EN TA
  bel : Below w0.heap.size w0 wr
/-- Loop 4: all is the same. -/
structure Q4 (w0 : World) (n : Nat) (s : Value) (wr : World) (p : Nat) : Prop where
  hp : p ≤ n
  s : s = .int .i64 p
  bel : Below w0.heap.size w0 wr
/-- Loops 5, 6: how many claims each transaction has; from where on. -/
structure Q5 (w0 : World) (n nt fr : Nat) (K T X : Nat → Int) (s : Value) (wr : World) (f : Nat) (FR : Nat → Int) : Prop where
  hp : f ≤ n
  s : s = .int .i64 f
  b : Blk wr fr (irow .i32 (nt + 1) FR) 21
  f1 : Fr1 K T X n nt f FR
  bel : Below w0.heap.size w0 wr
structure Q6 (w0 : World) (n nt fr : Nat) (K T X : Nat → Int) (s : Value) (wr : World) (t : Nat) (FR : Nat → Int) : Prop where
  hp : t ≤ nt
  s : s = .int .i64 t
  b : Blk wr fr (irow .i32 (nt + 1) FR) 21
  f2 : Fr2 K T X n nt t FR
  bel : Below w0.heap.size w0 wr
/-- Loop 7: they are the plan's. -/
structure Q7 (w0 : World) (nt : Nat) (s : Value) (wr : World) (t : Nat) : Prop where
  hp : t ≤ nt + 1
  s : s = .int .i64 t
  bel : Below w0.heap.size w0 wr
/-- Loop 8: the cursors. -/
structure Q8 (w0 : World) (nt cu : Nat) (CF : Nat → Int) (s : Value) (wr : World) (t : Nat) (CU : Nat → Int) : Prop where
  hp : t ≤ nt
  s : s = .int .i64 t
  b : Blk wr cu (irow .i32 nt CU) 21
  c : ∀ j, j < t → CU j = CF j
  bel : Below w0.heap.size w0 wr
/-- Loop 9: the claims. -/
structure Q9 (w0 : World) (n nt cu : Nat) (K T X : Nat → Int) (s : Value) (wr : World) (f : Nat) (CU : Nat → Int) : Prop where
  hp : f ≤ n
  s : s = .int .i64 f
  b : Blk wr cu (irow .i32 nt CU) 21
  c : CuInv K T X n nt f CU
  bel : Below w0.heap.size w0 wr
end Go.Proofs.Qxb6605516a
