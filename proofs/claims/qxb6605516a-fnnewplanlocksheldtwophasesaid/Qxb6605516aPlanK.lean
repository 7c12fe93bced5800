import Derived.Test.Qxb6605516aPlanM
import Derived.Test.Qxb6605516aPlanI
namespace Go.Proofs.Qxb6605516a
open Go.RowKit
noncomputable def lp4_1 : Code := ((loopsOf (Try.f4.body.getD .skip))[0]?).getD .skip
noncomputable def lp4_2 : Code := ((loopsOf (Try.f4.body.getD .skip))[1]?).getD .skip
noncomputable def lp4_3 : Code := ((loopsOf (Try.f4.body.getD .skip))[2]?).getD .skip
noncomputable def lp4_4 : Code := ((loopsOf (Try.f4.body.getD .skip))[3]?).getD .skip
noncomputable def lp4_5 : Code := ((loopsOf (Try.f4.body.getD .skip))[4]?).getD .skip
noncomputable def lp4_6 : Code := ((loopsOf (Try.f4.body.getD .skip))[5]?).getD .skip
noncomputable def lp4_7 : Code := ((loopsOf (Try.f4.body.getD .skip))[6]?).getD .skip
/-- Loop 1: what has gone back. -/
structure Z1 (w0 : World) (n nt rl fr : Nat) (K T X : Nat → Int) (v : Int) (s : Value) (wr : World) (p : Nat) (R FR : Nat → Int) : Prop where
  hp : p ≤ n
  s : s = .int .i64 p
  br : Blk wr rl (irow .i32 n R) 21
  bf : Blk wr fr (irow .i32 nt FR) 21
  ri : RInv K T X n v (fun _ r => r < p) R
  fi : FrInv K T X n nt v (fun _ r => r < p) FR
  bel : Below w0.heap.size w0 wr
/-- Loop 2: the list of one place. -/
structure Z2 (w0 : World) (n nt rl fr : Nat) (K T X : Nat → Int) (v : Int) (p : Nat) (s1 s2 s3 : Value) (wr : World) (prev : Int) (steps : Nat) (g : Int) (R FR : Nat → Int) : Prop where
  s1 : s1 = .int .i32 prev
  s2 : s2 = .int .i64 steps
  s3 : s3 = .int .i32 g
  br : Blk wr rl (irow .i32 n R) 21
  bf : Blk wr fr (irow .i32 nt FR) 21
  i : In2 K T X n nt v p prev steps g R FR
  bel : Below w0.heap.size w0 wr
end Go.Proofs.Qxb6605516a
