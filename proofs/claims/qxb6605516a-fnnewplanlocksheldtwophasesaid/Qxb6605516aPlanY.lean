import Derived.Test.Qxb6605516aPlanA
import Derived.Test.Qxb6605516aPlanD
import Derived.Test.Qxb6605516aPlanV
import Derived.Test.Qxb6605516aPlanX
namespace Go.Proofs.Qxb6605516a
open Go.RowKit
set_option linter.unusedVariables false

theorem slOfBlk {w : World} {b n sz : Nat} {f : Nat → Value} {T : TypeId} (h : Blk w b (fc (n * sz) f) T) : SlA w (some ⟨b, 0, none⟩) n sz f :=
  .inr ⟨b, 0, rfl, h.lt, fun c hc => by rw [Nat.zero_add]; exact h.fcell c hc⟩
theorem cloneops_c (a : Option Addr) (n c : Nat) (K T X : Nat → Int) (hn : n ≤ 4096) (w : World) (z : a = none → n = 0) (h : SlA w a n 3 (opCell K T X)) :
    Calls Try.prog 12 #[.slice a n c] w fun e w' => ∃ oa oc, e = .returned (.slice oa n oc) ∧ (oa = none → n = 0) ∧ SlA w' oa n 3 (opCell K T X) ∧ Below w.heap.size w w' := by
  cases a with
  | none =>
    obtain rfl := z rfl
    refine (cloneops_nil 0 c w).mono ?_
    rintro e w' ⟨rfl, rfl⟩
    exact ⟨none, 0, rfl, fun _ => rfl, .inl rfl, Below.refl _ _⟩
  | some x =>
    refine (cloneops_any x n c K T X hn w h).mono ?_
    rintro e w' ⟨rfl, hb, hl⟩
    exact ⟨_, _, rfl, fun e => by simp at e, slOfBlk hb, hl⟩
theorem clonestrs_c (a : Option Addr) (n c : Nat) (S : Nat → ByteArray) (hn : n ≤ 4096) (w : World) (z : a = none → n = 0) (h : SlA w a n 1 (fun i => .string (S i))) :
    Calls Try.prog 13 #[.slice a n c] w fun e w' => ∃ (oa : Option Addr) (oc : Nat) (S' : Nat → ByteArray), e = .returned (.slice oa n oc) ∧ (oa = none → n = 0) ∧ SlA w' oa n 1 (fun i => .string (S' i)) ∧ Below w.heap.size w w' := by
  cases a with
  | none =>
    obtain rfl := z rfl
    refine (clonestrs_nil 0 c w).mono ?_
    rintro e w' ⟨rfl, rfl⟩
    exact ⟨none, 0, S, rfl, fun _ => rfl, .inl rfl, Below.refl _ _⟩
  | some x =>
    refine (clonestrs_any x n c S hn w h).mono ?_
    rintro e w' ⟨rfl, ⟨S', hb⟩, hl⟩
    exact ⟨_, _, S', rfl, fun e => by simp at e, slOfBlk (sz := 1) (by rw [Nat.mul_one]; exact hb), hl⟩
/-- newPlan's contract. -/
def NPC : Prop := ∀ (bh n nt ni : Nat) (K T X : Nat → Int) (ha : Option Addr) (hc : Nat) (ta : Option Addr) (tc : Nat) (ia : Option Addr) (ic : Nat) (l : ByteArray) (v : Int) (w : World), n ≤ 4096 → nt ≤ 4096 → ni ≤ 4096 → Dom n nt ni K T X v → Hist w bh n nt ni K T X ha hc ta tc ia ic l →
    Calls Try.prog 38 #[.pointer (some ⟨bh, 0, none⟩), .int .u8 v] w fun e w' => ∃ pl md af nx cl cf M A N CI CM CF len, e = .returned (.pointer (some ⟨pl, 0, none⟩)) ∧ PlanOut w w' v n nt K T X pl md af nx cl cf M A N CI CM CF len
/-- The plan's answer and the first touches, in memory. -/
structure S3 (w wr : World) (v : Int) (n nt : Nat) (K T X M A N CI CM CF G : Nat → Int) (len : Nat) (oa : Option Addr) (bm af nx bi bc cf bg : Nat) : Prop where
  ops : SlA wr oa n 3 (opCell K T X)
  mo : Blk wr bm (irow .u8 n M) 5
  ra : Blk wr af (irow .i32 n A) 21
  rn : Blk wr nx (irow .i32 n N) 21
  cl : v = 3 → Blk wr bi (irow .i32 len CI) 21 ∧ Blk wr bc (irow .u8 len CM) 5 ∧ Blk wr cf (irow .i32 (nt + 1) CF) 21
  fo : Blk wr bg (irow .i32 n G) 21
  bel : Below w.heap.size w wr
theorem S3.below {w wr w2 : World} {v : Int} {n nt : Nat} {K T X M A N CI CM CF G : Nat → Int} {len : Nat} {oa : Option Addr} {bm af nx bi bc cf bg : Nat} (h : S3 w wr v n nt K T X M A N CI CM CF G len oa bm af nx bi bc cf bg) (hb : Below wr.heap.size wr w2) : S3 w w2 v n nt K T X M A N CI CM CF G len oa bm af nx bi bc cf bg :=
  ⟨h.ops.below hb, h.mo.below hb h.mo.lt, h.ra.below hb h.ra.lt, h.rn.below hb h.rn.lt, fun e => ⟨(h.cl e).1.below hb (h.cl e).1.lt, (h.cl e).2.1.below hb (h.cl e).2.1.lt, (h.cl e).2.2.below hb (h.cl e).2.2.lt⟩, h.fo.below hb h.fo.lt, h.bel.trans (hb.mono h.bel.size)⟩
/-- Loop 1. -/
structure Q1 (w0 : World) (n st la : Nat) (K T X : Nat → Int) (s : Value) (wr : World) (p : Nat) (ST LA : Nat → Int) : Prop where
  hp : p ≤ n
  s : s = .int .i64 p
  bst : Blk wr st (irow .u8 n ST) 5
  bla : Blk wr la (irow .i32 n LA) 21
  mi : MInv K T X n (fun q => q < p) ST
  la : LaInv K T X n p LA
  bel : Below w0.heap.size w0 wr
end Go.Proofs.Qxb6605516a
