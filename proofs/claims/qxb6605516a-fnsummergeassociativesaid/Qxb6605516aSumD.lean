import Derived.Test.Qxb6605516aSumC
namespace Go.Proofs.Qxb6605516a
open Go.RowKit

/-- A sum's seven numbers. -/
structure Sm where
  n : Int
  f0 : Int
  f1 : Int
  f2 : Int
  f3 : Int
  o : Int
  y : Int

def Sm.cells (s : Sm) : Array Value := sc s.n s.f0 s.f1 s.f2 s.f3 s.o s.y
def Sm.fs (s : Sm) : List Int := [s.f0, s.f1, s.f2, s.f3]
/-- The ranks that it keeps. -/
def Sm.pre (s : Sm) : List Int := s.fs.take (min s.n 4).toNat
/-- A sum of n, its ranks the list's first four. -/
def mkS (n : Int) (l : List Int) (o y : Int) : Sm := ⟨n, l.getD 0 0, l.getD 1 0, l.getD 2 0, l.getD 3 0, o, y⟩
def mergeS (a b : Sm) : Sm :=
  if a.n = 0 then b else if b.n = 0 then a else mkS (a.n + b.n) (mrg (min (a.n + b.n) 4).toNat a.pre b.pre) (imin a.o b.o) (imax a.y b.y)

theorem merge_any (a b c : Nat) (A B C : Sm) (w : World) (h0 : 0 ≤ A.n) (h1 : 0 ≤ B.n) (h2 : A.n + B.n ≤ 2147483647) (hA : Blk w a A.cells 72) (hB : Blk w b B.cells 72) (hC : Blk w c C.cells 72) :
    Calls Try.prog 41 #[.pointer (some ⟨c, 0, none⟩), .pointer (some ⟨a, 0, none⟩), .pointer (some ⟨b, 0, none⟩)] w fun e w' => e = .returned (.tuple #[]) ∧ Kept (fun x => x = c) w w' ∧ Blk w' c (mergeS A B).cells 72 := by
  obtain ⟨an, a0, a1, a2, a3, ao, ay⟩ := A
  obtain ⟨bn, b0, b1, b2, b3, bo, by_⟩ := B
  obtain ⟨cn, e0, e1, e2, e3, co, cy⟩ := C
  simp only [Sm.cells] at hA hB hC
  simp only at h0 h1 h2
  by_cases ha : an = 0
  · subst ha
    simp only [mergeS, if_true, Sm.cells]
    exact merge_a0 a b c _ _ _ _ _ _ _ _ _ _ _ _ _ _ _ _ _ _ _ _ w hA hB hC
  by_cases hb : bn = 0
  · subst hb
    simp only [mergeS, if_neg ha, if_true, Sm.cells]
    exact merge_b0 a b c _ _ _ _ _ _ _ _ _ _ _ _ _ _ _ _ _ _ _ _ w (by simpa using ha) hA hB hC
  · simp only [mergeS, if_neg ha, if_neg hb, Sm.cells, mkS, Sm.pre, Sm.fs]
    exact merge_ab a b c _ _ _ _ _ _ _ _ _ _ _ _ _ _ _ _ _ _ _ _ _ w (by simpa using ha) (by simpa using hb) (by omega) (by omega) h2 hA hB hC

set_option maxHeartbeats 400000 in
theorem zzmerge_any (a b c : Nat) (A B C : Sm) (w : World) (h0 : 0 ≤ A.n) (h1 : 0 ≤ B.n) (h2 : A.n + B.n ≤ 2147483647) (hA : Blk w a A.cells 72) (hB : Blk w b B.cells 72) (hC : Blk w c C.cells 72) :
    Calls Try.prog 35 #[.pointer (some ⟨c, 0, none⟩), .pointer (some ⟨a, 0, none⟩), .pointer (some ⟨b, 0, none⟩)] w fun e w' => e = .returned (.tuple #[]) ∧ Kept (fun x => x = c) w w' ∧ Blk w' c (mergeS A B).cells 72 := by
  have HA := hide hA
  have HB := hide hB
  have HC := hide hC
  clear hA hB hC
  go_enter Try.func35, Try.ntmps35
  go_wp2_with fail
  refine (merge_any a b c A B C w h0 h1 h2 HA.out HB.out HC.out).mono ?_
  rintro e w' ⟨rfl, hk, hb⟩
  go_wp2
  go_end0
  exact ⟨rfl, hk, hb⟩
end Go.Proofs.Qxb6605516a
