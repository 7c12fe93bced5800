import Derived.Test.Qxb6605516aSumA
import Derived.Test.Qxb6605516aSumP
namespace Go.Proofs.Qxb6605516a
open Go.RowKit

/-- The eight cells of a sum. -/
def sc (n f0 f1 f2 f3 o y : Int) : Array Value := #[.int .i32 n, .int .i32 f0, .int .i32 f1, .int .i32 f2, .int .i32 f3, .int .i32 o, .int .i32 y, .int .i32 0]

theorem sc_cells {w : World} {b : Nat} {n f0 f1 f2 f3 o y : Int} {t : TypeId} (h : Blk w b (sc n f0 f1 f2 f3 o y) t) :
    w.cell? ⟨b, 0, none⟩ = some (.int .i32 n) ∧ w.cell? ⟨b, 1, none⟩ = some (.int .i32 f0) ∧ w.cell? ⟨b, 2, none⟩ = some (.int .i32 f1) ∧ w.cell? ⟨b, 3, none⟩ = some (.int .i32 f2) ∧
    w.cell? ⟨b, 4, none⟩ = some (.int .i32 f3) ∧ w.cell? ⟨b, 5, none⟩ = some (.int .i32 o) ∧ w.cell? ⟨b, 6, none⟩ = some (.int .i32 y) ∧ w.cell? ⟨b, 7, none⟩ = some (.int .i32 0) :=
  ⟨h.cell 0, h.cell 1, h.cell 2, h.cell 3, h.cell 4, h.cell 5, h.cell 6, h.cell 7⟩

set_option maxHeartbeats 400000 in
theorem make_any (n f0 f1 f2 f3 o y : Int) (w : World) :
    Calls Try.prog 34 #[.int .i32 n, .agg #[.int .i32 f0, .int .i32 f1, .int .i32 f2, .int .i32 f3], .int .i32 o, .int .i32 y] w fun e w' => e = .returned (.agg (sc n f0 f1 f2 f3 o y)) ∧ Below w.heap.size w w' := by
  go_enter Try.func34, Try.ntmps34
  go_wp2
  exact bodyPost_ret (v := .agg (sc n f0 f1 f2 f3 o y)) (by simp [results, Try.results34, go_sem, sc]) rfl ⟨rfl, (((Below.refl _ _).alloc (Nat.le_refl _) _).alloc (by simp) _)⟩

set_option maxHeartbeats 400000 in
theorem fields_any (b : Nat) (n f0 f1 f2 f3 o y : Int) (w : World) (h : Blk w b (sc n f0 f1 f2 f3 o y) 72) :
    Calls Try.prog 36 #[.pointer (some ⟨b, 0, none⟩)] w fun e w' => e = .returned (.tuple #[.int .i32 n, .agg #[.int .i32 f0, .int .i32 f1, .int .i32 f2, .int .i32 f3], .int .i32 o, .int .i32 y]) ∧ Below w.heap.size w w' := by
  have hlt := h.lt
  obtain ⟨c0, c1, c2, c3, c4, c5, c6, c7⟩ := sc_cells h
  clear h
  go_enter Try.func36, Try.ntmps36
  go_wp2
  go_region
  go_wp2
  exact bodyPost_ret (v := .tuple #[.int .i32 n, .agg #[.int .i32 f0, .int .i32 f1, .int .i32 f2, .int .i32 f3], .int .i32 o, .int .i32 y]) (by simp [results, Try.results36, go_sem]) rfl ⟨rfl, ((Below.refl _ _).alloc (Nat.le_refl _) _).drew⟩

theorem set8_arr (cn e0 e1 e2 e3 co cy n f0 f1 f2 f3 o y : Int) : ((((((((sc cn e0 e1 e2 e3 co cy).setIfInBounds 0 (.int .i32 n)).setIfInBounds 1 (.int .i32 f0)).setIfInBounds 2 (.int .i32 f1)).setIfInBounds 3 (.int .i32 f2)).setIfInBounds 4 (.int .i32 f3)).setIfInBounds 5 (.int .i32 o)).setIfInBounds 6 (.int .i32 y)).setIfInBounds 7 (.int .i32 0) = sc n f0 f1 f2 f3 o y := by
  simp [sc]
theorem set8 {w : World} {c : Nat} {cn e0 e1 e2 e3 co cy : Int} (h : Blk w c (sc cn e0 e1 e2 e3 co cy) 72) (n f0 f1 f2 f3 o y : Int) {w' : World} (hw : w' = ((((((((w.setCell ⟨c, 0, none⟩ (.int .i32 n)).setCell ⟨c, 1, none⟩ (.int .i32 f0)).setCell ⟨c, 2, none⟩ (.int .i32 f1)).setCell ⟨c, 3, none⟩ (.int .i32 f2)).setCell ⟨c, 4, none⟩ (.int .i32 f3)).setCell ⟨c, 5, none⟩ (.int .i32 o)).setCell ⟨c, 6, none⟩ (.int .i32 y)).setCell ⟨c, 7, none⟩ (.int .i32 0))) :
    Kept (fun x => x = c) w w' ∧ Blk w' c (sc n f0 f1 f2 f3 o y) 72 := by
  subst hw
  have k := (((((((h.set 0 (.int .i32 n)).set 1 (.int .i32 f0)).set 2 (.int .i32 f1)).set 3 (.int .i32 f2)).set 4 (.int .i32 f3)).set 5 (.int .i32 o)).set 6 (.int .i32 y)).set 7 (.int .i32 0)
  rw [set8_arr] at k
  refine ⟨?_, k⟩
  exact (((((((((Kept.refl (fun x => x = c) w).own (i := 0) (.int .i32 n)).own (i := 1) (.int .i32 f0)).own (i := 2) (.int .i32 f1)).own (i := 3) (.int .i32 f2)).own (i := 4) (.int .i32 f3)).own (i := 5) (.int .i32 o)).own (i := 6) (.int .i32 y)).own (i := 7) (.int .i32 0))

set_option maxHeartbeats 400000 in
theorem merge_a0 (a b c : Nat) (a0 a1 a2 a3 ao ay bn b0 b1 b2 b3 bo by_ cn e0 e1 e2 e3 co cy : Int) (w : World) (hA : Blk w a (sc 0 a0 a1 a2 a3 ao ay) 72) (hB : Blk w b (sc bn b0 b1 b2 b3 bo by_) 72) (hC : Blk w c (sc cn e0 e1 e2 e3 co cy) 72) :
    Calls Try.prog 41 #[.pointer (some ⟨c, 0, none⟩), .pointer (some ⟨a, 0, none⟩), .pointer (some ⟨b, 0, none⟩)] w fun e w' => e = .returned (.tuple #[]) ∧ Kept (fun x => x = c) w w' ∧ Blk w' c (sc bn b0 b1 b2 b3 bo by_) 72 := by
  obtain ⟨x0, x1, x2, x3, x4, x5, x6, x7⟩ := sc_cells hA
  obtain ⟨c0, c1, c2, c3, c4, c5, c6, c7⟩ := sc_cells hB
  obtain ⟨z0, z1, z2, z3, z4, z5, z6, z7⟩ := sc_cells hC
  have fz := hC.free
  have HC : Hid (Blk w c (sc cn e0 e1 e2 e3 co cy) 72) := hC
  clear hA hB hC
  go_enter Try.func41, Try.ntmps41
  go_wp2
  exact bodyPost_ret (results_none rfl _ _ _) rfl ⟨rfl, set8 HC.out _ _ _ _ _ _ _ rfl⟩

set_option maxHeartbeats 400000 in
theorem merge_b0 (a b c : Nat) (an a0 a1 a2 a3 ao ay b0 b1 b2 b3 bo by_ cn e0 e1 e2 e3 co cy : Int) (w : World) (hn : (an == 0) = false) (hA : Blk w a (sc an a0 a1 a2 a3 ao ay) 72) (hB : Blk w b (sc 0 b0 b1 b2 b3 bo by_) 72) (hC : Blk w c (sc cn e0 e1 e2 e3 co cy) 72) :
    Calls Try.prog 41 #[.pointer (some ⟨c, 0, none⟩), .pointer (some ⟨a, 0, none⟩), .pointer (some ⟨b, 0, none⟩)] w fun e w' => e = .returned (.tuple #[]) ∧ Kept (fun x => x = c) w w' ∧ Blk w' c (sc an a0 a1 a2 a3 ao ay) 72 := by
  obtain ⟨x0, x1, x2, x3, x4, x5, x6, x7⟩ := sc_cells hA
  obtain ⟨c0, c1, c2, c3, c4, c5, c6, c7⟩ := sc_cells hB
  obtain ⟨z0, z1, z2, z3, z4, z5, z6, z7⟩ := sc_cells hC
  have fz := hC.free
  have HC : Hid (Blk w c (sc cn e0 e1 e2 e3 co cy) 72) := hC
  clear hA hB hC
  go_enter Try.func41, Try.ntmps41
  go_wp2
  exact bodyPost_ret (results_none rfl _ _ _) rfl ⟨rfl, set8 HC.out _ _ _ _ _ _ _ rfl⟩
def imin (x y : Int) : Int := if y < x then y else x
def imax (x y : Int) : Int := if x < y then y else x
theorem imin_run (ts : Array TypeId) (t : TypeId) (k k' : IntKind) (x y : Int) (w : World) : (Builtin.min_ ts t #[.int k x, .int k' y]).run Try.prog w = .ok (.int k (imin x y)) w := by
  rw [run_min_int2]; rfl
theorem imax_run (ts : Array TypeId) (t : TypeId) (k k' : IntKind) (x y : Int) (w : World) : (Builtin.max_ ts t #[.int k x, .int k' y]).run Try.prog w = .ok (.int k (imax x y)) w := by
  rw [run_max_int2]; rfl
end Go.Proofs.Qxb6605516a
