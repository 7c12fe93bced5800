import Derived.Test.Qxb6605516aSumL
import Derived.Deep.CutBlock
import Derived.ChangeKeysEq
namespace Go.Proofs.Qxb6605516a
open Go.RowKit

theorem info21 : (Try.prog.info? 21).isSome = true := by kernel_rfl
theorem cells21 : Try.prog.cellsOf 21 = 1 := by kernel_rfl
/-- An array of four is equal to itself. -/
theorem eq4_run (x0 x1 x2 x3 : Int) (w : World) : (Op.equalIn 10000 68 (.agg #[.int .i32 x0, .int .i32 x1, .int .i32 x2, .int .i32 x3]) (.agg #[.int .i32 x0, .int .i32 x1, .int .i32 x2, .int .i32 x3])).run Try.prog w = .ok true w := by
  obtain ⟨i, hi⟩ := Option.isSome_iff_exists.1 info21
  rw [show (10000 : Nat) = 9999 + 1 from rfl, run_equalIn_array w 9999 _ _ Try.underlying68 hi, cells21]
  simp only [List.range_succ, List.range_zero, List.nil_append, List.cons_append, Op.eqItems]
  simp [go_sem, part]

theorem i4_cells {w : World} {b : Nat} {x0 x1 x2 x3 : Int} {T : TypeId} (h : Blk w b (ints .i32 [x0, x1, x2, x3]) T) :
    w.cell? ⟨b, 0, none⟩ = some (.int .i32 x0) ∧ w.cell? ⟨b, 1, none⟩ = some (.int .i32 x1) ∧ w.cell? ⟨b, 2, none⟩ = some (.int .i32 x2) ∧ w.cell? ⟨b, 3, none⟩ = some (.int .i32 x3) :=
  ⟨h.cell 0, h.cell 1, h.cell 2, h.cell 3⟩

/-- The three boxed arguments, and all that was there. -/
structure M7 (w wr : World) (fa fb fc : List Int) : Prop where
  a : Blk wr w.heap.size (ints .i32 fa) 68
  b : Blk wr (w.heap.size + 1) (ints .i32 fb) 68
  c : Blk wr (w.heap.size + 1 + 1) (ints .i32 fc) 69
  lt : w.heap.size + 3 ≤ wr.heap.size
  bl : Below w.heap.size w wr
theorem M7.start (w : World) (a0 a1 a2 a3 b0 b1 b2 b3 c0 c1 c2 c3 c4 c5 c6 : Int) : M7 w (((w.alloc (.cells (ints .i32 [a0, a1, a2, a3]) 68)).alloc (.cells (ints .i32 [b0, b1, b2, b3]) 68)).alloc (.cells (ints .i32 [c0, c1, c2, c3, c4, c5, c6]) 69)) [a0, a1, a2, a3] [b0, b1, b2, b3] [c0, c1, c2, c3, c4, c5, c6] := by
  refine ⟨((Blk.new _ _ _).alloc _).alloc _, ?_, ?_, by simp, (((Below.refl _ _).alloc (Nat.le_refl _) _).alloc (by simp) _).alloc (by simp; omega) _⟩
  · have h := (Blk.new (w.alloc (.cells (ints .i32 [a0, a1, a2, a3]) 68)) (ints .i32 [b0, b1, b2, b3]) 68).alloc (.cells (ints .i32 [c0, c1, c2, c3, c4, c5, c6]) 69)
    rw [World.size_alloc] at h; exact h
  · have h := Blk.new ((w.alloc (.cells (ints .i32 [a0, a1, a2, a3]) 68)).alloc (.cells (ints .i32 [b0, b1, b2, b3]) 68)) (ints .i32 [c0, c1, c2, c3, c4, c5, c6]) 69
    rw [World.size_alloc, World.size_alloc] at h; exact h
theorem M7.later {w wr wr' : World} {fa fb fc : List Int} (h : M7 w wr fa fb fc) (hb : Below wr.heap.size wr wr') : M7 w wr' fa fb fc :=
  ⟨h.a.below hb h.a.lt, h.b.below hb h.b.lt, h.c.below hb h.c.lt, Nat.le_trans h.lt hb.size, h.bl.trans (hb.mono (by have := h.lt; omega))⟩
theorem M7.kept {w wr wr' : World} {fa fb fc : List Int} {p : Nat} (h : M7 w wr fa fb fc) (hp : w.heap.size + 3 ≤ p) (hk : Kept (fun x => x = p) wr wr') : M7 w wr' fa fb fc :=
  ⟨h.a.kept hk (by omega), h.b.kept hk (by omega), h.c.kept hk (by omega), Nat.le_trans h.lt hk.size, h.bl.trans (hk.below (by have := h.lt; omega) (fun k h1 h2 => by omega))⟩

theorem M7.alloc {w wr : World} {fa fb fc : List Int} (h : M7 w wr fa fb fc) (o : Obj) : M7 w (wr.alloc o) fa fb fc :=
  h.later ((Below.refl _ _).alloc (Nat.le_refl _) o)
theorem make_lit (n f0 f1 f2 f3 o y : Int) (w : World) :
    Calls Try.prog 34 #[.int .i32 n, .agg #[.int .i32 f0, .int .i32 f1, .int .i32 f2, .int .i32 f3], .int .i32 o, .int .i32 y] w fun e w' => e = .returned (.agg #[.int .i32 n, .int .i32 f0, .int .i32 f1, .int .i32 f2, .int .i32 f3, .int .i32 o, .int .i32 y, .int .i32 0]) ∧ Below w.heap.size w w' :=
  make_any n f0 f1 f2 f3 o y w
/-- A sum in a block of the call's own. -/
structure At (w wr : World) (p : Nat) (s : Sm) : Prop where
  blk : Blk wr p s.cells 72
  new : w.heap.size + 3 ≤ p
theorem At.later {w wr wr' : World} {p : Nat} {s : Sm} (h : At w wr p s) (hb : Below wr.heap.size wr wr') : At w wr' p s := ⟨h.blk.below hb h.blk.lt, h.new⟩
theorem At.alloc {w wr : World} {p : Nat} {s : Sm} (h : At w wr p s) (o : Obj) : At w (wr.alloc o) p s := h.later ((Below.refl _ _).alloc (Nat.le_refl _) o)
theorem At.kept {w wr wr' : World} {p q : Nat} {s : Sm} (h : At w wr p s) (hk : Kept (fun x => x = q) wr wr') (hne : p ≠ q) : At w wr' p s := ⟨h.blk.kept hk hne, h.new⟩
theorem At.mk_new {w wr : World} (s : Sm) (h : w.heap.size + 3 ≤ wr.heap.size) : At w (wr.alloc (.cells s.cells 72)) wr.heap.size s := ⟨Blk.new _ _ _, h⟩

/-- The model of the sum of two groups, as the law calls it. -/
theorem plus2 (A B M : Sm) (hM : M = mergeS A B) (h0 : 0 ≤ A.n) (h1 : 0 ≤ B.n) (h2 : A.n + B.n ≤ 2147483647) (p1 : pfxB A.n A.fs = true) (p2 : pfxB B.n B.fs = true) (w : World) :
    Calls Try.prog 37 #[.agg #[.int .i32 A.n, .int .i32 A.f0, .int .i32 A.f1, .int .i32 A.f2, .int .i32 A.f3, .int .i32 A.o, .int .i32 A.y, .int .i32 B.n, .int .i32 B.f0, .int .i32 B.f1, .int .i32 B.f2, .int .i32 B.f3, .int .i32 B.o, .int .i32 B.y,
      .int .i32 0, .int .i32 0, .int .i32 0, .int .i32 0, .int .i32 0, .int .i32 0, .int .i32 0], .int .i64 2] w fun e w' => e = .returned (.agg #[.int .i32 M.n, .int .i32 M.f0, .int .i32 M.f1, .int .i32 M.f2, .int .i32 M.f3, .int .i32 M.o, .int .i32 M.y]) ∧ Below w.heap.size w w' := by
  have h := plus_any (fun i => match i with | 0 => A | 1 => B | _ => ⟨0, 0, 0, 0, 0, 0, 0⟩) 2 (by omega) (by omega) (fun i hi => by match i, hi with | 0, _ => exact h0 | 1, _ => exact h1) (by simp [sumN]; omega) w
  refine Calls.mono h ?_
  rintro e w' ⟨r, rfl, hr, hb⟩
  have e := law2 _ r hr (pfx_srt A p1) (pfx_srt B p2)
  simp only at e
  rw [e, ← hM]
  exact ⟨rfl, hb⟩

set_option maxRecDepth 4000 in
set_option maxHeartbeats 1000000 in
theorem mm_main (aN a0 a1 a2 a3 ao ay bN b0 b1 b2 b3 bo by_ c0 c1 c2 c3 c4 c5 c6 al : Int) (h1 : ¬ 2 < al) (h2 : ¬ aN < 0) (h3 : ¬ bN < 0) (h4 : ¬ 2147483647 < aN + bN) (p1 : pfxB aN [a0, a1, a2, a3] = true) (p2 : pfxB bN [b0, b1, b2, b3] = true) (w : World) :
    Calls Try.prog 7 #[.int .i32 aN, .agg #[.int .i32 a0, .int .i32 a1, .int .i32 a2, .int .i32 a3], .int .i32 ao, .int .i32 ay, .int .i32 bN, .agg #[.int .i32 b0, .int .i32 b1, .int .i32 b2, .int .i32 b3], .int .i32 bo, .int .i32 by_,
      .agg #[.int .i32 c0, .int .i32 c1, .int .i32 c2, .int .i32 c3, .int .i32 c4, .int .i32 c5, .int .i32 c6], .int .u8 al] w fun e w' => e = .returned (.bool true) ∧ Below w.heap.size w w' := by
  have d1 : decide (aN < 0) = false := by simp; omega
  have d2 : decide (bN < 0) = false := by simp; omega
  have m0 := M7.start w a0 a1 a2 a3 b0 b1 b2 b3 c0 c1 c2 c3 c4 c5 c6
  have M0 := hide m0
  clear m0
  go_enter Try.func7, Try.ntmps7
  go_wp2_with fail
  refine (prefix_any aN a0 a1 a2 a3 _).mono ?_
  rintro e w1 ⟨rfl, hb1⟩
  have M1 : Hid (M7 w w1 [a0, a1, a2, a3] [b0, b1, b2, b3] [c0, c1, c2, c3, c4, c5, c6]) := M0.out.later hb1
  obtain ⟨x0, x1, x2, x3⟩ := i4_cells M1.out.b
  clear M0 hb1
  go_upto_if 55 with fail
  refine (prefix_any bN b0 b1 b2 b3 _).mono ?_
  rintro e w2 ⟨rfl, hb2⟩
  have M2 := hide (M1.out.later hb2)
  clear M1 hb2 x0 x1 x2 x3
  go_upto_if 55 with fail
  go_cut [] (fun w' => M7 w w' [a0, a1, a2, a3] [b0, b1, b2, b3] [c0, c1, c2, c3, c4, c5, c6])
  case first =>
    go_wp2
    go_meet
    case rel => exact M2.out
  clear M2
  have M3 := hide hcut
  clear hcut
  go_step
  go_step
  go_cut [21] (fun p w' => ∃ pa, p = .pointer (some ⟨pa, 0, none⟩) ∧ M7 w w' [a0, a1, a2, a3] [b0, b1, b2, b3] [c0, c1, c2, c3, c4, c5, c6] ∧ At w w' pa ⟨aN, a0, a1, a2, a3, ao, ay⟩)
  case first =>
    obtain ⟨x0, x1, x2, x3⟩ := i4_cells M3.out.a
    go_wp2_with fail
    refine (make_lit _ _ _ _ _ _ _ _).mono ?_
    rintro e w4 ⟨rfl, hb4⟩
    have M4 := hide (M3.out.later hb4)
    clear hb4 M3 x0 x1 x2 x3
    go_wp2
    go_meet
    case rel => exact ⟨_, rfl, M4.out.alloc _, At.mk_new ⟨aN, a0, a1, a2, a3, ao, ay⟩ M4.out.lt⟩
  clear M3
  obtain ⟨pa, rfl, m4, aa⟩ := hcut
  have M4 := hide m4
  have AA := hide aa
  clear m4 aa
  go_step
  go_step
  go_cut [22] (fun p w' => ∃ pb, p = .pointer (some ⟨pb, 0, none⟩) ∧ M7 w w' [a0, a1, a2, a3] [b0, b1, b2, b3] [c0, c1, c2, c3, c4, c5, c6] ∧ At w w' pa ⟨aN, a0, a1, a2, a3, ao, ay⟩ ∧ At w w' pb ⟨bN, b0, b1, b2, b3, bo, by_⟩ ∧ pa ≠ pb)
  case first =>
    obtain ⟨x0, x1, x2, x3⟩ := i4_cells M4.out.b
    go_wp2_with fail
    refine (make_lit _ _ _ _ _ _ _ _).mono ?_
    rintro e w4 ⟨rfl, hb4⟩
    have M5 := hide (M4.out.later hb4)
    have AA5 := hide (AA.out.later hb4)
    clear hb4 M4 x0 x1 x2 x3
    go_wp2
    go_meet
    case rel => exact ⟨_, rfl, M5.out.alloc _, AA5.out.alloc _, At.mk_new ⟨bN, b0, b1, b2, b3, bo, by_⟩ M5.out.lt, by have := AA5.out.blk.lt; omega⟩
  clear M4 AA
  obtain ⟨pb, rfl, m5, aa, bb, hab⟩ := hcut
  have M5 := hide m5
  have AA := hide aa
  have BB := hide bb
  have Hab := hide hab
  clear m5 aa bb hab
  go_step
  go_step
  go_cut [23] (fun p w' => ∃ pc, p = .pointer (some ⟨pc, 0, none⟩) ∧ M7 w w' [a0, a1, a2, a3] [b0, b1, b2, b3] [c0, c1, c2, c3, c4, c5, c6] ∧ At w w' pa ⟨aN, a0, a1, a2, a3, ao, ay⟩ ∧ At w w' pb ⟨bN, b0, b1, b2, b3, bo, by_⟩ ∧ At w w' pc ⟨c0, c1, c2, c3, c4, c5, c6⟩ ∧ pa ≠ pc ∧ pb ≠ pc)
  case first =>
    obtain ⟨x0, x1, x2, x3, x4, x5, x6⟩ := l7_cells M5.out.c
    go_wp2_with fail
    refine (make_lit _ _ _ _ _ _ _ _).mono ?_
    rintro e w4 ⟨rfl, hb4⟩
    have M6 := hide (M5.out.later hb4)
    have AA6 := hide (AA.out.later hb4)
    have BB6 := hide (BB.out.later hb4)
    clear hb4 M5 x0 x1 x2 x3 x4 x5 x6
    go_wp2
    go_meet
    case rel => exact ⟨_, rfl, M6.out.alloc _, AA6.out.alloc _, BB6.out.alloc _, At.mk_new ⟨c0, c1, c2, c3, c4, c5, c6⟩ M6.out.lt, by have := AA6.out.blk.lt; omega, by have := BB6.out.blk.lt; omega⟩
  clear M5 AA BB
  obtain ⟨pc, rfl, m6, aa, bb, cc, hac, hbc⟩ := hcut
  have M6 := hide m6
  have AA := hide aa
  have BB := hide bb
  have CC := hide cc
  have Hac := hide hac
  have Hbc := hide hbc
  clear m6 aa bb cc hac hbc
  obtain ⟨M, hM⟩ : ∃ M, M = mergeS ⟨aN, a0, a1, a2, a3, ao, ay⟩ ⟨bN, b0, b1, b2, b3, bo, by_⟩ := ⟨_, rfl⟩
  have HM := hide hM
  clear hM
  go_upto_block 0 with fail
  go_cut [24] (fun p w' => ∃ q, p = .pointer (some ⟨q, 0, none⟩) ∧ M7 w w' [a0, a1, a2, a3] [b0, b1, b2, b3] [c0, c1, c2, c3, c4, c5, c6] ∧ At w w' q M)
  case first =>
    have hq0 : (0 : Int) ≤ aN := by omega
    have hq1 : (0 : Int) ≤ bN := by omega
    have hq2 : aN + bN ≤ 2147483647 := by omega
    go_wp2_with fail
    · refine (zzmerge_any pa pb pc _ _ _ _ hq0 hq1 hq2 AA.out.blk BB.out.blk CC.out.blk).mono ?_
      rintro e w4 ⟨rfl, hk, hb⟩
      have M7' := hide (M6.out.kept CC.out.new hk)
      have Hb := hide hb
      clear hk hb
      go_wp2
      go_meet
      case rel => exact ⟨_, rfl, M7'.out, ⟨by rw [HM.out]; exact Hb.out, CC.out.new⟩⟩
    · refine (zzmerge_any pa pb pa _ _ _ _ hq0 hq1 hq2 AA.out.blk BB.out.blk AA.out.blk).mono ?_
      rintro e w4 ⟨rfl, hk, hb⟩
      have M7' := hide (M6.out.kept AA.out.new hk)
      have Hb := hide hb
      clear hk hb
      go_wp2
      go_meet
      case rel => exact ⟨_, rfl, M7'.out, ⟨by rw [HM.out]; exact Hb.out, AA.out.new⟩⟩
    · refine (zzmerge_any pa pb pb _ _ _ _ hq0 hq1 hq2 AA.out.blk BB.out.blk BB.out.blk).mono ?_
      rintro e w4 ⟨rfl, hk, hb⟩
      have M7' := hide (M6.out.kept BB.out.new hk)
      have Hb := hide hb
      clear hk hb
      go_wp2
      go_meet
      case rel => exact ⟨_, rfl, M7'.out, ⟨by rw [HM.out]; exact Hb.out, BB.out.new⟩⟩
  clear M6 AA BB CC Hab Hac Hbc
  obtain ⟨q, rfl, m7, mm⟩ := hcut
  have M7' := hide m7
  have MM := hide mm
  clear m7 mm
  go_wp2_with fail
  refine (fields_any q M.n M.f0 M.f1 M.f2 M.f3 M.o M.y _ MM.out.blk).mono ?_
  rintro e w4 ⟨rfl, hb4⟩
  have M8 := hide (M7'.out.later hb4)
  clear hb4 M7' MM
  obtain ⟨x0, x1, x2, x3⟩ := i4_cells M8.out.a
  obtain ⟨y0, y1, y2, y3⟩ := i4_cells M8.out.b
  have lt := M8.out.lt
  have lt1 : w.heap.size < w4.heap.size := by omega
  have lt2 : w.heap.size + 1 < w4.heap.size := by omega
  have hq0 : (0 : Int) ≤ aN := by omega
  have hq1 : (0 : Int) ≤ bN := by omega
  have hq2 : aN + bN ≤ 2147483647 := by omega
  have F4 : Hid (Blk (w4.alloc (.cells (ints .i32 [M.f0, M.f1, M.f2, M.f3]) 68)) w4.heap.size (ints .i32 [M.f0, M.f1, M.f2, M.f3]) 68) := Blk.new _ _ _
  go_wp2_with fail
  refine (plus2 ⟨aN, a0, a1, a2, a3, ao, ay⟩ ⟨bN, b0, b1, b2, b3, bo, by_⟩ M HM.out hq0 hq1 hq2 p1 p2 _).mono ?_
  rintro e w5 ⟨rfl, hb5⟩
  have F5 := F4.out.below hb5 (by simp)
  obtain ⟨z0, z1, z2, z3⟩ := i4_cells F5
  have B5 : Hid (Below w.heap.size w w5) := (M8.out.alloc _).later hb5 |>.bl
  have lt3 : w.heap.size < w5.heap.size := by have := F5.lt; omega
  have lt4 : w4.heap.size < w5.heap.size := F5.lt
  clear F4 F5 hb5 x0 x1 x2 x3 y0 y1 y2 y3 lt lt1 lt2 M8
  have heq := eq4_run M.f0 M.f1 M.f2 M.f3
  go_wp2
  go_ret
  exact ⟨rfl, B5.out.alloc (by omega) _⟩
end Go.Proofs.Qxb6605516a
