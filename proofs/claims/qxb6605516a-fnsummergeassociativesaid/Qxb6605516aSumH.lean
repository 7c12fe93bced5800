import Derived.Test.Qxb6605516aSumF
namespace Go.Proofs.Qxb6605516a
open Go.RowKit

/-- The three boxed arguments, and all that was there. -/
structure M8 (w wr : World) (fa fb fc : List Int) : Prop where
  a : Blk wr w.heap.size (ints .i32 fa) 68
  b : Blk wr (w.heap.size + 1) (ints .i32 fb) 68
  c : Blk wr (w.heap.size + 1 + 1) (ints .i32 fc) 68
  lt : w.heap.size + 3 ≤ wr.heap.size
  bl : Below w.heap.size w wr
theorem M8.start (w : World) (a0 a1 a2 a3 b0 b1 b2 b3 c0 c1 c2 c3 : Int) : M8 w (((w.alloc (.cells (ints .i32 [a0, a1, a2, a3]) 68)).alloc (.cells (ints .i32 [b0, b1, b2, b3]) 68)).alloc (.cells (ints .i32 [c0, c1, c2, c3]) 68)) [a0, a1, a2, a3] [b0, b1, b2, b3] [c0, c1, c2, c3] := by
  refine ⟨((Blk.new _ _ _).alloc _).alloc _, ?_, ?_, by simp, (((Below.refl _ _).alloc (Nat.le_refl _) _).alloc (by simp) _).alloc (by simp; omega) _⟩
  · have h := (Blk.new (w.alloc (.cells (ints .i32 [a0, a1, a2, a3]) 68)) (ints .i32 [b0, b1, b2, b3]) 68).alloc (.cells (ints .i32 [c0, c1, c2, c3]) 68)
    rw [World.size_alloc] at h; exact h
  · have h := Blk.new ((w.alloc (.cells (ints .i32 [a0, a1, a2, a3]) 68)).alloc (.cells (ints .i32 [b0, b1, b2, b3]) 68)) (ints .i32 [c0, c1, c2, c3]) 68
    rw [World.size_alloc, World.size_alloc] at h; exact h
theorem M8.later {w wr wr' : World} {fa fb fc : List Int} (h : M8 w wr fa fb fc) (hb : Below wr.heap.size wr wr') : M8 w wr' fa fb fc :=
  ⟨h.a.below hb h.a.lt, h.b.below hb h.b.lt, h.c.below hb h.c.lt, Nat.le_trans h.lt hb.size, h.bl.trans (hb.mono (by have := h.lt; omega))⟩
theorem M8.kept {w wr wr' : World} {fa fb fc : List Int} {p : Nat} (h : M8 w wr fa fb fc) (hp : w.heap.size + 3 ≤ p) (hk : Kept (fun x => x = p) wr wr') : M8 w wr' fa fb fc :=
  ⟨h.a.kept hk (by omega), h.b.kept hk (by omega), h.c.kept hk (by omega), Nat.le_trans h.lt hk.size, h.bl.trans (hk.below (by have := h.lt; omega) (fun k h1 h2 => by omega))⟩
theorem M8.alloc {w wr : World} {fa fb fc : List Int} (h : M8 w wr fa fb fc) (o : Obj) : M8 w (wr.alloc o) fa fb fc :=
  h.later ((Below.refl _ _).alloc (Nat.le_refl _) o)

/-- The seven sums of the law, each in a block of its own. -/
structure S8 (w wr : World) (fa fb fc : List Int) (pa pb pc p1 p2 p3 p4 : Nat) (A B C X1 X2 X3 X4 : Sm) : Prop where
  m : M8 w wr fa fb fc
  a : At w wr pa A
  b : At w wr pb B
  c : At w wr pc C
  x1 : At w wr p1 X1
  x2 : At w wr p2 X2
  x3 : At w wr p3 X3
  x4 : At w wr p4 X4
  o1 : pa < pb
  o2 : pb < pc
  o3 : pc < p1
  o4 : p1 < p2
  o5 : p2 < p3
  o6 : p3 < p4
section
variable {w wr wr' : World} {fa fb fc : List Int} {pa pb pc p1 p2 p3 p4 : Nat} {A B C X1 X2 X3 X4 : Sm}
theorem S8.set1 (h : S8 w wr fa fb fc pa pb pc p1 p2 p3 p4 A B C X1 X2 X3 X4) (hk : Kept (fun x => x = p1) wr wr') {X : Sm} (hb : Blk wr' p1 X.cells 72) : S8 w wr' fa fb fc pa pb pc p1 p2 p3 p4 A B C X X2 X3 X4 := by
  obtain ⟨m, a, b, c, x1, x2, x3, x4, o1, o2, o3, o4, o5, o6⟩ := h
  exact ⟨m.kept x1.new hk, a.kept hk (by omega), b.kept hk (by omega), c.kept hk (by omega), ⟨hb, x1.new⟩, x2.kept hk (by omega), x3.kept hk (by omega), x4.kept hk (by omega), o1, o2, o3, o4, o5, o6⟩
theorem S8.set2 (h : S8 w wr fa fb fc pa pb pc p1 p2 p3 p4 A B C X1 X2 X3 X4) (hk : Kept (fun x => x = p2) wr wr') {X : Sm} (hb : Blk wr' p2 X.cells 72) : S8 w wr' fa fb fc pa pb pc p1 p2 p3 p4 A B C X1 X X3 X4 := by
  obtain ⟨m, a, b, c, x1, x2, x3, x4, o1, o2, o3, o4, o5, o6⟩ := h
  exact ⟨m.kept x2.new hk, a.kept hk (by omega), b.kept hk (by omega), c.kept hk (by omega), x1.kept hk (by omega), ⟨hb, x2.new⟩, x3.kept hk (by omega), x4.kept hk (by omega), o1, o2, o3, o4, o5, o6⟩
theorem S8.set3 (h : S8 w wr fa fb fc pa pb pc p1 p2 p3 p4 A B C X1 X2 X3 X4) (hk : Kept (fun x => x = p3) wr wr') {X : Sm} (hb : Blk wr' p3 X.cells 72) : S8 w wr' fa fb fc pa pb pc p1 p2 p3 p4 A B C X1 X2 X X4 := by
  obtain ⟨m, a, b, c, x1, x2, x3, x4, o1, o2, o3, o4, o5, o6⟩ := h
  exact ⟨m.kept x3.new hk, a.kept hk (by omega), b.kept hk (by omega), c.kept hk (by omega), x1.kept hk (by omega), x2.kept hk (by omega), ⟨hb, x3.new⟩, x4.kept hk (by omega), o1, o2, o3, o4, o5, o6⟩
theorem S8.set4 (h : S8 w wr fa fb fc pa pb pc p1 p2 p3 p4 A B C X1 X2 X3 X4) (hk : Kept (fun x => x = p4) wr wr') {X : Sm} (hb : Blk wr' p4 X.cells 72) : S8 w wr' fa fb fc pa pb pc p1 p2 p3 p4 A B C X1 X2 X3 X := by
  obtain ⟨m, a, b, c, x1, x2, x3, x4, o1, o2, o3, o4, o5, o6⟩ := h
  exact ⟨m.kept x4.new hk, a.kept hk (by omega), b.kept hk (by omega), c.kept hk (by omega), x1.kept hk (by omega), x2.kept hk (by omega), x3.kept hk (by omega), ⟨hb, x4.new⟩, o1, o2, o3, o4, o5, o6⟩
/-- Four new sums, each empty. -/
theorem S8.start (m : M8 w wr fa fb fc) (a : At w wr pa A) (b : At w wr pb B) (c : At w wr pc C) (o1 : pa < pb) (o2 : pb < pc) :
    S8 w ((((wr.alloc (.cells (sc 0 0 0 0 0 0 0) 72)).alloc (.cells (sc 0 0 0 0 0 0 0) 72)).alloc (.cells (sc 0 0 0 0 0 0 0) 72)).alloc (.cells (sc 0 0 0 0 0 0 0) 72)) fa fb fc pa pb pc wr.heap.size (wr.heap.size + 1) (wr.heap.size + 1 + 1) (wr.heap.size + 1 + 1 + 1) A B C ⟨0, 0, 0, 0, 0, 0, 0⟩ ⟨0, 0, 0, 0, 0, 0, 0⟩ ⟨0, 0, 0, 0, 0, 0, 0⟩ ⟨0, 0, 0, 0, 0, 0, 0⟩ := by
  have lt := m.lt
  have lc := c.blk.lt
  refine ⟨(((m.alloc _).alloc _).alloc _).alloc _, (((a.alloc _).alloc _).alloc _).alloc _, (((b.alloc _).alloc _).alloc _).alloc _, (((c.alloc _).alloc _).alloc _).alloc _, ?_, ?_, ?_, ?_, o1, o2, lc, by omega, by omega, by omega⟩
  · exact ⟨(((Blk.new wr (sc 0 0 0 0 0 0 0) 72).alloc _).alloc _).alloc _, by omega⟩
  · have h := ((Blk.new (wr.alloc (.cells (sc 0 0 0 0 0 0 0) 72)) (sc 0 0 0 0 0 0 0) 72).alloc (.cells (sc 0 0 0 0 0 0 0) 72)).alloc (.cells (sc 0 0 0 0 0 0 0) 72)
    rw [World.size_alloc] at h
    exact ⟨h, by omega⟩
  · have h := (Blk.new ((wr.alloc (.cells (sc 0 0 0 0 0 0 0) 72)).alloc (.cells (sc 0 0 0 0 0 0 0) 72)) (sc 0 0 0 0 0 0 0) 72).alloc (.cells (sc 0 0 0 0 0 0 0) 72)
    rw [World.size_alloc, World.size_alloc] at h
    exact ⟨h, by omega⟩
  · have h := Blk.new (((wr.alloc (.cells (sc 0 0 0 0 0 0 0) 72)).alloc (.cells (sc 0 0 0 0 0 0 0) 72)).alloc (.cells (sc 0 0 0 0 0 0 0) 72)) (sc 0 0 0 0 0 0 0) 72
    rw [World.size_alloc, World.size_alloc, World.size_alloc] at h
    exact ⟨h, by omega⟩
end

/-- The model of the sum of three groups, as the law calls it. -/
theorem plus3 (A B C M : Sm) (hM : M = mergeS (mergeS A B) C) (h0 : 0 ≤ A.n) (h1 : 0 ≤ B.n) (hc : 0 ≤ C.n) (h2 : A.n + B.n + C.n ≤ 2147483647) (p1 : pfxB A.n A.fs = true) (p2 : pfxB B.n B.fs = true) (p3 : pfxB C.n C.fs = true) (w : World) :
    Calls Try.prog 37 #[.agg #[.int .i32 A.n, .int .i32 A.f0, .int .i32 A.f1, .int .i32 A.f2, .int .i32 A.f3, .int .i32 A.o, .int .i32 A.y, .int .i32 B.n, .int .i32 B.f0, .int .i32 B.f1, .int .i32 B.f2, .int .i32 B.f3, .int .i32 B.o, .int .i32 B.y,
      .int .i32 C.n, .int .i32 C.f0, .int .i32 C.f1, .int .i32 C.f2, .int .i32 C.f3, .int .i32 C.o, .int .i32 C.y], .int .i64 3] w fun e w' => e = .returned (.agg #[.int .i32 M.n, .int .i32 M.f0, .int .i32 M.f1, .int .i32 M.f2, .int .i32 M.f3, .int .i32 M.o, .int .i32 M.y]) ∧ Below w.heap.size w w' := by
  have h := plus_any (fun i => match i with | 0 => A | 1 => B | _ => C) 3 (by omega) (by omega) (fun i hi => by match i, hi with | 0, _ => exact h0 | 1, _ => exact h1 | 2, _ => exact hc) (by simp [sumN]; omega) w
  refine Calls.mono h ?_
  rintro e w' ⟨r, rfl, hr, hb⟩
  have e := law3 _ r hr h0 h1 hc (pfx_srt A p1) (pfx_srt B p2) (pfx_srt C p3)
  simp only at e
  rw [e, ← hM]
  exact ⟨rfl, hb⟩

set_option maxRecDepth 4000 in
set_option maxHeartbeats 2000000 in
theorem as_main (aN a0 a1 a2 a3 ao ay bN b0 b1 b2 b3 bo by_ cN c0 c1 c2 c3 co cy : Int) (h1 : ¬ aN < 0) (h2 : ¬ bN < 0) (h3 : ¬ cN < 0) (h4 : ¬ 2147483647 < aN + bN + cN) (p1 : pfxB aN [a0, a1, a2, a3] = true) (p2 : pfxB bN [b0, b1, b2, b3] = true) (p3 : pfxB cN [c0, c1, c2, c3] = true) (w : World) :
    Calls Try.prog 8 #[.int .i32 aN, .agg #[.int .i32 a0, .int .i32 a1, .int .i32 a2, .int .i32 a3], .int .i32 ao, .int .i32 ay, .int .i32 bN, .agg #[.int .i32 b0, .int .i32 b1, .int .i32 b2, .int .i32 b3], .int .i32 bo, .int .i32 by_, .int .i32 cN, .agg #[.int .i32 c0, .int .i32 c1, .int .i32 c2, .int .i32 c3], .int .i32 co, .int .i32 cy] w fun e w' => e = .returned (.bool true) ∧ Below w.heap.size w w' := by
  have d1 : decide (aN < 0) = false := by simp; omega
  have d2 : decide (bN < 0) = false := by simp; omega
  have d3 : decide (cN < 0) = false := by simp; omega
  have m0 := M8.start w a0 a1 a2 a3 b0 b1 b2 b3 c0 c1 c2 c3
  have M0 := hide m0
  clear m0
  go_enter Try.func8, Try.ntmps8
  go_wp2_with fail
  refine (prefix_any aN a0 a1 a2 a3 _).mono ?_
  rintro e w1 ⟨rfl, hb1⟩
  have M1 : Hid (M8 w w1 [a0, a1, a2, a3] [b0, b1, b2, b3] [c0, c1, c2, c3]) := M0.out.later hb1
  obtain ⟨x0, x1, x2, x3⟩ := i4_cells M1.out.b
  clear M0 hb1
  go_upto_if 77 with fail
  refine (prefix_any bN b0 b1 b2 b3 _).mono ?_
  rintro e w2 ⟨rfl, hb2⟩
  have M2 := hide (M1.out.later hb2)
  clear M1 hb2 x0 x1 x2 x3
  obtain ⟨x0, x1, x2, x3⟩ := i4_cells M2.out.c
  go_upto_if 77 with fail
  refine (prefix_any cN c0 c1 c2 c3 _).mono ?_
  rintro e w3 ⟨rfl, hb3⟩
  have M3 := hide (M2.out.later hb3)
  clear M2 hb3 x0 x1 x2 x3
  go_upto_if 77 with fail
  go_cut [] (fun w' => M8 w w' [a0, a1, a2, a3] [b0, b1, b2, b3] [c0, c1, c2, c3])
  case first =>
    go_wp2
    go_meet
    case rel => exact M3.out
  clear M3
  have M3 := hide hcut
  clear hcut
  go_step
  go_step
  go_cut [25] (fun p w' => ∃ pa, p = .pointer (some ⟨pa, 0, none⟩) ∧ M8 w w' [a0, a1, a2, a3] [b0, b1, b2, b3] [c0, c1, c2, c3] ∧ At w w' pa ⟨aN, a0, a1, a2, a3, ao, ay⟩)
  case first =>
    obtain ⟨x0, x1, x2, x3⟩ := i4_cells M3.out.a
    go_wp2_with fail
    refine (make_lit _ _ _ _ _ _ _ _).mono ?_
    rintro e w4 ⟨rfl, hb4⟩
    have M4 := hide (M3.out.later hb4)
    clear hb4 M3 x0 x1 x2 x3
    go_wp2
    go_meet
    case rel => exact ⟨_, rfl, M4.out.alloc _, At.mk_new ⟨aN, a0, a1, a2, a3, ao, ay⟩ M4.out.lt⟩
  clear M3
  obtain ⟨pa, rfl, m4, aa⟩ := hcut
  have M4 := hide m4
  have AA := hide aa
  clear m4 aa
  go_step
  go_step
  go_cut [26] (fun p w' => ∃ pb, p = .pointer (some ⟨pb, 0, none⟩) ∧ M8 w w' [a0, a1, a2, a3] [b0, b1, b2, b3] [c0, c1, c2, c3] ∧ At w w' pa ⟨aN, a0, a1, a2, a3, ao, ay⟩ ∧ At w w' pb ⟨bN, b0, b1, b2, b3, bo, by_⟩ ∧ pa < pb)
  case first =>
    obtain ⟨x0, x1, x2, x3⟩ := i4_cells M4.out.b
    go_wp2_with fail
    refine (make_lit _ _ _ _ _ _ _ _).mono ?_
    rintro e w4 ⟨rfl, hb4⟩
    have M5 := hide (M4.out.later hb4)
    have AA5 := hide (AA.out.later hb4)
    clear hb4 M4 x0 x1 x2 x3
    go_wp2
    go_meet
    case rel => exact ⟨_, rfl, M5.out.alloc _, AA5.out.alloc _, At.mk_new ⟨bN, b0, b1, b2, b3, bo, by_⟩ M5.out.lt, AA5.out.blk.lt⟩
  clear M4 AA
  obtain ⟨pb, rfl, m5, aa, bb, hab⟩ := hcut
  have M5 := hide m5
  have AA := hide aa
  have BB := hide bb
  have Hab := hide hab
  clear m5 aa bb hab
  go_step
  go_step
  go_cut [27] (fun p w' => ∃ pc, p = .pointer (some ⟨pc, 0, none⟩) ∧ M8 w w' [a0, a1, a2, a3] [b0, b1, b2, b3] [c0, c1, c2, c3] ∧ At w w' pa ⟨aN, a0, a1, a2, a3, ao, ay⟩ ∧ At w w' pb ⟨bN, b0, b1, b2, b3, bo, by_⟩ ∧ At w w' pc ⟨cN, c0, c1, c2, c3, co, cy⟩ ∧ pb < pc)
  case first =>
    obtain ⟨x0, x1, x2, x3⟩ := i4_cells M5.out.c
    go_wp2_with fail
    refine (make_lit _ _ _ _ _ _ _ _).mono ?_
    rintro e w4 ⟨rfl, hb4⟩
    have M6 := hide (M5.out.later hb4)
    have AA6 := hide (AA.out.later hb4)
    have BB6 := hide (BB.out.later hb4)
    clear hb4 M5 x0 x1 x2 x3
    go_wp2
    go_meet
    case rel => exact ⟨_, rfl, M6.out.alloc _, AA6.out.alloc _, BB6.out.alloc _, At.mk_new ⟨cN, c0, c1, c2, c3, co, cy⟩ M6.out.lt, BB6.out.blk.lt⟩
  clear M5 AA BB
  obtain ⟨pc, rfl, m6, aa, bb, cc, hbc⟩ := hcut
  have S0 := hide (S8.start m6 aa bb cc Hab.out hbc)
  clear m6 aa bb cc hbc Hab
  have hq1 : (0 : Int) ≤ aN := by omega
  have hq2 : (0 : Int) ≤ bN := by omega
  have hq3 : (0 : Int) ≤ cN := by omega
  have hq4 : aN + bN + cN ≤ 2147483647 := by omega
  have n1 := merge_n ⟨aN, a0, a1, a2, a3, ao, ay⟩ ⟨bN, b0, b1, b2, b3, bo, by_⟩
  have n2 := merge_n ⟨bN, b0, b1, b2, b3, bo, by_⟩ ⟨cN, c0, c1, c2, c3, co, cy⟩
  have e3 := merge_assoc ⟨aN, a0, a1, a2, a3, ao, ay⟩ ⟨bN, b0, b1, b2, b3, bo, by_⟩ ⟨cN, c0, c1, c2, c3, co, cy⟩ hq1 hq2 hq3 (pfx_srt ⟨aN, a0, a1, a2, a3, ao, ay⟩ p1) (pfx_srt ⟨bN, b0, b1, b2, b3, bo, by_⟩ p2) (pfx_srt ⟨cN, c0, c1, c2, c3, co, cy⟩ p3)
  simp only at n1 n2
  obtain ⟨X1, hX1⟩ : ∃ X, X = mergeS ⟨aN, a0, a1, a2, a3, ao, ay⟩ ⟨bN, b0, b1, b2, b3, bo, by_⟩ := ⟨_, rfl⟩
  obtain ⟨X3, hX3⟩ : ∃ X, X = mergeS ⟨bN, b0, b1, b2, b3, bo, by_⟩ ⟨cN, c0, c1, c2, c3, co, cy⟩ := ⟨_, rfl⟩
  rw [← hX1] at n1 e3
  rw [← hX3] at n2 e3
  obtain ⟨M, hM⟩ : ∃ X, X = mergeS X1 ⟨cN, c0, c1, c2, c3, co, cy⟩ := ⟨_, rfl⟩
  rw [← hM] at e3
  have k1 : 0 ≤ X1.n := by omega
  have k2 : 0 ≤ X3.n := by omega
  have k3 : X1.n + cN ≤ 2147483647 := by omega
  have k4 : aN + X3.n ≤ 2147483647 := by omega
  have k5 : aN + bN ≤ 2147483647 := by omega
  have k6 : bN + cN ≤ 2147483647 := by omega
  have HX1 := hide hX1
  have HX3 := hide hX3
  have HM := hide hM
  have He3 := hide e3
  clear hX1 hX3 hM e3 n1 n2
  go_wp2_with fail
  refine (zzmerge_any pa pb _ _ _ _ _ hq1 hq2 k5 S0.out.a.blk S0.out.b.blk S0.out.x1.blk).mono ?_
  rintro e w4 ⟨rfl, hk, hb⟩
  rw [← HX1.out] at hb
  have S1 := hide (S0.out.set1 hk hb)
  clear S0 hk hb
  go_wp2_with fail
  refine (zzmerge_any _ pc _ _ _ _ _ k1 hq3 k3 S1.out.x1.blk S1.out.c.blk S1.out.x2.blk).mono ?_
  rintro e w5 ⟨rfl, hk, hb⟩
  rw [← HM.out] at hb
  have S2 := hide (S1.out.set2 hk hb)
  clear S1 hk hb
  go_wp2_with fail
  refine (zzmerge_any pb pc _ _ _ _ _ hq2 hq3 k6 S2.out.b.blk S2.out.c.blk S2.out.x3.blk).mono ?_
  rintro e w6 ⟨rfl, hk, hb⟩
  rw [← HX3.out] at hb
  have S3 := hide (S2.out.set3 hk hb)
  clear S2 hk hb
  go_wp2_with fail
  refine (zzmerge_any pa _ _ _ _ _ _ hq1 k2 k4 S3.out.a.blk S3.out.x3.blk S3.out.x4.blk).mono ?_
  rintro e w7 ⟨rfl, hk, hb⟩
  rw [← He3.out] at hb
  have S4 := hide (S3.out.set4 hk hb)
  clear S3 hk hb
  go_wp2_with fail
  refine (fields_any _ M.n M.f0 M.f1 M.f2 M.f3 M.o M.y _ S4.out.x2.blk).mono ?_
  rintro e w8 ⟨rfl, hb8⟩
  have F1 := hide ((S4.out.m.later hb8).alloc (.cells (ints .i32 [M.f0, M.f1, M.f2, M.f3]) 68))
  have F2 := hide ((S4.out.x4.later hb8).alloc (.cells (ints .i32 [M.f0, M.f1, M.f2, M.f3]) 68))
  have F3 : Hid (Blk (w8.alloc (.cells (ints .i32 [M.f0, M.f1, M.f2, M.f3]) 68)) w8.heap.size (ints .i32 [M.f0, M.f1, M.f2, M.f3]) 68) := Blk.new _ _ _
  clear S4 hb8
  go_wp2_with fail
  refine (fields_any _ M.n M.f0 M.f1 M.f2 M.f3 M.o M.y _ F2.out.blk).mono ?_
  rintro e w9 ⟨rfl, hb9⟩
  have G1 := hide ((F1.out.later hb9).alloc (.cells (ints .i32 [M.f0, M.f1, M.f2, M.f3]) 68))
  have G2 := hide ((F3.out.below hb9 (by simp)).alloc (.cells (ints .i32 [M.f0, M.f1, M.f2, M.f3]) 68))
  have G3 : Hid (Blk (w9.alloc (.cells (ints .i32 [M.f0, M.f1, M.f2, M.f3]) 68)) w9.heap.size (ints .i32 [M.f0, M.f1, M.f2, M.f3]) 68) := Blk.new _ _ _
  have G0 := hide (F1.out.later hb9)
  clear F1 F2 F3 hb9
  obtain ⟨x0, x1, x2, x3⟩ := i4_cells G0.out.a
  obtain ⟨y0, y1, y2, y3⟩ := i4_cells G0.out.b
  obtain ⟨z0, z1, z2, z3⟩ := i4_cells G0.out.c
  have lt := G0.out.lt
  have lt1 : w.heap.size < w9.heap.size := by omega
  have lt2 : w.heap.size + 1 < w9.heap.size := by omega
  have lt3 : w.heap.size + 1 + 1 < w9.heap.size := by omega
  go_wp2_with fail
  refine (plus3 ⟨aN, a0, a1, a2, a3, ao, ay⟩ ⟨bN, b0, b1, b2, b3, bo, by_⟩ ⟨cN, c0, c1, c2, c3, co, cy⟩ M (by rw [HM.out, HX1.out]) hq1 hq2 hq3 hq4 p1 p2 p3 _).mono ?_
  rintro e w10 ⟨rfl, hb10⟩
  have B5 := hide (G1.out.later hb10)
  have U1 := G2.out.below hb10 (by have := G2.out.lt; simpa using this)
  have U2 := G3.out.below hb10 (by simp)
  obtain ⟨u0, u1, u2, u3⟩ := i4_cells U1
  obtain ⟨v0, v1, v2, v3⟩ := i4_cells U2
  have l1 := U1.lt
  have l2 := U2.lt
  clear G0 G1 G2 G3 U1 U2 hb10 x0 x1 x2 x3 y0 y1 y2 y3 z0 z1 z2 z3 lt lt1 lt2 lt3
  have heq := eq4_run M.f0 M.f1 M.f2 M.f3
  go_wp2
  go_ret
  exact ⟨rfl, B5.out.bl.alloc (by have := B5.out.lt; omega) _⟩
end Go.Proofs.Qxb6605516a
