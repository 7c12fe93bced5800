import Derived.Test.Qxb6605516aSumH
namespace Go.Proofs.Qxb6605516a
open Go.RowKit

set_option maxRecDepth 4000 in
set_option maxHeartbeats 2000000 in
/-- zzlaws.FnSumMergeAssociative: whatever the numbers. -/
theorem as_any (aN a0 a1 a2 a3 ao ay bN b0 b1 b2 b3 bo by_ cN c0 c1 c2 c3 co cy : Int) (ua : -2147483648 ≤ aN) (va : aN ≤ 2147483647) (ub : -2147483648 ≤ bN) (vb : bN ≤ 2147483647) (uc : -2147483648 ≤ cN) (vc : cN ≤ 2147483647) (w : World) :
    Calls Try.prog 8 #[.int .i32 aN, .agg #[.int .i32 a0, .int .i32 a1, .int .i32 a2, .int .i32 a3], .int .i32 ao, .int .i32 ay, .int .i32 bN, .agg #[.int .i32 b0, .int .i32 b1, .int .i32 b2, .int .i32 b3], .int .i32 bo, .int .i32 by_, .int .i32 cN, .agg #[.int .i32 c0, .int .i32 c1, .int .i32 c2, .int .i32 c3], .int .i32 co, .int .i32 cy] w fun e w' => e = .returned (.bool true) ∧ Below w.heap.size w w' := by
  have hB3 : ∀ o1 o2 o3 : Obj, Hid (Below w.heap.size w (((w.alloc o1).alloc o2).alloc o3)) := fun o1 o2 o3 => (((Below.refl _ _).alloc (Nat.le_refl _) _).alloc (by simp) _).alloc (by simp; omega) _
  by_cases h1 : aN < 0
  · have d1 : decide (aN < 0) = true := by simp; omega
    go_enter Try.func8, Try.ntmps8
    go_wp2_with fail
    go_ret
    exact ⟨rfl, (hB3 _ _ _).out⟩
  have d1 : decide (aN < 0) = false := by simp; omega
  by_cases h2 : bN < 0
  · have d2 : decide (bN < 0) = true := by simp; omega
    go_enter Try.func8, Try.ntmps8
    go_wp2_with fail
    go_ret
    exact ⟨rfl, (hB3 _ _ _).out⟩
  have d2 : decide (bN < 0) = false := by simp; omega
  by_cases h3 : cN < 0
  · have d3 : decide (cN < 0) = true := by simp; omega
    go_enter Try.func8, Try.ntmps8
    go_wp2_with fail
    go_ret
    exact ⟨rfl, (hB3 _ _ _).out⟩
  have d3 : decide (cN < 0) = false := by simp; omega
  by_cases h4 : 2147483647 < aN + bN + cN
  · go_enter Try.func8, Try.ntmps8
    go_wp2_with fail
    go_ret
    exact ⟨rfl, (hB3 _ _ _).out⟩
  by_cases p1 : pfxB aN [a0, a1, a2, a3] = true
  · by_cases p2 : pfxB bN [b0, b1, b2, b3] = true
    · by_cases p3 : pfxB cN [c0, c1, c2, c3] = true
      · exact as_main aN a0 a1 a2 a3 ao ay bN b0 b1 b2 b3 bo by_ cN c0 c1 c2 c3 co cy h1 h2 h3 h4 p1 p2 p3 w
      · have p3' : pfxB cN [c0, c1, c2, c3] = false := by simpa using p3
        clear p3
        have m0 := hide (M8.start w a0 a1 a2 a3 b0 b1 b2 b3 c0 c1 c2 c3)
        go_enter Try.func8, Try.ntmps8
        go_wp2_with fail
        refine (prefix_any aN a0 a1 a2 a3 _).mono ?_
        rintro e w1 ⟨rfl, hb1⟩
        have M1 : Hid (M8 w w1 [a0, a1, a2, a3] [b0, b1, b2, b3] [c0, c1, c2, c3]) := m0.out.later hb1
        obtain ⟨x0, x1, x2, x3⟩ := i4_cells M1.out.b
        clear hb1 m0
        go_wp2_with fail
        refine (prefix_any bN b0 b1 b2 b3 _).mono ?_
        rintro e w2 ⟨rfl, hb2⟩
        have M2 := hide (M1.out.later hb2)
        obtain ⟨y0, y1, y2, y3⟩ := i4_cells M2.out.c
        clear hb2
        go_wp2_with fail
        refine (prefix_any cN c0 c1 c2 c3 _).mono ?_
        rintro e w3 ⟨rfl, hb3⟩
        have M3 := hide (M2.out.later hb3)
        clear hb3
        go_wp2
        go_ret
        exact ⟨rfl, M3.out.bl⟩
    · have p2' : pfxB bN [b0, b1, b2, b3] = false := by simpa using p2
      clear p2
      have m0 := hide (M8.start w a0 a1 a2 a3 b0 b1 b2 b3 c0 c1 c2 c3)
      go_enter Try.func8, Try.ntmps8
      go_wp2_with fail
      refine (prefix_any aN a0 a1 a2 a3 _).mono ?_
      rintro e w1 ⟨rfl, hb1⟩
      have M1 : Hid (M8 w w1 [a0, a1, a2, a3] [b0, b1, b2, b3] [c0, c1, c2, c3]) := m0.out.later hb1
      obtain ⟨x0, x1, x2, x3⟩ := i4_cells M1.out.b
      clear hb1 m0
      go_wp2_with fail
      refine (prefix_any bN b0 b1 b2 b3 _).mono ?_
      rintro e w2 ⟨rfl, hb2⟩
      have M2 := hide (M1.out.later hb2)
      clear hb2
      go_wp2
      go_ret
      exact ⟨rfl, M2.out.bl⟩
  · have p1' : pfxB aN [a0, a1, a2, a3] = false := by simpa using p1
    clear p1
    have m0 := hide (M8.start w a0 a1 a2 a3 b0 b1 b2 b3 c0 c1 c2 c3)
    go_enter Try.func8, Try.ntmps8
    go_wp2_with fail
    refine (prefix_any aN a0 a1 a2 a3 _).mono ?_
    rintro e w1 ⟨rfl, hb1⟩
    have M1 : Hid (M8 w w1 [a0, a1, a2, a3] [b0, b1, b2, b3] [c0, c1, c2, c3]) := m0.out.later hb1
    clear hb1 m0
    go_wp2
    go_ret
    exact ⟨rfl, M1.out.bl⟩
end Go.Proofs.Qxb6605516a
