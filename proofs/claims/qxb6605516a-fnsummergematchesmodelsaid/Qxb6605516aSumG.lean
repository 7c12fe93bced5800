import Derived.Test.Qxb6605516aSumF
namespace Go.Proofs.Qxb6605516a
open Go.RowKit

set_option maxHeartbeats 1000000 in
/-- zzlaws.FnSumMergeMatchesModel: whatever the numbers. -/
theorem mm_any (aN a0 a1 a2 a3 ao ay bN b0 b1 b2 b3 bo by_ c0 c1 c2 c3 c4 c5 c6 al : Int) (ua : -2147483648 ≤ aN) (va : aN ≤ 2147483647) (ub : -2147483648 ≤ bN) (vb : bN ≤ 2147483647) (w : World) :
    Calls Try.prog 7 #[.int .i32 aN, .agg #[.int .i32 a0, .int .i32 a1, .int .i32 a2, .int .i32 a3], .int .i32 ao, .int .i32 ay, .int .i32 bN, .agg #[.int .i32 b0, .int .i32 b1, .int .i32 b2, .int .i32 b3], .int .i32 bo, .int .i32 by_,
      .agg #[.int .i32 c0, .int .i32 c1, .int .i32 c2, .int .i32 c3, .int .i32 c4, .int .i32 c5, .int .i32 c6], .int .u8 al] w fun e w' => e = .returned (.bool true) ∧ Below w.heap.size w w' := by
  have hB3 : ∀ o1 o2 o3 : Obj, Hid (Below w.heap.size w (((w.alloc o1).alloc o2).alloc o3)) := fun o1 o2 o3 => (((Below.refl _ _).alloc (Nat.le_refl _) _).alloc (by simp) _).alloc (by simp; omega) _
  by_cases h1 : 2 < al
  · go_enter Try.func7, Try.ntmps7
    go_wp2_with fail
    go_ret
    exact ⟨rfl, (hB3 _ _ _).out⟩
  by_cases h2 : aN < 0
  · have d1 : decide (aN < 0) = true := by simp; omega
    go_enter Try.func7, Try.ntmps7
    go_wp2_with fail
    go_ret
    exact ⟨rfl, (hB3 _ _ _).out⟩
  have d1 : decide (aN < 0) = false := by simp; omega
  by_cases h3 : bN < 0
  · have d2 : decide (bN < 0) = true := by simp; omega
    go_enter Try.func7, Try.ntmps7
    go_wp2_with fail
    go_ret
    exact ⟨rfl, (hB3 _ _ _).out⟩
  have d2 : decide (bN < 0) = false := by simp; omega
  by_cases h4 : 2147483647 < aN + bN
  · go_enter Try.func7, Try.ntmps7
    go_wp2_with fail
    go_ret
    exact ⟨rfl, (hB3 _ _ _).out⟩
  by_cases p1 : pfxB aN [a0, a1, a2, a3] = true
  · by_cases p2 : pfxB bN [b0, b1, b2, b3] = true
    · exact mm_main aN a0 a1 a2 a3 ao ay bN b0 b1 b2 b3 bo by_ c0 c1 c2 c3 c4 c5 c6 al h1 h2 h3 h4 p1 p2 w
    · have p2' : pfxB bN [b0, b1, b2, b3] = false := by simpa using p2
      clear p2
      have m0 : Hid (M7 w (((w.alloc (.cells (ints .i32 [a0, a1, a2, a3]) 68)).alloc (.cells (ints .i32 [b0, b1, b2, b3]) 68)).alloc (.cells (ints .i32 [c0, c1, c2, c3, c4, c5, c6]) 69)) [a0, a1, a2, a3] [b0, b1, b2, b3] [c0, c1, c2, c3, c4, c5, c6]) := M7.start ..
      go_enter Try.func7, Try.ntmps7
      go_wp2_with fail
      refine (prefix_any aN a0 a1 a2 a3 _).mono ?_
      rintro e w1 ⟨rfl, hb1⟩
      have M1 := hide (m0.out.later hb1)
      obtain ⟨x0, x1, x2, x3⟩ := i4_cells M1.out.b
      clear hb1 m0
      go_wp2_with fail
      refine (prefix_any bN b0 b1 b2 b3 _).mono ?_
      rintro e w2 ⟨rfl, hb2⟩
      have M2 := hide (M1.out.later hb2)
      clear hb2
      go_wp2
      go_ret
      exact ⟨rfl, M2.out.bl⟩
  · have p1' : pfxB aN [a0, a1, a2, a3] = false := by simpa using p1
    clear p1
    have m0 : Hid (M7 w (((w.alloc (.cells (ints .i32 [a0, a1, a2, a3]) 68)).alloc (.cells (ints .i32 [b0, b1, b2, b3]) 68)).alloc (.cells (ints .i32 [c0, c1, c2, c3, c4, c5, c6]) 69)) [a0, a1, a2, a3] [b0, b1, b2, b3] [c0, c1, c2, c3, c4, c5, c6]) := M7.start ..
    go_enter Try.func7, Try.ntmps7
    go_wp2_with fail
    refine (prefix_any aN a0 a1 a2 a3 _).mono ?_
    rintro e w1 ⟨rfl, hb1⟩
    have M1 := hide (m0.out.later hb1)
    clear hb1 m0
    go_wp2
    go_ret
    exact ⟨rfl, M1.out.bl⟩
end Go.Proofs.Qxb6605516a
