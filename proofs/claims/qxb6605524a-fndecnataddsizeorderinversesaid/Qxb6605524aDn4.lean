import Derived.Test.Qxb6605524aDn3
namespace Go.Proofs.Qxb6605524a
open Go.RowKit
set_option linter.unusedVariables false

/-- The greater by a number that may be nothing. -/
theorem cmp_plus {z x y : List Int} {c : Int} (h : CmpR z x c) (lz : Lb z) (lx : Lb x) (ly : Lb y) (tz : Top z) (tx : Top x) (ty : Top y) (hv : V z = V x + V y) : (y.length = 0 ∧ c = 0) ∨ (0 < y.length ∧ c = 1) := by
  by_cases e : y = []
  · subst e
    have e2 : z = x := V_inj lz lx tz tx (by simp [V] at hv; exact hv)
    subst e2
    exact .inl ⟨rfl, cmp_eq h⟩
  · have := V_pos ly ty e
    exact .inr ⟨List.length_pos_iff.2 e, cmp_gt h lz lx tx (by omega)⟩
/-- What is taken away leaves the other. -/
theorem sub_back {z x y : List Int} (lz : Lb z) (lx : Lb x) (ly : Lb y) (tx : Top x) (hl : y.length ≤ z.length) (hv : V z = V x + V y) : (subF z y 0).2 = 0 ∧ strip (subF z y 0).1 = x := by
  have n1 := V_nonneg lx
  have h := subF_V z y 0 lz ly (by omega) (by omega) hl (by omega)
  refine ⟨h.1, V_inj (strip_Lb (subF_Lb z y 0 lz ly (by omega) (by omega))) lx (strip_top _) tx ?_⟩
  rw [strip_V, h.2]; omega

set_option maxHeartbeats 1000000 in
set_option maxRecDepth 4000 in
theorem law4 (a0 : Option Addr) (n0 c0 : Nat) (a1 : Option Addr) (n1 c1 : Nat) (x y : List Int) (w : World) (hx : Sl w a0 n0 x) (hy : Sl w a1 n1 y) (z0 : a0 = none → n0 = 0) (z1 : a1 = none → n1 = 0) (px : ∀ a ∈ x, 0 ≤ a) (py : ∀ a ∈ y, 0 ≤ a) :
    Calls Try.prog 4 #[.slice a0 n0 c0, .slice a1 n1 c1] w fun e w' => e = .returned (.bool true) ∧ Below w.heap.size w w' := by
  have HX := hide hx
  have HY := hide hy
  have Z0 := hide z0
  have Z1 := hide z1
  have PX := hide px
  have PY := hide py
  clear hx hy z0 z1 px py
  go_enter Try.func4, Try.ntmps4
  go_wp2_with fail
  refine (zzbytes12 a0 n0 c0 a1 n1 c1 w).mono ?_
  rintro e w' ⟨⟨b, rfl⟩, rfl⟩
  cases b
  · go_wp2
    go_ret
    exact ⟨rfl, Below.refl _ _⟩
  by_cases g0 : 131072 < n0
  · go_wp2
    go_ret
    exact ⟨rfl, Below.refl _ _⟩
  by_cases g1 : 131072 < n1
  · go_wp2
    go_ret
    exact ⟨rfl, Below.refl _ _⟩
  by_cases g2 : 131072 < n0 + n1
  · go_wp2
    go_ret
    exact ⟨rfl, Below.refl _ _⟩
  go_wp2_with fail
  refine (isdn_any a0 n0 c0 x (by omega) w' HX.out).mono ?_
  rintro e w' ⟨rfl, rfl⟩
  cases hb : isDN x
  · go_wp2
    go_ret
    exact ⟨rfl, Below.refl _ _⟩
  go_wp2_with fail
  refine (isdn_any a1 n1 c1 y (by omega) w' HY.out).mono ?_
  rintro e w' ⟨rfl, rfl⟩
  cases hb2 : isDN y
  · go_wp2
    go_ret
    exact ⟨rfl, Below.refl _ _⟩
  have LX := hide (isDN_out hb PX.out)
  have LY := hide (isDN_out hb2 PY.out)
  clear hb hb2 PX PY
  go_wp2_with fail
  refine (clone_any a0 n0 c0 x (by omega) w' HX.out Z0.out).mono ?_
  rintro e w1 ⟨⟨p0, d0, rfl, hs⟩, hb⟩
  have HX1 := hide hs
  have HY1 := hide (HY.out.below hb)
  have B1 := hide hb
  clear hs hb
  go_wp2_with fail
  refine (clone_any a1 n1 c1 y (by omega) w1 HY1.out Z1.out).mono ?_
  rintro e w2 ⟨⟨p1, d1, rfl, hs⟩, hb⟩
  have HY2 := hide hs
  have HX2 := hide (HX1.out.below hb)
  have B2 := hide (B1.out.trans (hb.mono B1.out.size))
  clear hs hb HX HY HX1 HY1 B1 Z0 Z1
  go_wp2_with fail
  refine (zzadd_any p0 n0 d0 p1 n1 d1 x y (by omega) (by omega) w2 HX2.out HY2.out LX.out.1 LY.out.1).mono ?_
  rintro e w3 ⟨⟨p2, d2, rfl, hs⟩, hb⟩
  have HX3 := hide (HX2.out.below hb)
  have HY3 := hide (HY2.out.below hb)
  have B3 := hide (B2.out.trans (hb.mono B2.out.size))
  have HZ3 := hide hs
  clear hs hb HX2 HY2 B2
  obtain ⟨z, hz⟩ : ∃ z, sumL x y = z := ⟨_, rfl⟩
  have zle : z.length ≤ max n0 n1 + 1 := by rw [← hz, ← HX3.out.len, ← HY3.out.len]; exact sumL_le
  have zge : max n0 n1 ≤ z.length := by rw [← hz, ← HX3.out.len, ← HY3.out.len]; exact sumL_ge LX.out.1 LY.out.1 LX.out.2 LY.out.2
  have LZ := hide (hz ▸ sumL_Lb LX.out.1 LY.out.1 : Lb z)
  have TZ := hide (hz ▸ sumL_Top x y : Top z)
  have VZ := hide (hz ▸ sumL_V LX.out.1 LY.out.1 : V z = V x + V y)
  rw [hz] at HZ3 ⊢
  clear hz
  obtain ⟨m, hm⟩ : ∃ m, z.length = m := ⟨_, rfl⟩
  rw [hm] at zle zge HZ3 ⊢
  go_upto_region 10 with fail
  go_cut [6] (fun s wr => ∃ M : Nat, s = .int .i64 (M : Int) ∧ (m = M ∨ m = M + 1) ∧ wr = w3)
  case first =>
    by_cases hlt : n0 < n1
    · go_wp2
      go_meet
      case rel => exact ⟨n1, rfl, by omega, rfl⟩
    · go_wp2
      go_meet
      case rel => exact ⟨n0, rfl, by omega, rfl⟩
  obtain ⟨M, rfl, hM, rfl⟩ := hcut
  go_step; go_step
  go_cut [5] (fun s wr => s = .slice p2 m d2 ∧ wr = wc)
  case first =>
    rcases hM with rfl | hM
    · have e0 : ((m : Int) != (m : Int)) = false := by simp
      go_wp2
      go_meet
      case rel => exact ⟨rfl, rfl⟩
    · subst hM
      have e0 : (((M : Int) + 1) != (M : Int)) = true := by simp; omega
      go_wp2
      go_meet
      case rel => exact ⟨rfl, rfl⟩
  obtain ⟨rfl, rfl⟩ := hcut
  go_wp2_with fail
  refine (isdn_any p2 m d2 z (by omega) wc HZ3.out).mono ?_
  rintro e w4 ⟨rfl, rfl⟩
  rw [isDN_of LZ.out TZ.out]
  go_wp2_with fail
  refine (cmp_any p2 m d2 p0 n0 d0 z x (by omega) (by omega) w4 HZ3.out HX3.out).mono ?_
  rintro e w5 ⟨⟨cx, rfl, hcx⟩, hb⟩
  have hcx := cmp_plus hcx LZ.out LX.out.1 LY.out.1 TZ.out LX.out.2 LY.out.2 VZ.out
  rw [HY3.out.len] at hcx
  have HX5 := hide (HX3.out.below hb)
  have HY5 := hide (HY3.out.below hb)
  have HZ5 := hide (HZ3.out.below hb)
  have B5 := hide (B3.out.trans (hb.mono B3.out.size))
  have HCX := hide hcx
  clear hb hcx B3 HX3 HY3 HZ3
  go_wp2_with fail
  refine (cmp_any p2 m d2 p1 n1 d1 z y (by omega) (by omega) w5 HZ5.out HY5.out).mono ?_
  rintro e w6 ⟨⟨cy, rfl, hcy⟩, hb⟩
  have hcy := cmp_plus hcy LZ.out LY.out.1 LX.out.1 TZ.out LY.out.2 LX.out.2 (by rw [VZ.out]; omega)
  rw [HX5.out.len] at hcy
  have HX6 := hide (HX5.out.below hb)
  have HY6 := hide (HY5.out.below hb)
  have HZ6 := hide (HZ5.out.below hb)
  have B6 := hide (B5.out.trans (hb.mono B5.out.size))
  have HCY := hide hcy
  clear hb hcy B5 HX5 HY5 HZ5
  go_upto_region 17 with fail
  go_cut [95] (fun s wr => s = .bool false ∧ wr = w6)
  case first =>
    rcases HCX.out with ⟨hn1, hc1⟩ | ⟨hn1, hc1⟩ <;> rcases HCY.out with ⟨hn0, hc0⟩ | ⟨hn0, hc0⟩ <;> subst hc1 <;> subst hc0
    · subst hn0; subst hn1
      go_wp2
      go_meet
      case rel => exact ⟨rfl, rfl⟩
    · subst hn1
      go_wp2
      go_meet
      case rel => exact ⟨rfl, rfl⟩
    · subst hn0
      go_wp2
      go_meet
      case rel => exact ⟨rfl, rfl⟩
    · go_wp2
      go_meet
      case rel => exact ⟨rfl, rfl⟩
  obtain ⟨rfl, rfl⟩ := hcut
  clear HCX HCY
  have hsx := sub_back LZ.out LX.out.1 LY.out.1 LX.out.2 (by rw [HY6.out.len, hm]; omega) VZ.out
  have hsy := sub_back LZ.out LY.out.1 LX.out.1 LY.out.2 (by rw [HX6.out.len, hm]; omega) (by rw [VZ.out]; omega)
  have SX := hide hsx
  have SY := hide hsy
  clear hsx hsy
  go_wp2_with fail
  refine (sub_any p2 m d2 p1 n1 d1 z y (by omega) (by omega) wc HZ6.out HY6.out LZ.out LY.out.1 SX.out.1).mono ?_
  rintro e w7 ⟨⟨q0, f0, rfl, hs⟩, hb⟩
  rw [SX.out.2, HX6.out.len] at hs ⊢
  have HDX := hide hs
  have HX7 := hide (HX6.out.below hb)
  have HY7 := hide (HY6.out.below hb)
  have HZ7 := hide (HZ6.out.below hb)
  have B7 := hide (B6.out.trans (hb.mono B6.out.size))
  clear hb hs B6 HX6 HY6 HZ6 SX
  go_wp2_with fail
  refine (sub_any p2 m d2 p0 n0 d0 z x (by omega) (by omega) w7 HZ7.out HX7.out LZ.out LX.out.1 SY.out.1).mono ?_
  rintro e w8 ⟨⟨q1, f1, rfl, hs⟩, hb⟩
  rw [SY.out.2, HY7.out.len] at hs ⊢
  have HDY := hide hs
  have HDX8 := hide (HDX.out.below hb)
  have HX8 := hide (HX7.out.below hb)
  have HY8 := hide (HY7.out.below hb)
  have B8 := hide (B7.out.trans (hb.mono B7.out.size))
  clear hb hs B7 HX7 HY7 HZ7 SY HDX
  go_wp2_with fail
  refine (same_any q0 n0 f0 p0 n0 d0 x (by omega) w8 HDX8.out HX8.out).mono ?_
  rintro e w9 ⟨rfl, hb⟩
  have HDY9 := hide (HDY.out.below hb)
  have HY9 := hide (HY8.out.below hb)
  have B9 := hide (B8.out.trans (hb.mono B8.out.size))
  clear hb B8 HDX8 HX8 HDY HY8
  go_wp2_with fail
  refine (same_any q1 n1 f1 p1 n1 d1 y (by omega) w9 HDY9.out HY9.out).mono ?_
  rintro e w10 ⟨rfl, hb⟩
  have B10 := hide (B9.out.trans (hb.mono B9.out.size))
  clear hb B9 HDY9 HY9
  go_wp2
  go_ret
  exact ⟨rfl, B10.out⟩
end Go.Proofs.Qxb6605524a
