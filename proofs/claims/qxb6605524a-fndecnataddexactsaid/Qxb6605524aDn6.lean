import Derived.Test.Qxb6605524aDn5
namespace Go.Proofs.Qxb6605524a
open Go.RowKit
set_option linter.unusedVariables false

set_option maxHeartbeats 1000000 in
set_option maxRecDepth 4000 in
theorem law3 (a0 : Option Addr) (n0 c0 : Nat) (a1 : Option Addr) (n1 c1 : Nat) (x y : List Int) (w : World) (hx : Sl w a0 n0 x) (hy : Sl w a1 n1 y) (z0 : a0 = none → n0 = 0) (z1 : a1 = none → n1 = 0) (px : ∀ a ∈ x, 0 ≤ a) (py : ∀ a ∈ y, 0 ≤ a) :
    Calls Try.prog 3 #[.slice a0 n0 c0, .slice a1 n1 c1] w fun e w' => e = .returned (.bool true) ∧ Below w.heap.size w w' := by
  have HX := hide hx
  have HY := hide hy
  have Z0 := hide z0
  have Z1 := hide z1
  have PX := hide px
  have PY := hide py
  clear hx hy z0 z1 px py
  go_enter Try.func3, Try.ntmps3
  go_wp2_with fail
  refine (zzbytes5 a0 n0 c0 a1 n1 c1 w).mono ?_
  rintro e w' ⟨⟨b, rfl⟩, rfl⟩
  cases b
  · go_wp2
    go_ret
    exact ⟨rfl, Below.refl _ _⟩
  by_cases g0 : 131072 < n0
  · go_wp2
    go_ret
    exact ⟨rfl, Below.refl _ _⟩
  by_cases g1 : 131072 < n1
  · go_wp2
    go_ret
    exact ⟨rfl, Below.refl _ _⟩
  by_cases g2 : 131072 < n0 + n1
  · go_wp2
    go_ret
    exact ⟨rfl, Below.refl _ _⟩
  go_wp2_with fail
  refine (isdn_any a0 n0 c0 x (by omega) w' HX.out).mono ?_
  rintro e w' ⟨rfl, rfl⟩
  cases hb : isDN x
  · go_wp2
    go_ret
    exact ⟨rfl, Below.refl _ _⟩
  go_wp2_with fail
  refine (isdn_any a1 n1 c1 y (by omega) w' HY.out).mono ?_
  rintro e w' ⟨rfl, rfl⟩
  cases hb2 : isDN y
  · go_wp2
    go_ret
    exact ⟨rfl, Below.refl _ _⟩
  have LX := hide (isDN_out hb PX.out)
  have LY := hide (isDN_out hb2 PY.out)
  clear hb hb2 PX PY
  go_wp2_with fail
  refine (clone_any a0 n0 c0 x (by omega) w' HX.out Z0.out).mono ?_
  rintro e w1 ⟨⟨p0, d0, rfl, hs⟩, hb⟩
  have HX1 := hide hs
  have HY1 := hide (HY.out.below hb)
  have B1 := hide hb
  clear hs hb
  go_wp2_with fail
  refine (clone_any a1 n1 c1 y (by omega) w1 HY1.out Z1.out).mono ?_
  rintro e w2 ⟨⟨p1, d1, rfl, hs⟩, hb⟩
  have HY2 := hide hs
  have HX2 := hide (HX1.out.below hb)
  have B2 := hide (B1.out.trans (hb.mono B1.out.size))
  clear hs hb HX HY HX1 HY1 B1 Z0 Z1
  go_wp2_with fail
  refine (zzadd_any p0 n0 d0 p1 n1 d1 x y (by omega) (by omega) w2 HX2.out HY2.out LX.out.1 LY.out.1).mono ?_
  rintro e w3 ⟨⟨p2, d2, rfl, hs⟩, hb⟩
  have HX3 := hide (HX2.out.below hb)
  have HY3 := hide (HY2.out.below hb)
  have B3 := hide (B2.out.trans (hb.mono B2.out.size))
  have HZ3 := hide hs
  clear hs hb HX2 HY2 B2
  obtain ⟨z, hz⟩ : ∃ z, sumL x y = z := ⟨_, rfl⟩
  have zle : z.length ≤ max n0 n1 + 1 := by rw [← hz, ← HX3.out.len, ← HY3.out.len]; exact sumL_le
  have zge : max n0 n1 ≤ z.length := by rw [← hz, ← HX3.out.len, ← HY3.out.len]; exact sumL_ge LX.out.1 LY.out.1 LX.out.2 LY.out.2
  have LZ := hide (hz ▸ sumL_Lb LX.out.1 LY.out.1 : Lb z)
  have TZ := hide (hz ▸ sumL_Top x y : Top z)
  have VZ := hide (hz ▸ sumL_V LX.out.1 LY.out.1 : V z = V x + V y)
  rw [hz] at HZ3 ⊢
  clear hz
  obtain ⟨m, hm⟩ : ∃ m, z.length = m := ⟨_, rfl⟩
  rw [hm] at zle zge HZ3 ⊢
  go_wp2_with fail
  refine (isdn_any p2 m d2 z (by omega) w3 HZ3.out).mono ?_
  rintro e w4 ⟨rfl, rfl⟩
  rw [isDN_of LZ.out TZ.out]
  go_wp2_with fail
  refine (digits_any p2 m d2 z (by omega) w4 HZ3.out LZ.out).mono ?_
  rintro e w5 ⟨⟨q0, f0, rfl, hs⟩, hb⟩
  have DZ := hide hs
  have HX5 := hide (HX3.out.below hb)
  have HY5 := hide (HY3.out.below hb)
  have B5 := hide (B3.out.trans (hb.mono B3.out.size))
  clear hs hb B3 HX3 HY3 HZ3
  have lz5 : (strip (digs z)).length ≤ 18 * 131073 := by have := nz_le (digs z) (digs z).length; rw [strip_len]; rw [digs_len, hm] at *; omega
  have lx5 : (strip (digs x)).length ≤ 18 * 131073 := by have := nz_le (digs x) (digs x).length; rw [strip_len]; rw [digs_len, HX5.out.len] at *; omega
  have ly5 : (strip (digs y)).length ≤ 18 * 131073 := by have := nz_le (digs y) (digs y).length; rw [strip_len]; rw [digs_len, HY5.out.len] at *; omega
  obtain ⟨u, hu⟩ : ∃ u, strip (digs z) = u := ⟨_, rfl⟩
  have hds := dsum_eq LX.out.1 LY.out.1 LZ.out VZ.out
  rw [hu] at DZ lz5 hds ⊢
  have HU := hide hds
  clear hu hds
  obtain ⟨r, hr⟩ : ∃ r, u.length = r := ⟨_, rfl⟩
  rw [hr] at DZ lz5 ⊢
  go_wp2_with fail
  refine (digits_any p0 n0 d0 x (by omega) w5 HX5.out LX.out.1).mono ?_
  rintro e w6 ⟨⟨q1, f1, rfl, hs⟩, hb⟩
  have DX := hide hs
  have DZ6 := hide (DZ.out.below hb)
  have HY6 := hide (HY5.out.below hb)
  have B6 := hide (B5.out.trans (hb.mono B5.out.size))
  clear hs hb B5 HX5 HY5 DZ
  go_wp2_with fail
  refine (digits_any p1 n1 d1 y (by omega) w6 HY6.out LY.out.1).mono ?_
  rintro e w7 ⟨⟨q2, f2, rfl, hs⟩, hb⟩
  have DY := hide hs
  have DX7 := hide (DX.out.below hb)
  have DZ7 := hide (DZ6.out.below hb)
  have B7 := hide (B6.out.trans (hb.mono B6.out.size))
  clear hs hb B6 HY6 DX DZ6
  go_wp2_with fail
  refine (decadd_any q1 (strip (digs x)).length f1 q2 (strip (digs y)).length f2 (strip (digs x)) (strip (digs y)) lx5 ly5 w7 DX7.out DY.out (strip_Db (digs_Db x LX.out.1)) (strip_Db (digs_Db y LY.out.1))).mono ?_
  rintro e w8 ⟨⟨q3, f3, rfl, hs⟩, hb⟩
  rw [HU.out, hr] at hs ⊢
  have DS := hide hs
  have DZ8 := hide (DZ7.out.below hb)
  have B8 := hide (B7.out.trans (hb.mono B7.out.size))
  clear hs hb B7 DX7 DY DZ7
  go_wp2_with fail
  refine (bsame_any q0 r f0 q3 r f3 u (by omega) w8 DZ8.out DS.out).mono ?_
  rintro e w9 ⟨rfl, hb⟩
  have B9 := hide (B8.out.trans (hb.mono B8.out.size))
  clear hb B8 DS DZ8
  go_wp2
  go_ret
  exact ⟨rfl, B9.out⟩
end Go.Proofs.Qxb6605524a
