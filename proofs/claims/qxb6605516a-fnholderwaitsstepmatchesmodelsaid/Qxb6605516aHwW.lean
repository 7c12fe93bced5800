import Derived.Test.Qxb6605516aHwK1
import Derived.Test.Qxb6605516aHwK2
import Derived.Test.Qxb6605516aHwL
namespace Go.Proofs.Qxb6605516a
open Go.RowKit
set_option linter.unusedVariables false

set_option maxRecDepth 100000 in
set_option maxHeartbeats 8000000 in
theorem holderlaw (ask keep ep t d : Int) (a2 : Option Addr) (ni c2 : Nat) (a3 : Option Addr) (m c3 : Nat) (a4 : Option Addr) (n4 c4 : Nat) (a5 : Option Addr) (n5 c5 : Nat) (G : Nat → Int) (L : Nat → Nat) (F : Nat → Nat → Int) (la : Nat → Option Addr) (lc : Nat → Nat) (LO FF : Nat → Int) (w : World)
    (z2 : a2 = none → ni = 0) (z3 : a3 = none → m = 0) (z4 : a4 = none → n4 = 0) (z5 : a5 = none → n5 = 0)
    (h2 : IRow w a2 ni 3 G) (h3 : Nst w a3 m 2 L F la lc) (h4 : IRow w a4 n4 1 LO) (h5 : IRow w a5 n5 1 FF)
    (hG : ∀ c, -2147483648 ≤ G c ∧ G c ≤ 2147483647) (hF : ∀ i c, -2147483648 ≤ F i c ∧ F i c ≤ 2147483647) (hLO : ∀ i, -2147483648 ≤ LO i ∧ LO i ≤ 2147483647) (ht : -2147483648 ≤ t ∧ t ≤ 2147483647) (hd : -2147483648 ≤ d ∧ d ≤ 2147483647) :
    Calls Try.prog 5 #[.int .i32 ask, .int .i32 keep, .slice a2 ni c2, .slice a3 m c3, .slice a4 n4 c4, .slice a5 n5 c5, .int .i32 ep, .int .i32 t, .int .i32 d] w fun e w' => e = .returned (.bool true) ∧ Below w.heap.size w w' := by
  have H2 := hide h2
  have H3 := hide h3
  have H4 := hide h4
  have H5 := hide h5
  have Z2 := hide z2
  have Z3 := hide z3
  have Z4 := hide z4
  have Z5 := hide z5
  have HG := hide hG
  have HF := hide hF
  have HLO := hide hLO
  have HT := hide ht
  have HD := hide hd
  clear h2 h3 h4 h5 z2 z3 z4 z5 hG hF hLO ht hd
  go_enter Try.func5, Try.ntmps5
  go_wp2_with fail
  refine (zzbytes20 _ _ a2 ni c2 a3 m c3 a4 n4 c4 a5 n5 c5 _ _ _ L F la lc w H3.out).mono ?_
  rintro e w' ⟨⟨b9, rfl, hL⟩, rfl⟩
  cases b9
  · as_aux_lemma =>
      go_wp2
      go_ret
      exact ⟨rfl, Below.refl _ _⟩
  have HL := hide (hL rfl)
  clear hL
  go_wp2_with fail
  refine (stepbytes_any a2 ni c2 a3 m c3 a4 n4 c4 a5 n5 c5 L F la lc w' H3.out).mono ?_
  rintro e w ⟨⟨z9, rfl⟩, rfl⟩
  by_cases hz : 1048576 < z9
  · as_aux_lemma =>
      go_wp2
      go_ret
      exact ⟨rfl, Below.refl _ _⟩
  by_cases hni : 65536 < ni
  · as_aux_lemma =>
      go_wp2
      go_ret
      exact ⟨rfl, Below.refl _ _⟩
  by_cases hm : 65536 < m
  · as_aux_lemma =>
      go_wp2
      go_ret
      exact ⟨rfl, Below.refl _ _⟩
  by_cases hn4 : 65536 < n4
  · as_aux_lemma =>
      go_wp2
      go_ret
      exact ⟨rfl, Below.refl _ _⟩
  by_cases hn5 : 65536 < n5
  · as_aux_lemma =>
      go_wp2
      go_ret
      exact ⟨rfl, Below.refl _ _⟩
  have hni : ni ≤ 65536 := by omega
  have hm : m ≤ 65536 := by omega
  have hn4 : n4 ≤ 65536 := by omega
  have hn5 : n5 ≤ 65536 := by omega
  as_aux_lemma =>
    go_wp2_with fail
    refine (stepdomain_any a2 ni c2 a3 m c3 a4 n4 c4 t L F LO la lc w hni hm hn4 HL.out HT.out HLO.out HF.out H3.out H4.out).mono ?_
    rintro e w1 ⟨⟨b8, rfl, hY⟩, rfl⟩
    cases b8
    · as_aux_lemma =>
        go_wp2
        go_ret
        exact ⟨rfl, Below.refl _ _⟩
    have HDom := hide (hY rfl)
    clear hY hz
    rename World => w
    go_wp2_with fail
    refine (clonesh_any a2 ni c2 G (by omega) w Z2.out H2.out).mono ?_
    rintro e w1 ⟨i2, d2, hC2⟩
    have HC2 := hide hC2
    obtain rfl := hC2.ret
    have HB1 := hide hC2.bel
    clear hC2
    go_wp2_with fail
    refine (clonelists_any a3 m c3 L F la lc (by omega) HL.out w1 Z3.out (H3.out.below HB1.out)).mono ?_
    rintro e w2 ⟨i3, d3, la3, lc3, hC3⟩
    have HC3 := hide hC3
    obtain rfl := hC3.ret
    have HB2 := hide (HB1.out.trans (hC3.bel.mono HB1.out.size))
    clear hC3
    go_wp2_with fail
    refine (clonei32_any a4 n4 c4 LO (by omega) w2 Z4.out (SlA.below H4.out HB2.out)).mono ?_
    rintro e w3 ⟨i4, d4, hC4⟩
    have HC4 := hide hC4
    obtain rfl := hC4.ret
    have HB3 := hide (HB2.out.trans (hC4.bel.mono HB2.out.size))
    clear hC4
    go_wp2_with fail
    refine (clonei32_any a5 n5 c5 FF (by omega) w3 Z5.out (SlA.below H5.out HB3.out)).mono ?_
    rintro e w4 ⟨i5, d5, hC5⟩
    have HC5 := hide hC5
    obtain rfl := hC5.ret
    have HB4 := hide (HB3.out.trans (hC5.bel.mono HB3.out.size))
    clear hC5
    have Z2' : i2 = none → ni = 0 := fun e => Z2.out (HC2.out.nl.1 e)
    have Z3' : i3 = none → m = 0 := fun e => Z3.out (HC3.out.nl.1 e)
    have Z4' : i4 = none → n4 = 0 := fun e => Z4.out (HC4.out.nl.1 e)
    have Z5' : i5 = none → n5 = 0 := fun e => Z5.out (HC5.out.nl.1 e)
    have HR2 := hide (SlA.below (SlA.below (SlA.below HC2.out.row.irow HC3.out.bel) HC4.out.bel) HC5.out.bel)
    have HR3 := hide ((HC3.out.nst.below HC4.out.bel).below HC5.out.bel)
    have HR4 := hide (SlA.below HC4.out.row.irow HC5.out.bel)
    have HR5 := hide HC5.out.row.irow
    have HZ2 := hide Z2'
    have HZ3 := hide Z3'
    have HZ4 := hide Z4'
    have HZ5 := hide Z5'
    clear Z2' Z3' Z4' Z5' HB1 HB2 HB3 HC2 HC3 HC4 HC5
    go_wp2_with fail
    as_aux_lemma =>
      refine (stepmake_any ask keep ep i2 ni d2 i3 m d3 i4 n4 d4 i5 n5 d5 G L F la3 lc3 LO FF w4 hni hm hn4 hn5 HL.out HZ2.out HZ3.out HZ4.out HZ5.out HR2.out HR3.out HR4.out HR5.out).mono ?_
      rintro e w5 ⟨bh, ia, ha, la5, o4, e4, o5, e5, hM⟩
      have HM := hide hM
      obtain rfl := hM.ret
      clear hM
      go_wp2_with fail
      as_aux_lemma =>
        refine (zzstep_any bh ask keep ep ia ni ha m o4 n4 e4 o5 n5 e5 G L F _ la5 LO t d w5 hni hm HL.out HG.out HDom.out HM.out.hold HM.out.r4).mono ?_
        rintro e w6 ⟨rfl, tn, htn, H, L1, F1, lc6, hS⟩
        subst htn
        have HSt := hide hS
        clear hS
        have hdl := dom_at HDom.out
        have htn4 := hdl.1
        have HDl := hide hdl.2
        have HLs := hide (stp_le HSt.out HL.out)
        have HBk := hide (HM.out.hold.blk.below HSt.out.bel (Nat.lt_succ_self _))
        have HiaZ : ia = none → ni = 0 := fun e => HZ2.out (HM.out.y2.1 e)
        have HhaZ : ha = none → m = 0 := fun e => HZ3.out (HM.out.y3.1 e)
        clear hdl HDom
        go_wp2_with fail
        as_aux_lemma =>
          refine (hwstate_any bh ask keep ep ia ni ha m o4 n4 e4 o5 n5 e5 H L1 F1 la5 lc6 w6 hni hm HLs.out HiaZ HhaZ HBk.out HSt.out.it HSt.out.ls).mono ?_
          rintro e w7 ⟨p1, p2, p3, q1, q2, l1, l2, k1, k2, hSt⟩
          have HSS := hide hSt
          obtain rfl := hSt.ret
          clear hSt HiaZ HhaZ
          have HB46 := hide (HM.out.bel.trans (HSt.out.bel.mono (Nat.le_trans HM.out.hb (Nat.le_succ _))))
          have HB47 := hide (HB46.out.trans (HSS.out.bel.mono HB46.out.size))
          have HS5 : Hid (S5 w w7 ni m G H L L1 F F1 i2 i3 la3 lc3 p1 p2 p3 q1 q2 l1 l2 k1 k2) := ⟨SlA.below HR2.out HB47.out, HR3.out.below HB47.out, HSS.out.r1, HSS.out.r2, HSS.out.r3, HSS.out.t1, HSS.out.t2, HB4.out.trans (HB47.out.mono HB4.out.size)⟩
          have HR4' := hide (SlA.below HR4.out HB47.out)
          have HR5' := hide (SlA.below HR5.out HB47.out)
          have hsz : bh + 1 ≤ w6.heap.size := Nat.le_trans HM.out.hold.blk.lt HSt.out.bel.size
          have HO4 := hide (SlA.below (((HM.out.r4.below (HSt.out.bel.mono (Nat.le_succ _)))).irow) HSS.out.bel)
          have HO5 := hide (SlA.below (((HM.out.r5.below (HSt.out.bel.mono (Nat.le_succ _)))).irow) HSS.out.bel)
          have HN2 := hide (HSS.out.n1.trans HM.out.y2)
          have HN3 := hide (HSS.out.n2.trans HM.out.y3)
          have HN4 := hide HM.out.y4
          have HN5 := hide HM.out.y5
          have HZl := hide (fun i (hi : i < m) => (HSS.out.z1 i hi).trans (hold_nz HM.out.hold i hi))
          have HNeg := hide HSt.out.neg
          have HOth := hide HSt.out.oth
          have HHit := hide HSt.out.hit
          have HZo4 : Hid (o4 = none → n4 = 0) := fun e => HZ4.out (HM.out.y4.1 e)
          have HZo5 : Hid (o5 = none → n5 = 0) := fun e => HZ5.out (HM.out.y5.1 e)
          clear HM HSt HSS HB46 HB47 HB4 HR2 HR3 HR4 HR5 HBk hsz HLs
          as_aux_lemma =>
            go_wp2_with fail
            refine (same_any o4 i4 n4 e4 d4 LO (by omega) w7 HN4.out HZo4.out HO4.out HR4'.out).mono ?_
            rintro e w8 ⟨rfl, ka, rfl⟩
            go_wp2_with fail
            refine (same_any o5 i5 n5 e5 d5 FF (by omega) (w7.drewN ka) HN5.out HZo5.out (SlA.below HO5.out (below_drewN (Below.refl _ _) ka)) (SlA.below HR5'.out (below_drewN (Below.refl _ _) ka))).mono ?_
            rintro e w9 ⟨rfl, kb, hw9⟩
            have HBw : Hid (Below w7.heap.size w7 w9) := by
              subst hw9
              exact below_drewN (below_drewN (Below.refl _ _) _) _
            have HS9 := hide (HS5.out.below HBw.out)
            have HR49 := hide (SlA.below HR4'.out HBw.out)
            clear hw9 HS5 HR4' HR5' HO4 HO5 HBw HZo4 HZo5 HN4 HN5
            as_aux_lemma =>
              go_upto_region 26 with fail
              go_cut [157] (fun c w' => c = .bool false ∧ w' = w9)
              case first =>
                cases i2 with
                | none =>
                  obtain rfl := HN2.out.2 rfl
                  have n1 := fun w => Lib.run_eql_slice_nil (P := Try.prog) w 35 21 none ni ni 0 0 Try.underlying35
                  have n2 := fun w => Lib.run_eql_slice_nil (P := Try.prog) w 44 62 none ni d2 0 0 Try.underlying44
                  as_aux_lemma =>
                    go_wp2
                    go_meet
                    case rel => exact ⟨by simp, rfl⟩
                | some y =>
                  obtain ⟨y1, rfl⟩ : ∃ y1, p1 = some y1 := by
                    cases p1 with
                    | none => have := HN2.out.1 rfl; cases this
                    | some y1 => exact ⟨y1, rfl⟩
                  have n1 := fun w => Lib.run_eql_slice_nil (P := Try.prog) w 35 21 (some y1) ni ni 0 0 Try.underlying35
                  have n2 := fun w => Lib.run_eql_slice_nil (P := Try.prog) w 44 62 (some y) ni d2 0 0 Try.underlying44
                  as_aux_lemma =>
                    go_wp2
                    go_meet
                    case rel => exact ⟨by simp, rfl⟩
              obtain ⟨rfl, rfl⟩ := hcut
              rename World => w9
              as_aux_lemma =>
                go_upto_region 28 with fail
                go_cut [176] (fun c w' => c = .bool false ∧ w' = w9)
                case first =>
                  cases i3 with
                  | none =>
                    obtain rfl := HN3.out.2 rfl
                    have n1 := fun w => Lib.run_eql_slice_nil (P := Try.prog) w 55 35 none m m 0 0 Try.underlying55
                    have n2 := fun w => Lib.run_eql_slice_nil (P := Try.prog) w 45 64 none m d3 0 0 Try.underlying45
                    as_aux_lemma =>
                      go_wp2
                      go_meet
                      case rel => exact ⟨by simp, rfl⟩
                  | some y =>
                    obtain ⟨y1, rfl⟩ : ∃ y1, q1 = some y1 := by
                      cases q1 with
                      | none => have := HN3.out.1 rfl; cases this
                      | some y1 => exact ⟨y1, rfl⟩
                    have n1 := fun w => Lib.run_eql_slice_nil (P := Try.prog) w 55 35 (some y1) m m 0 0 Try.underlying55
                    have n2 := fun w => Lib.run_eql_slice_nil (P := Try.prog) w 45 64 (some y) m d3 0 0 Try.underlying45
                    as_aux_lemma =>
                      go_wp2
                      go_meet
                      case rel => exact ⟨by simp, rfl⟩
                obtain ⟨rfl, rfl⟩ := hcut
                rename World => w9
                as_aux_lemma =>
                  obtain ⟨b4, o4', rfl, hb4, c4'⟩ := rowCell HR49.out (by omega)
                  have x4 := c4' tn (by omega)
                  obtain ⟨p, hp⟩ : ∃ p, LO tn = p := ⟨_, rfl⟩
                  rw [hp] at x4 HDl HNeg HOth HHit
                  clear hp c4'
                  go_step
                  go_wp2_with fail
                  as_aux_lemma =>
                    refine (counts_any i2 ni d2 i3 m d3 p L F G la3 lc3 hni HL.out w9 HS9.out.it HS9.out.ls HDl.out).mono ?_
                    rintro e w10 ⟨C, hCnt, hC⟩
                    have HCnt := hide hCnt
                    obtain rfl := hCnt.ret
                    have HCx := hide hC
                    have HS10 := hide (HS9.out.below hCnt.bel)
                    clear hCnt hC x4
                    go_wp2
                    as_aux_lemma =>
                      refine l5_1 (w0 := w10) (d3 := 0) (cx := cnts L F G p) hni hm HS10.out HD.out HG.out HCnt.out.blk HCx.out (cnts_le HL.out HDl.out) (cnts_it HNeg.out (fun q hq => (HHit.out q hq).1)) ⟨by omega, rfl, Below.refl _ _⟩ ?_
                      intros
                      rename_i w11 hq
                      have HS11 := hide (HS10.out.below hq.bel)
                      clear hq HS10 HS9 HCnt HCx
                      as_aux_lemma =>
                        have hmk := make_i64 ni (by omega)
                        go_step
                        go_wp2
                        clear hmk
                        have HOK : Hid (∀ q : Nat, (q : Int) = p → ∀ j, j < L q → (0 ≤ F q (j * 2) ∧ F q (j * 2) < ni) ∧ F q (j * 2 + 1) ≠ 0) := fun q hq j hj => by
                          rcases HDl.out with h | ⟨q', h1, -, h3⟩
                          · omega
                          · obtain rfl : q = q' := by omega
                            exact h3 j hj
                        as_aux_lemma =>
                          refine l5_2 (w0 := w11) (bs := w11.heap.size) hni hm HS11.out HL.out HG.out (Nat.le_refl _) HOth.out (fun q hq => (HHit.out q hq.symm).2) HOK.out HZl.out ⟨by omega, rfl, Blk.made _ _ _ _, fun _ x _ => rfl, (Below.refl _ _).alloc (Nat.le_refl _) _⟩ ?_
                          intros
                          rename_i S12 w12 hq
                          have HBL := hide (HS11.out.bel.trans (hq.bel.mono HS11.out.bel.size))
                          clear hq
                          as_aux_lemma =>
                            go_step
                            go_wp2
                            go_ret
                            exact ⟨rfl, HBL.out⟩
end Go.Proofs.Qxb6605516a
