import Derived.Test.Qxb6605524aDoorSp5
import Derived.Test.Qxb6605524aDoorSp6
namespace Go.Proofs.Qxb6605524aDoor
open Go.RowKit
set_option linter.unusedVariables false

theorem SG.ex (s : ByteArray) : ∃ neg t, SG s neg t := by
  by_cases h1 : bt s 0 = 45
  · exact ⟨_, _, .minus h1⟩
  · by_cases h2 : bt s 0 = 43
    · exact ⟨_, _, .plus h2⟩
    · exact ⟨_, _, .none h2 h1⟩
theorem SG.size {s t : ByteArray} {neg : Bool} (h : SG s neg t) : t.size ≤ s.size := by
  cases h
  · rw [ByteArray.size_extract]; omega
  · rw [ByteArray.size_extract]; omega
  · exact Nat.le_refl _
set_option maxHeartbeats 6000000 in
set_option maxRecDepth 8000 in
theorem law3 (s : ByteArray) (w : World) (v0 : Var w 0) (v1 : Var w 1) :
    Calls Tryd.prog 3 #[.string s] w fun e w' => e = .returned (.bool true) ∧ Below w.heap.size w w' := by
  by_cases hs : 1048576 < s.size
  · go_enter Tryd.func3, Tryd.ntmps3
    go_wp2_with fail
    refine (bytes4_no s (by omega) w).mono ?_
    rintro e w' ⟨rfl, rfl⟩
    go_wp2
    go_ret
    exact ⟨rfl, Below.refl _ _⟩
  have hs : s.size ≤ 1048576 := by omega
  by_cases h0 : s.size = 0
  · have h0' : ((s.size : Int) == 0) = true := by simp [h0]
    go_enter Tryd.func3, Tryd.ntmps3
    go_wp2_with fail
    refine (bytes4 s hs w).mono ?_
    rintro e w' ⟨rfl, rfl⟩
    go_wp2
    go_ret
    exact ⟨rfl, Below.refl _ _⟩
  have h0' : ((s.size : Int) == 0) = false := by simp [h0]
  have hpos : 0 < s.size := by omega
  obtain ⟨neg, t, hg⟩ := SG.ex s
  have hts := hg.size
  obtain ⟨u, hu⟩ : ∃ u, u = if isHex t then t.extract 2 t.size else t := ⟨_, rfl⟩
  have hus : u.size ≤ t.size := by
    subst hu; split
    · rw [ByteArray.size_extract]; omega
    · exact Nat.le_refl _
  obtain ⟨m, hm⟩ := IsM.some u (em (isHex t)) (eM (isHex t))
  have hsp := zzsplit_any s (zz neg (isHex t) u m) zz_left w (split_any s t u neg m hs hpos hg hu (by omega) hm w v0 v1)
  have HS := hide hsp
  have HG := hide hg
  have HU := hide hu
  have HM := hide hm
  obtain ⟨z, hz⟩ : ∃ z, zz neg (isHex t) u m = z := ⟨_, rfl⟩
  rw [hz] at HS
  have HZ := hide hz
  clear hsp hg hu hm v0 v1 hz
  have hus' : u.size ≤ 1048576 := by omega
  have hts' : t.size ≤ 1048576 := by omega
  clear hus hts
  go_enter Tryd.func3, Tryd.ntmps3
  go_wp2_with fail
  refine (bytes4 s hs w).mono ?_
  rintro e w' ⟨rfl, rfl⟩
  go_wp2_with fail
  refine HS.out.mono ?_
  rintro e w1 ⟨rfl, hb⟩
  have HB := hide hb
  clear hb HS
  unfold zE
  go_upto_region 9 with fail
  go_cut [15] (fun c wr => c = .bool false ∧ wr = w1)
  case first =>
    go_wp2
    go_meet
    case rel => exact ⟨rfl, rfl⟩
  obtain ⟨rfl, rfl⟩ := hcut
  go_step; go_step
  go_cut [14, 15] (fun s0 c wr => s0 = .string t ∧ c = .bool neg ∧ wr = wc)
  case first =>
    have k0 := bt_at s 0 hpos
    have hg := HG.out
    cases hg with
    | minus h =>
      rw [h] at k0
      clear h
      as_aux_lemma =>
        go_wp2
        go_meet
        case rel => exact ⟨rfl, rfl, rfl⟩
    | plus h =>
      rw [h] at k0
      clear h
      as_aux_lemma =>
        go_wp2
        go_meet
        case rel => exact ⟨rfl, rfl, rfl⟩
    | none h1 h2 =>
      obtain ⟨b, hb⟩ : ∃ b, bt s 0 = b := ⟨_, rfl⟩
      rw [hb] at k0 h1 h2
      have e1 : (b == 43) = false := by simpa using h1
      have e2 : (b == 45) = false := by simpa using h2
      clear hb h1 h2
      as_aux_lemma =>
        go_wp2
        go_meet
        case rel => exact ⟨rfl, rfl, rfl⟩
  obtain ⟨rfl, rfl, rfl⟩ := hcut
  go_step; go_step
  go_cut [16] (fun c wr => c = .bool (isHex t) ∧ wr = wc)
  case first =>
    by_cases h1 : 1 < t.size
    · have g1 : decide ((2 : Int) ≤ (t.size : Int)) = true := decide_eq_true (by omega)
      have k0 := bt_at t 0 (by omega)
      have k1 := bt_at t 1 h1
      obtain ⟨p, hp⟩ : ∃ p, bt t 0 = p := ⟨_, rfl⟩
      obtain ⟨q, hq⟩ : ∃ q, bt t 1 = q := ⟨_, rfl⟩
      have hx : isHex t = decide (p = 48 ∧ (q = 120 ∨ q = 88)) := by unfold isHex; rw [hp, hq]; simp [h1]
      rw [hp] at k0
      rw [hq] at k1
      have HX := hide hx
      clear hp hq hx
      by_cases h48 : p = 48
      · subst h48
        by_cases hq1 : q = 120
        · subst hq1
          as_aux_lemma =>
            go_wp2
            go_meet
            case rel => rw [HX.out]; exact ⟨rfl, rfl⟩
        · have e1 : (q == 120) = false := by simpa using hq1
          by_cases hq2 : q = 88
          · subst hq2
            as_aux_lemma =>
              go_wp2
              go_meet
              case rel => rw [HX.out]; exact ⟨rfl, rfl⟩
          · have e2 : (q == 88) = false := by simpa using hq2
            as_aux_lemma =>
              go_wp2
              go_meet
              case rel => rw [HX.out, decide_eq_false (by omega)]; exact ⟨rfl, rfl⟩
      · have e1 : (p == 48) = false := by simpa using h48
        as_aux_lemma =>
          go_wp2
          go_meet
          case rel => rw [HX.out, decide_eq_false (by omega)]; exact ⟨rfl, rfl⟩
    · have g1 : decide ((2 : Int) ≤ (t.size : Int)) = false := decide_eq_false (by omega)
      have HX : Hid (isHex t = false) := by unfold Hid isHex; simp [h1]
      as_aux_lemma =>
        go_wp2
        go_meet
        case rel => rw [HX.out]; exact ⟨rfl, rfl⟩
  obtain ⟨rfl, rfl⟩ := hcut
  obtain ⟨hex, hhex⟩ : ∃ hex, isHex t = hex := ⟨_, rfl⟩
  rw [hhex] at HM HZ HU ⊢
  have HHX := hide hhex
  clear hhex
  as_aux_lemma =>
    go_upto_region 16 with fail
    go_cut [20] (fun c wr => c = .int .i64 1000000 ∧ wr = wc)
    case first =>
      as_aux_lemma =>
        go_wp2
        go_meet
        case rel => exact ⟨rfl, rfl⟩
    obtain ⟨rfl, rfl⟩ := hcut
    go_step; go_step
    go_cut [14, 17, 18, 19, 20] (fun s0 a b c d wr => s0 = .string u ∧ a = .int .u8 (em hex) ∧ b = .int .u8 (eM hex) ∧ c = .int .i64 (un hex) ∧ d = .int .i64 (mx hex) ∧ wr = wc)
    case first =>
      have Hu := HU.out
      cases hex
      · simp only [Bool.false_eq_true, if_false] at Hu
        subst Hu
        as_aux_lemma =>
          go_wp2
          go_meet
          case rel => exact ⟨rfl, rfl, rfl, rfl, rfl, rfl⟩
      · simp only [if_true] at Hu
        subst Hu
        have ht2 : 2 ≤ t.size := by have hx := HHX.out; unfold isHex at hx; have := of_decide_eq_true hx; omega
        as_aux_lemma =>
          go_wp2
          go_meet
          case rel => exact ⟨rfl, rfl, rfl, rfl, rfl, rfl⟩
    obtain ⟨rfl, rfl, rfl, rfl, rfl, rfl⟩ := hcut
    as_aux_lemma =>
      have hml := HM.out.le
      have hds : (u.extract 0 m).size = m := by rw [ByteArray.size_extract]; omega
      have hdz : Hid (zF (u.extract 0 m) (u.extract 0 m).size = zF u m) := by unfold Hid; rw [hds, zF_pre u m hml m (Nat.le_refl _)]
      have hdt : Hid (tzF (u.extract 0 m) (u.extract 0 m).size = tzF u m) := by unfold Hid; rw [hds, tzF_pre u m hml m (Nat.le_refl _)]
      have hdf : Hid (frF (u.extract 0 m) (u.extract 0 m).size = frF u m) := by unfold Hid; rw [hds, frF_pre u m hml m (Nat.le_refl _)]
      have hdl : Hid ((u.extract 0 m).size ≤ 1048576) := by unfold Hid; rw [hds]; omega
      clear hds
      go_wp2_with fail
      refine (index_any u (em hex) (eM hex) m HM.out hus' wc).mono ?_
      rintro e w2 ⟨rfl, rfl⟩
      go_wp2_with fail
      refine (zero_any (u.extract 0 m) hdl.out w2).mono ?_
      rintro e w3 ⟨rfl, rfl⟩
      rw [hdz.out]
      go_wp2_with fail
      refine (tz_any (u.extract 0 m) hdl.out w3).mono ?_
      rintro e w4 ⟨rfl, rfl⟩
      rw [hdt.out]
      go_wp2_with fail
      refine (frac_any (u.extract 0 m) hdl.out w4).mono ?_
      rintro e w5 ⟨rfl, rfl⟩
      rw [hdf.out]
      go_upto_region 27 with fail
      have Hz := HZ.out
      have frl := frF_le u m
      cases hE : ex u m with
      | none =>
        rw [zz_far hE] at Hz
        subst Hz
        have hlt : m < u.size := by
          by_cases h : m < u.size
          · exact h
          · unfold ex at hE; rw [if_neg h] at hE; simp at hE
        have hpd : Hid (pd (u.extract (m + 1) u.size).data.toList = none) := by unfold Hid; unfold ex at hE; rw [if_pos hlt] at hE; exact hE
        have xsz : Hid ((u.extract (m + 1) u.size).size ≤ 1048576) := by unfold Hid; rw [ByteArray.size_extract]; omega
        clear hE
        as_aux_lemma =>
          go_wp2_with fail
          refine (parse_any (u.extract (m + 1) u.size) xsz.out w5).mono ?_
          rintro e w6 ⟨rfl, rfl⟩
          rw [hpd.out]
          unfold pdE
          go_wp2
          go_ret
          exact ⟨rfl, HB.out⟩
      | some v =>
        by_cases hzf : zF u m = true
        · as_aux_lemma =>
            rw [zz_zero hE hzf rfl] at Hz
            subst Hz
            rw [hzf]
            clear hzf
            go_cut [26] (fun c wr => (∃ b : Bool, c = .bool b) ∧ wr = w5)
            case first =>
              cases neg
              · cases hex
                · as_aux_lemma =>
                    go_wp2
                    all_goals (go_meet; case rel => exact ⟨⟨_, rfl⟩, rfl⟩)
                · as_aux_lemma =>
                    go_wp2
                    all_goals (go_meet; case rel => exact ⟨⟨_, rfl⟩, rfl⟩)
              · as_aux_lemma =>
                  go_wp2
                  all_goals (go_meet; case rel => exact ⟨⟨_, rfl⟩, rfl⟩)
            obtain ⟨⟨b26, rfl⟩, rfl⟩ := hcut
            by_cases hlt : m < u.size
            · have hpd : Hid (pd (u.extract (m + 1) u.size).data.toList = some v) := by unfold Hid; unfold ex at hE; rw [if_pos hlt] at hE; exact hE
              have xsz : Hid ((u.extract (m + 1) u.size).size ≤ 1048576) := by unfold Hid; rw [ByteArray.size_extract]; omega
              clear hE
              as_aux_lemma =>
                go_wp2_with fail
                refine (parse_any (u.extract (m + 1) u.size) xsz.out wc).mono ?_
                rintro e w6 ⟨rfl, rfl⟩
                rw [hpd.out]
                unfold pdE
                go_wp2
                go_ret
                exact ⟨rfl, HB.out⟩
            · obtain rfl : v = 0 := by unfold ex at hE; rw [if_neg hlt] at hE; simpa using hE.symm
              clear hE
              as_aux_lemma =>
                go_wp2
                go_ret
                exact ⟨rfl, HB.out⟩
        · have hzf : zF u m = false := by simpa using hzf
          rw [hzf]
          obtain ⟨fr, hfr⟩ : ∃ fr, frF u m = fr := ⟨_, rfl⟩
          obtain ⟨tz, htz⟩ : ∃ tz, tzF u m = tz := ⟨_, rfl⟩
          rw [hfr] at frl
          rw [hfr, htz]
          have hv : -9223372036854775808 ≤ v ∧ v < 9223372036854775808 := by
            unfold ex at hE
            split at hE
            · exact pd_bounds hE
            · simp at hE; omega
          obtain ⟨P, hP⟩ : ∃ P, un hex * (fr : Int) = P := ⟨_, rfl⟩
          have hP0 : 0 ≤ P ∧ P ≤ 4194304 := by subst hP; have := frl; cases hex <;> simp [un] <;> omega
          have hM0 : 1000000 ≤ mx hex ∧ mx hex ≤ 10000000 := by cases hex <;> simp [mx]
          obtain ⟨M, hM⟩ : ∃ M, mx hex = M := ⟨_, rfl⟩
          have HP := hide hP
          have HMM := hide hM
          rw [hM] at hM0 ⊢
          clear hM
          have Hzf := hide hzf
          have Hfr := hide hfr
          have Htz := hide htz
          have HE := hide hE
          clear hzf hfr htz hE
          have wP : wrap64 P = P := by unfold wrap64; omega
          have wM : wrap64 (-M) = -M := by unfold wrap64; omega
          have wL : wrap64 (-M + P) = -M + P := by unfold wrap64; omega
          have wU : wrap64 (M + P) = M + P := by unfold wrap64; omega
          have WL := hide wL
          have WU := hide wU
          have WM := hide wM
          have WP := hide wP
          clear wL wU wM wP
          have par : ∀ (wx : World), m < u.size → Calls Tryd.prog 10 #[.string (u.extract (m + 1) u.size)] wx fun e w' => e = .returned (.tuple #[.int .i64 v, .bool true]) ∧ w' = wx := by
            intro wx hlt
            refine (parse_any (u.extract (m + 1) u.size) (by rw [ByteArray.size_extract]; omega) wx).mono ?_
            rintro e w6 ⟨rfl, rfl⟩
            have hpd : pd (u.extract (m + 1) u.size).data.toList = some v := by have hE := HE.out; unfold ex at hE; rw [if_pos hlt] at hE; exact hE
            rw [hpd]
            exact ⟨rfl, rfl⟩
          have PAR := hide par
          clear par
          have par0 : ¬ m < u.size → v = 0 := by
            intro hlt; have hE := HE.out; unfold ex at hE; rw [if_neg hlt] at hE; simpa using hE.symm
          have PAR0 := hide par0
          clear par0
          by_cases d : v < -M ∨ v - P < -M ∨ M < v - P
          · as_aux_lemma =>
              rw [zz_past HE.out Hzf.out Hfr.out HP.out HMM.out d] at Hz
              subst Hz
              go_cut [26] (fun c wr => c = .bool true ∧ wr = w5)
              case first =>
                as_aux_lemma =>
                  go_wp2
                  go_meet
                  case rel => exact ⟨rfl, rfl⟩
              obtain ⟨rfl, rfl⟩ := hcut
              go_step; go_step
              go_cut [27] (fun c wr => c = .int .i64 0 ∧ wr = wc)
              case first =>
                as_aux_lemma =>
                  go_wp2
                  go_meet
                  case rel => exact ⟨rfl, rfl⟩
              obtain ⟨rfl, rfl⟩ := hcut
              go_step; go_step
              go_cut [27] (fun c wr => c = .int .i64 v ∧ wr = wc)
              case first =>
                by_cases hlt : m < u.size
                · as_aux_lemma =>
                    go_wp2_with fail
                    refine (PAR.out wc hlt).mono ?_
                    rintro e w6 ⟨rfl, rfl⟩
                    go_wp2
                    go_meet
                    case rel => exact ⟨rfl, rfl⟩
                · obtain rfl := PAR0.out hlt
                  as_aux_lemma =>
                    go_wp2
                    go_meet
                    case rel => exact ⟨rfl, rfl⟩
              obtain ⟨rfl, rfl⟩ := hcut
              go_step; go_step
              go_cut [30] (fun c wr => (∃ b : Bool, c = .bool b) ∧ wr = wc)
              case first =>
                cases neg
                · cases hex
                  · as_aux_lemma =>
                      go_wp2
                      all_goals (go_meet; case rel => exact ⟨⟨_, rfl⟩, rfl⟩)
                  · as_aux_lemma =>
                      go_wp2
                      all_goals (go_meet; case rel => exact ⟨⟨_, rfl⟩, rfl⟩)
                · as_aux_lemma =>
                    go_wp2
                    all_goals (go_meet; case rel => exact ⟨⟨_, rfl⟩, rfl⟩)
              obtain ⟨⟨b30, rfl⟩, rfl⟩ := hcut
              have wL := WL.out
              have wU := WU.out
              have wM := WM.out
              have wP := WP.out
              by_cases d1 : v < -M + P
              · as_aux_lemma =>
                  go_wp2
                  go_ret
                  exact ⟨rfl, HB.out⟩
              · have d2 : M + P < v := by omega
                as_aux_lemma =>
                  go_wp2
                  go_ret
                  exact ⟨rfl, HB.out⟩
          · as_aux_lemma =>
              obtain ⟨sc, hsc⟩ : ∃ sc, sc = v - P := ⟨_, rfl⟩
              rw [zz_ok HE.out Hzf.out Hfr.out Htz.out HP.out HMM.out d hsc] at Hz
              have HSC := hide hsc
              clear hsc
              subst Hz
              go_cut [26] (fun c wr => (∃ b : Bool, c = .bool b) ∧ wr = w5)
              case first =>
                cases neg
                · cases hex
                  · cases e0 : (sc == 0)
                    · as_aux_lemma =>
                        go_wp2
                        all_goals (go_meet; case rel => exact ⟨⟨_, rfl⟩, rfl⟩)
                    · as_aux_lemma =>
                        go_wp2
                        all_goals (go_meet; case rel => exact ⟨⟨_, rfl⟩, rfl⟩)
                  · as_aux_lemma =>
                      go_wp2
                      all_goals (go_meet; case rel => exact ⟨⟨_, rfl⟩, rfl⟩)
                · as_aux_lemma =>
                    go_wp2
                    all_goals (go_meet; case rel => exact ⟨⟨_, rfl⟩, rfl⟩)
              obtain ⟨⟨b26, rfl⟩, rfl⟩ := hcut
              go_step; go_step
              go_cut [27] (fun c wr => c = .int .i64 0 ∧ wr = wc)
              case first =>
                as_aux_lemma =>
                  go_wp2
                  go_meet
                  case rel => exact ⟨rfl, rfl⟩
              obtain ⟨rfl, rfl⟩ := hcut
              go_step; go_step
              go_cut [27] (fun c wr => c = .int .i64 v ∧ wr = wc)
              case first =>
                by_cases hlt : m < u.size
                · as_aux_lemma =>
                    go_wp2_with fail
                    refine (PAR.out wc hlt).mono ?_
                    rintro e w6 ⟨rfl, rfl⟩
                    go_wp2
                    go_meet
                    case rel => exact ⟨rfl, rfl⟩
                · obtain rfl := PAR0.out hlt
                  as_aux_lemma =>
                    go_wp2
                    go_meet
                    case rel => exact ⟨rfl, rfl⟩
              obtain ⟨rfl, rfl⟩ := hcut
              go_step; go_step
              go_cut [30] (fun c wr => c = .bool true ∧ wr = wc)
              case first =>
                as_aux_lemma =>
                  go_wp2
                  go_meet
                  case rel => exact ⟨rfl, rfl⟩
              obtain ⟨rfl, rfl⟩ := hcut
              have wL := WL.out
              have wU := WU.out
              have wM := WM.out
              have wP := WP.out
              have wS : wrap64 (v - P) = sc := by rw [HSC.out]; unfold wrap64; omega
              have eS : (sc == v - P) = true := by rw [HSC.out]; simp
              have d1 : ¬ v < -M + P := by omega
              have d2 : ¬ M + P < v := by omega
              clear d
              as_aux_lemma =>
                go_wp2
                go_ret
                exact ⟨rfl, HB.out⟩
end Go.Proofs.Qxb6605524aDoor
