import Derived.Test.Qxb6605524aDoorSp5a
namespace Go.Proofs.Qxb6605524aDoor
open Go.RowKit
set_option linter.unusedVariables false

set_option maxHeartbeats 6000000 in
set_option maxRecDepth 4000 in
theorem split_any (s t u : ByteArray) (neg : Bool) (m : Nat) (hs : s.size ≤ 1048576) (h0 : 0 < s.size) (hg : SG s neg t) (hu : u = if isHex t then t.extract 2 t.size else t) (husz : u.size ≤ 1048576) (hm : IsM u (em (isHex t)) (eM (isHex t)) m) (w : World) (v0 : Var w 0) (v1 : Var w 1) :
    Calls Tryd.prog 11 #[.string s] w fun e w' => SplE w' (zz neg (isHex t) u m) e ∧ Below w.heap.size w w' := by
  have HG := hide hg
  have HU := hide hu
  have HM := hide hm
  have V0 := hide v0
  have V1 := hide v1
  clear hg hu hm v0 v1
  go_enter Tryd.func11, Tryd.ntmps11
  go_upto_region 1 with fail
  go_cut [4] (fun sl wr => sl = .pointer (some ⟨w.heap.size + 1, 0, none⟩) ∧ SW w wr (litC false false ⟨#[]⟩ 0 false 0))
  case first =>
    go_wp2
    go_meet
    case rel => exact ⟨by simp, ((Blk.new w _ _).alloc _), by
      have h := Blk.new (w.alloc (.cells (litC false false ⟨#[]⟩ 0 false 0) 31)) (litC false false ⟨#[]⟩ 0 false 0) 31
      have e : (w.alloc (.cells (litC false false ⟨#[]⟩ 0 false 0) 31)).heap.size = w.heap.size + 1 := by simp
      rw [e] at h
      exact h, ((Below.refl _ _).alloc (Nat.le_refl _) _).alloc (by simp) _⟩
  obtain ⟨rfl, hw0⟩ := hcut
  have HW := hide hw0
  clear hw0
  go_step; go_step
  go_cut [0] (fun s0 wr => s0 = .string t ∧ SW w wr (litC neg false ⟨#[]⟩ 0 false 0))
  case first =>
    have k0 := bt_at s 0 h0
    have f0 := HW.out.lit.free
    have c0 : wc.cell? ⟨w.heap.size + 1, 0, none⟩ = some (.bool false) := HW.out.lit.cell 0
    have hg := HG.out
    cases hg with
    | minus h =>
      rw [h] at k0
      clear h
      go_wp2
      go_meet
      case rel => exact ⟨rfl, HW.out.set 0 (.bool true)⟩
    | plus h =>
      rw [h] at k0
      clear h
      go_wp2
      go_meet
      case rel => exact ⟨rfl, HW.out.set 0 (.bool false)⟩
    | none h1 h2 =>
      obtain ⟨b, hb⟩ : ∃ b, bt s 0 = b := ⟨_, rfl⟩
      rw [hb] at k0 h1 h2
      have e1 : (b == 43) = false := by simpa using h1
      have e2 : (b == 45) = false := by simpa using h2
      clear hb h1 h2
      go_wp2
      go_meet
      case rel => exact ⟨rfl, HW.out⟩
  clear HW
  rename_i wc0 _ _
  obtain ⟨rfl, hw0⟩ := hcut
  have HW := hide hw0
  clear hw0
  go_step; go_step
  go_cut [5, 6, 7] (fun s5 s6 s7 wr => s5 = .int .u8 101 ∧ s6 = .int .i64 1 ∧ s7 = .int .i64 1000000 ∧ wr = wc)
  case first =>
    go_wp2
    go_meet
    case rel => exact ⟨rfl, rfl, rfl, rfl⟩
  obtain ⟨rfl, rfl, rfl, rfl⟩ := hcut
  go_step; go_step
  go_cut [0, 5, 6, 7] (fun s0 s5 s6 s7 wr => s0 = .string u ∧ s5 = .int .u8 (em (isHex t)) ∧ s6 = .int .i64 (un (isHex t)) ∧ s7 = .int .i64 (mx (isHex t)) ∧ SW w wr (litC neg (isHex t) ⟨#[]⟩ 0 false 0))
  case first =>
    have f0 := HW.out.lit.free
    have c0 : wc.cell? ⟨w.heap.size + 1, 1, none⟩ = some (.bool false) := HW.out.lit.cell 1
    go_wp2_with fail
    refine (hex_any t wc).mono ?_
    rintro e w' ⟨rfl, rfl⟩
    cases hx : isHex t
    · rw [hx] at HU
      have Hu := HU.out
      simp only [Bool.false_eq_true, if_false] at Hu
      subst Hu
      have HX := hide hx
      clear hx
      go_wp2
      go_meet
      case rel => rw [HX.out]; exact ⟨rfl, rfl, rfl, rfl, HW.out⟩
    · rw [hx] at HU
      have Hu := HU.out
      simp only [if_true] at Hu
      subst Hu
      have ht2 : 2 ≤ t.size := by unfold isHex at hx; have := of_decide_eq_true hx; omega
      have HX := hide hx
      clear hx
      go_wp2
      go_meet
      case rel => rw [HX.out]; exact ⟨rfl, rfl, rfl, rfl, HW.out.set 1 (.bool true)⟩
  clear HW HU HG
  obtain ⟨rfl, rfl, rfl, rfl, hw0⟩ := hcut
  obtain ⟨hex, hhex⟩ : ∃ hex, isHex t = hex := ⟨_, rfl⟩
  rw [hhex] at HM hw0 ⊢
  have HHX := hide hhex
  have HW := hide hw0
  clear hw0 hhex
  have f0 := HW.out.lit.free
  have c4 : wc.cell? ⟨w.heap.size + 1, 4, none⟩ = some (.bool false) := HW.out.lit.cell 4
  go_wp2
  go_loopw [10, 8, 9] (fun si sa sf wr => ∃ i : Nat, RL w u m neg hex si sa sf wr i) (fun si _ _ _ => m - (intOf si).toNat)
  case atStart => exact ⟨0, by omega, rfl, rfl, rfl, HW.out.set 4 (.bool true)⟩
  case round =>
    clear c4 f0 HW
    obtain ⟨i, hi, rfl, rfl, rfl, hw0⟩ := hrel
    have HW := hide hw0
    clear hw0
    have f0 := HW.out.lit.free
    have hml := HM.out.le
    have frl := frF_le u i
    have tzl := tzF_le u i
    by_cases him : i < m
    · have hlt : i < u.size := by omega
      have k0 := bt_at u i hlt
      have hbl := bt_lo u i
      obtain ⟨b, hb⟩ : ∃ b, bt u i = b := ⟨_, rfl⟩
      have hn := HM.out.no i him
      rw [hb] at k0 hbl hn
      have Hb := hide hb
      have o := ormark hbl hex
      rw [decide_eq_true (by omega)] at o
      clear hb hn
      by_cases h46 : b = 46
      · subst h46
        go_wp2
        go_roundw
        case rel => exact ⟨i + 1, by omega, by go_num, by rw [apF, Hb.out]; rfl, by rw [frF, Hb.out]; rfl, by rw [zF, tzF, Hb.out]; simpa using HW.out⟩
        case measure => simp [intOf]; omega
      · have e1 : (b == 46) = false := by simpa using h46
        have c4 : wr.cell? ⟨w.heap.size + 1, 4, none⟩ = some (.bool (zF u i)) := HW.out.lit.cell 4
        have c5 : wr.cell? ⟨w.heap.size + 1, 5, none⟩ = some (.int .i64 (tzF u i)) := HW.out.lit.cell 5
        obtain ⟨ap, hap⟩ : ∃ ap, apF u i = ap := ⟨_, rfl⟩
        obtain ⟨fr, hfr⟩ : ∃ fr, frF u i = fr := ⟨_, rfl⟩
        obtain ⟨tz, htz⟩ : ∃ tz, tzF u i = tz := ⟨_, rfl⟩
        obtain ⟨z, hz⟩ : ∃ z, zF u i = z := ⟨_, rfl⟩
        rw [hz] at c4 HW
        rw [htz] at c5 HW tzl
        rw [hfr] at frl
        rw [hap, hfr]
        have Hap := hide hap
        have Hfr := hide hfr
        have Htz := hide htz
        have Hz := hide hz
        clear hap hfr htz hz
        have ha' : Hid (apF u (i + 1) = ap) := by unfold Hid; rw [apF, Hb.out, if_neg h46, Hap.out]
        have hf' : Hid (frF u (i + 1) = if ap then fr + 1 else fr) := by unfold Hid; rw [frF, Hb.out, if_neg h46, Hap.out, Hfr.out]
        by_cases h48 : b = 48
        · subst h48
          have hz' : Hid (zF u (i + 1) = z) := by unfold Hid; rw [zF, Hb.out, Hz.out]; simp
          have ht' : Hid (tzF u (i + 1) = tz + 1) := by unfold Hid; rw [tzF, Hb.out, Htz.out]; rfl
          cases ap
          · go_wp2
            go_roundw
            case rel => exact ⟨i + 1, by omega, by go_num, by rw [ha'.out], by rw [hf'.out]; rfl, by rw [hz'.out, ht'.out]; exact HW.out.set 5 (.int .i64 ((tz : Int) + 1))⟩
            case measure => simp [intOf]; omega
          · go_wp2
            go_roundw
            case rel => exact ⟨i + 1, by omega, by go_num, by rw [ha'.out], by rw [hf'.out]; rfl, by rw [hz'.out, ht'.out]; exact HW.out.set 5 (.int .i64 ((tz : Int) + 1))⟩
            case measure => simp [intOf]; omega
        · have e2 : (b == 48) = false := by simpa using h48
          have hz' : Hid (zF u (i + 1) = false) := by unfold Hid; rw [zF, Hb.out]; simp [h46, h48]
          have ht' : Hid (tzF u (i + 1) = 0) := by unfold Hid; rw [tzF, Hb.out, if_neg h46, if_neg h48]
          have f1 := (HW.out.set 5 (.int .i64 0)).lit.free
          have c4' : (wr.setCell ⟨w.heap.size + 1, 5, none⟩ (.int .i64 0)).cell? ⟨w.heap.size + 1, 4, none⟩ = some (.bool z) := (HW.out.set 5 (.int .i64 0)).lit.cell 4
          cases ap
          · go_wp2
            go_roundw
            case rel => exact ⟨i + 1, by omega, by go_num, by rw [ha'.out], by rw [hf'.out]; rfl, by rw [hz'.out, ht'.out]; exact (HW.out.set 5 (.int .i64 0)).set 4 (.bool false)⟩
            case measure => simp [intOf]; omega
          · go_wp2
            go_roundw
            case rel => exact ⟨i + 1, by omega, by go_num, by rw [ha'.out], by rw [hf'.out]; rfl, by rw [hz'.out, ht'.out]; exact (HW.out.set 5 (.int .i64 0)).set 4 (.bool false)⟩
            case measure => simp [intOf]; omega
    · obtain rfl : i = m := by omega
      clear hi him
      obtain ⟨fr, hfr⟩ : ∃ fr, frF u i = fr := ⟨_, rfl⟩
      obtain ⟨tz, htz⟩ : ∃ tz, tzF u i = tz := ⟨_, rfl⟩
      obtain ⟨z, hz⟩ : ∃ z, zF u i = z := ⟨_, rfl⟩
      rw [hz, htz] at HW
      rw [hfr] at frl
      rw [htz] at tzl
      rw [hfr]
      have Hfr := hide hfr
      have Htz := hide htz
      have Hz := hide hz
      clear hfr htz hz
      have f0 := HW.out.lit.free
      have c2 : wr.cell? ⟨w.heap.size + 1, 2, none⟩ = some (.string ⟨#[]⟩) := HW.out.lit.cell 2
      have HW2 := hide (HW.out.set 2 (.string (u.extract 0 i)))
      obtain ⟨wd, hwd⟩ : ∃ wd, wr.setCell ⟨w.heap.size + 1, 2, none⟩ (.string (u.extract 0 i)) = wd := ⟨_, rfl⟩
      rw [hwd] at HW2
      by_cases hlt : i < u.size
      · have k0 := bt_at u i hlt
        have hbl := bt_lo u i
        obtain ⟨b, hb⟩ : ∃ b, bt u i = b := ⟨_, rfl⟩
        have hn := HM.out.at_ hlt
        rw [hb] at k0 hbl hn
        have o := ormark hbl hex
        rw [decide_eq_false (by omega)] at o
        clear hb hn
        have xsz : (u.extract (i + 1) u.size).size ≤ 1048576 := by rw [ByteArray.size_extract]; omega
        have hE : ex u i = pd (u.extract (i + 1) u.size).data.toList := by unfold ex; rw [if_pos hlt]
        have HE := hide hE
        have Xsz := hide xsz
        clear hE xsz
        go_wp2_with fail
        refine (pint (u.extract (i + 1) u.size) Xsz.out wd (V0.out.below HW2.out.bel) (V1.out.below HW2.out.bel)).mono ?_
        rintro e we ⟨hp, hb⟩
        have HW3 := hide (HW2.out.below hb)
        clear hb HW HW2 hwd c2 f0
        cases ho : pd (u.extract (i + 1) u.size).data.toList with
        | none =>
          rw [ho] at hp
          obtain ⟨k, T, a, rfl⟩ := hp
          have HF : Hid (zz neg (isHex t) u i = ⟨false, false, ⟨#[]⟩, 0, false, 0, true, true, false, 0, 0⟩) := zz_far (HE.out.trans ho)
          clear ho
          have f0 := HW3.out.lit.free
          have f1 := HW3.out.res.free
          have b0 : w.heap.size < we.heap.size := HW3.out.res.lt
          have r0 : we.cell? ⟨w.heap.size, 0, none⟩ = some (.bool false) := HW3.out.res.cell 0
          have r1 : we.cell? ⟨w.heap.size, 1, none⟩ = some (.bool false) := HW3.out.res.cell 1
          have r2 : we.cell? ⟨w.heap.size, 2, none⟩ = some (.string ⟨#[]⟩) := HW3.out.res.cell 2
          have r3 : we.cell? ⟨w.heap.size, 3, none⟩ = some (.int .i64 0) := HW3.out.res.cell 3
          have r4 : we.cell? ⟨w.heap.size, 4, none⟩ = some (.bool false) := HW3.out.res.cell 4
          have r5 : we.cell? ⟨w.heap.size, 5, none⟩ = some (.int .i64 0) := HW3.out.res.cell 5
          have q := pastV HW3.out #[.bool true, .bool false, .int .i64 0, .int .i64 0] (.bool false) (.bool false) (.string ⟨#[]⟩) (.int .i64 0) (.bool false) (.int .i64 0)
          have Q := hide q
          clear q
          go_wp2
          refine retS (r := w.heap.size) (neg := false) (hex := false) (d := ⟨#[]⟩) (exp := 0) (zero := false) (tz := 0) rfl rfl rfl ?_ ⟨?_, ?_⟩
          · exact Q.out.1
          · rw [HF.out]
            exact .inr ⟨rfl, _, rfl, Q.out.2.1⟩
          · exact Q.out.2.2
        | some v =>
          rw [ho] at hp
          have hp' : e = .returned (.tuple #[.int .i64 v, .nilIface]) := hp
          subst hp'
          clear hp
          have Hex := hide (HE.out.trans ho)
          have hv := pd_bounds ho
          clear ho
          have f0 := HW3.out.lit.free
          have f1 := HW3.out.res.free
          have b0 : w.heap.size < we.heap.size := HW3.out.res.lt
          have b1 : w.heap.size + 1 < we.heap.size := HW3.out.lit.lt
          have c0 : we.cell? ⟨w.heap.size + 1, 0, none⟩ = some (.bool neg) := HW3.out.lit.cell 0
          have c1 : we.cell? ⟨w.heap.size + 1, 1, none⟩ = some (.bool hex) := HW3.out.lit.cell 1
          have c2 : we.cell? ⟨w.heap.size + 1, 2, none⟩ = some (.string (u.extract 0 i)) := HW3.out.lit.cell 2
          have c3 : we.cell? ⟨w.heap.size + 1, 3, none⟩ = some (.int .i64 0) := HW3.out.lit.cell 3
          have c4 : we.cell? ⟨w.heap.size + 1, 4, none⟩ = some (.bool z) := HW3.out.lit.cell 4
          have c5 : we.cell? ⟨w.heap.size + 1, 5, none⟩ = some (.int .i64 tz) := HW3.out.lit.cell 5
          have r0 : we.cell? ⟨w.heap.size, 0, none⟩ = some (.bool false) := HW3.out.res.cell 0
          have r1 : we.cell? ⟨w.heap.size, 1, none⟩ = some (.bool false) := HW3.out.res.cell 1
          have r2 : we.cell? ⟨w.heap.size, 2, none⟩ = some (.string ⟨#[]⟩) := HW3.out.res.cell 2
          have r3 : we.cell? ⟨w.heap.size, 3, none⟩ = some (.int .i64 0) := HW3.out.res.cell 3
          have r4 : we.cell? ⟨w.heap.size, 4, none⟩ = some (.bool false) := HW3.out.res.cell 4
          have r5 : we.cell? ⟨w.heap.size, 5, none⟩ = some (.int .i64 0) := HW3.out.res.cell 5
          cases z
          · obtain ⟨P, hP⟩ : ∃ P, un hex * (fr : Int) = P := ⟨_, rfl⟩
            have hP0 : 0 ≤ P ∧ P ≤ 4194304 := by subst hP; have := frl; cases hex <;> simp [un] <;> omega
            have hM0 : 1000000 ≤ mx hex ∧ mx hex ≤ 10000000 := by cases hex <;> simp [mx]
            obtain ⟨M, hM⟩ : ∃ M, mx hex = M := ⟨_, rfl⟩
            have HP := hide hP
            have HMM := hide hM
            rw [hM] at hM0 ⊢
            clear hM
            have wM : wrap64 (-M) = -M := by unfold wrap64; omega
            have wS : ¬ v < -M → wrap64 (v - P) = v - P := by intro d1; unfold wrap64; omega
            by_cases d1 : v < -M
            · have HF : Hid (zz neg (isHex t) u i = ⟨false, false, ⟨#[]⟩, 0, false, 0, true, false, hex, v, fr⟩) := by
                rw [HHX.out]
                exact zz_past Hex.out Hz.out Hfr.out HP.out HMM.out (by omega)
              go_wp2
              have q := pastV HW3.out #[.bool false, .bool hex, .int .i64 v, .int .i64 fr] (.bool false) (.bool false) (.string ⟨#[]⟩) (.int .i64 0) (.bool false) (.int .i64 0)
              have Q := hide q
              clear q
              go_region
              go_wp2
              refine retS (r := w.heap.size) (neg := false) (hex := false) (d := ⟨#[]⟩) (exp := 0) (zero := false) (tz := 0) rfl rfl rfl ?_ ⟨?_, ?_⟩
              · exact Q.out.1
              · rw [HF.out]
                exact .inr ⟨rfl, _, rfl, Q.out.2.1⟩
              · first | exact Q.out.2.2.drew | exact below_drewN Q.out.2.2 _ | exact Q.out.2.2
            have wS := wS d1
            by_cases d2 : v - P < -M
            · have HF : Hid (zz neg (isHex t) u i = ⟨false, false, ⟨#[]⟩, 0, false, 0, true, false, hex, v, fr⟩) := by
                rw [HHX.out]
                exact zz_past Hex.out Hz.out Hfr.out HP.out HMM.out (by omega)
              go_wp2
              have q := pastV HW3.out #[.bool false, .bool hex, .int .i64 v, .int .i64 fr] (.bool false) (.bool false) (.string ⟨#[]⟩) (.int .i64 0) (.bool false) (.int .i64 0)
              have Q := hide q
              clear q
              go_region
              go_wp2
              refine retS (r := w.heap.size) (neg := false) (hex := false) (d := ⟨#[]⟩) (exp := 0) (zero := false) (tz := 0) rfl rfl rfl ?_ ⟨?_, ?_⟩
              · exact Q.out.1
              · rw [HF.out]
                exact .inr ⟨rfl, _, rfl, Q.out.2.1⟩
              · first | exact Q.out.2.2.drew | exact below_drewN Q.out.2.2 _ | exact Q.out.2.2
            by_cases d3 : M < v - P
            · have HF : Hid (zz neg (isHex t) u i = ⟨false, false, ⟨#[]⟩, 0, false, 0, true, false, hex, v, fr⟩) := by
                rw [HHX.out]
                exact zz_past Hex.out Hz.out Hfr.out HP.out HMM.out (by omega)
              go_wp2
              have q := pastV HW3.out #[.bool false, .bool hex, .int .i64 v, .int .i64 fr] (.bool false) (.bool false) (.string ⟨#[]⟩) (.int .i64 0) (.bool false) (.int .i64 0)
              have Q := hide q
              clear q
              go_region
              go_wp2
              refine retS (r := w.heap.size) (neg := false) (hex := false) (d := ⟨#[]⟩) (exp := 0) (zero := false) (tz := 0) rfl rfl rfl ?_ ⟨?_, ?_⟩
              · exact Q.out.1
              · rw [HF.out]
                exact .inr ⟨rfl, _, rfl, Q.out.2.1⟩
              · first | exact Q.out.2.2.drew | exact below_drewN Q.out.2.2 _ | exact Q.out.2.2
            have HF : Hid (zz neg (isHex t) u i = ⟨neg, hex, u.extract 0 i, v - P, false, tz, false, false, false, 0, 0⟩) := by
              rw [HHX.out]
              exact zz_ok Hex.out Hz.out Hfr.out Htz.out HP.out HMM.out (by omega) (by omega)
            go_wp2
            refine retS (r := w.heap.size) (neg := neg) (hex := hex) (d := u.extract 0 i) (exp := v - P) (zero := false) (tz := tz) rfl rfl rfl ?_ ⟨?_, ?_⟩
            · exact ((((((HW3.out.set 3 _).res.set 0 _).set 1 _).set 2 _).set 3 _).set 4 _).set 5 _
            · rw [HF.out]
              exact .inl ⟨rfl, rfl⟩
            · exact ((((((HW3.out.set 3 _).bel.setCell (Nat.le_refl _) _).setCell (Nat.le_refl _) _).setCell (Nat.le_refl _) _).setCell (Nat.le_refl _) _).setCell (Nat.le_refl _) _).setCell (Nat.le_refl _) _
          · have HF : Hid (zz neg (isHex t) u i = ⟨neg, hex, u.extract 0 i, 0, true, tz, false, false, false, 0, 0⟩) := by
              rw [HHX.out]
              exact zz_zero Hex.out Hz.out Htz.out
            go_wp2
            refine retS (r := w.heap.size) (neg := neg) (hex := hex) (d := u.extract 0 i) (exp := 0) (zero := true) (tz := tz) rfl rfl rfl ?_ ⟨?_, ?_⟩
            · exact (((((HW3.out.res.set 0 _).set 1 _).set 2 _).set 3 _).set 4 _).set 5 _
            · rw [HF.out]
              exact .inl ⟨rfl, rfl⟩
            · exact (((((HW3.out.bel.setCell (Nat.le_refl _) _).setCell (Nat.le_refl _) _).setCell (Nat.le_refl _) _).setCell (Nat.le_refl _) _).setCell (Nat.le_refl _) _).setCell (Nat.le_refl _) _
      · have Hex : Hid (ex u i = some 0) := by unfold Hid ex; rw [if_neg hlt]
        have e1 : decide ((i : Int) < (u.size : Int)) = false := decide_eq_false (by omega)
        have f0 := HW2.out.lit.free
        have f1 := HW2.out.res.free
        have b0 : w.heap.size < wd.heap.size := HW2.out.res.lt
        have b1 : w.heap.size + 1 < wd.heap.size := HW2.out.lit.lt
        have c0 : wd.cell? ⟨w.heap.size + 1, 0, none⟩ = some (.bool neg) := HW2.out.lit.cell 0
        have c1 : wd.cell? ⟨w.heap.size + 1, 1, none⟩ = some (.bool hex) := HW2.out.lit.cell 1
        have c2 : wd.cell? ⟨w.heap.size + 1, 2, none⟩ = some (.string (u.extract 0 i)) := HW2.out.lit.cell 2
        have c3 : wd.cell? ⟨w.heap.size + 1, 3, none⟩ = some (.int .i64 0) := HW2.out.lit.cell 3
        have c4 : wd.cell? ⟨w.heap.size + 1, 4, none⟩ = some (.bool z) := HW2.out.lit.cell 4
        have c5 : wd.cell? ⟨w.heap.size + 1, 5, none⟩ = some (.int .i64 tz) := HW2.out.lit.cell 5
        have r0 : wd.cell? ⟨w.heap.size, 0, none⟩ = some (.bool false) := HW2.out.res.cell 0
        have r1 : wd.cell? ⟨w.heap.size, 1, none⟩ = some (.bool false) := HW2.out.res.cell 1
        have r2 : wd.cell? ⟨w.heap.size, 2, none⟩ = some (.string ⟨#[]⟩) := HW2.out.res.cell 2
        have r3 : wd.cell? ⟨w.heap.size, 3, none⟩ = some (.int .i64 0) := HW2.out.res.cell 3
        have r4 : wd.cell? ⟨w.heap.size, 4, none⟩ = some (.bool false) := HW2.out.res.cell 4
        have r5 : wd.cell? ⟨w.heap.size, 5, none⟩ = some (.int .i64 0) := HW2.out.res.cell 5
        cases z
        · obtain ⟨P, hP⟩ : ∃ P, un hex * (fr : Int) = P := ⟨_, rfl⟩
          have hP0 : 0 ≤ P ∧ P ≤ 4194304 := by subst hP; have := frl; cases hex <;> simp [un] <;> omega
          have hM0 : 1000000 ≤ mx hex ∧ mx hex ≤ 10000000 := by cases hex <;> simp [mx]
          obtain ⟨M, hM⟩ : ∃ M, mx hex = M := ⟨_, rfl⟩
          have HP := hide hP
          have HMM := hide hM
          rw [hM] at hM0 ⊢
          clear hM
          have wM : wrap64 (-M) = -M := by unfold wrap64; omega
          have wS : ¬ 0 < -M → wrap64 (0 - P) = 0 - P := by intro d1; unfold wrap64; omega
          by_cases d1 : 0 < -M
          · omega
          have wS := wS d1
          by_cases d2 : 0 - P < -M
          · have HF : Hid (zz neg (isHex t) u i = ⟨false, false, ⟨#[]⟩, 0, false, 0, true, false, hex, 0, fr⟩) := by
              rw [HHX.out]
              exact zz_past Hex.out Hz.out Hfr.out HP.out HMM.out (by omega)
            go_wp2
            have q := pastV HW2.out #[.bool false, .bool hex, .int .i64 0, .int .i64 fr] (.bool false) (.bool false) (.string ⟨#[]⟩) (.int .i64 0) (.bool false) (.int .i64 0)
            have Q := hide q
            clear q
            go_region
            go_wp2
            refine retS (r := w.heap.size) (neg := false) (hex := false) (d := ⟨#[]⟩) (exp := 0) (zero := false) (tz := 0) rfl rfl rfl ?_ ⟨?_, ?_⟩
            · exact Q.out.1
            · rw [HF.out]
              exact .inr ⟨rfl, _, rfl, Q.out.2.1⟩
            · first | exact Q.out.2.2.drew | exact below_drewN Q.out.2.2 _ | exact Q.out.2.2
          by_cases d3 : M < 0 - P
          · omega
          have HF : Hid (zz neg (isHex t) u i = ⟨neg, hex, u.extract 0 i, -P, false, tz, false, false, false, 0, 0⟩) := by
            rw [HHX.out]
            exact zz_ok Hex.out Hz.out Hfr.out Htz.out HP.out HMM.out (by omega) (by omega)
          go_wp2
          refine retS (r := w.heap.size) (neg := neg) (hex := hex) (d := u.extract 0 i) (exp := -P) (zero := false) (tz := tz) rfl rfl rfl ?_ ⟨?_, ?_⟩
          · exact ((((((HW2.out.set 3 _).res.set 0 _).set 1 _).set 2 _).set 3 _).set 4 _).set 5 _
          · rw [HF.out]
            exact .inl ⟨rfl, rfl⟩
          · exact ((((((HW2.out.set 3 _).bel.setCell (Nat.le_refl _) _).setCell (Nat.le_refl _) _).setCell (Nat.le_refl _) _).setCell (Nat.le_refl _) _).setCell (Nat.le_refl _) _).setCell (Nat.le_refl _) _
        · have HF : Hid (zz neg (isHex t) u i = ⟨neg, hex, u.extract 0 i, 0, true, tz, false, false, false, 0, 0⟩) := by
            rw [HHX.out]
            exact zz_zero Hex.out Hz.out Htz.out
          go_wp2
          refine retS (r := w.heap.size) (neg := neg) (hex := hex) (d := u.extract 0 i) (exp := 0) (zero := true) (tz := tz) rfl rfl rfl ?_ ⟨?_, ?_⟩
          · exact (((((HW2.out.res.set 0 _).set 1 _).set 2 _).set 3 _).set 4 _).set 5 _
          · rw [HF.out]
            exact .inl ⟨rfl, rfl⟩
          · exact (((((HW2.out.bel.setCell (Nat.le_refl _) _).setCell (Nat.le_refl _) _).setCell (Nat.le_refl _) _).setCell (Nat.le_refl _) _).setCell (Nat.le_refl _) _).setCell (Nat.le_refl _) _
end Go.Proofs.Qxb6605524aDoor
