import Derived.Test.Qxb6605516aPlanM1
import Derived.Test.Qxb6605516aPlanM2
import Derived.Test.Qxb6605516aPlanM3
import Derived.Test.Qxb6605516aPlanM4
import Derived.Test.Qxb6605516aPlanM9
import Derived.Test.Qxb6605516aPlanM8
import Derived.Test.Qxb6605516aPlanM7
import Derived.Test.Qxb6605516aPlanM6
import Derived.Test.Qxb6605516aPlanM5
namespace Go.Proofs.Qxb6605516a
open Go.RowKit
set_option linter.unusedVariables false

set_option maxRecDepth 100000 in
set_option maxHeartbeats 8000000 in
theorem planlaw3 (hNP : NPC) (a0 : Option Addr) (n c0 : Nat) (a1 : Option Addr) (nt c1 : Nat) (a2 : Option Addr) (ni c2 : Nat) (l : ByteArray) (v : Int) (K T X : Nat → Int) (S1 S2 : Nat → ByteArray) (w : World)
    (h0 : SlA w a0 n 3 (opCell K T X)) (h1 : SlA w a1 nt 1 (fun i => .string (S1 i))) (h2 : SlA w a2 ni 1 (fun i => .string (S2 i))) (z0 : a0 = none → n = 0) (z1 : a1 = none → nt = 0) (z2 : a2 = none → ni = 0)
    (hT : ∀ i, -2147483648 ≤ T i ∧ T i ≤ 2147483647) (hX : ∀ i, -2147483648 ≤ X i ∧ X i ≤ 2147483647) :
    Calls Try.prog 3 #[.slice a0 n c0, .slice a1 nt c1, .slice a2 ni c2, .string l, .int .u8 v] w fun e w' => e = .returned (.bool true) ∧ Below w.heap.size w w' := by
  have H0 := hide h0
  have H1 := hide h1
  have H2 := hide h2
  have Z0 := hide z0
  have Z1 := hide z1
  have Z2 := hide z2
  have HT := hide hT
  have HX := hide hX
  have HNP := hide hNP
  clear h0 h1 h2 z0 z1 z2 hT hX hNP
  go_enter Try.func3, Try.ntmps3
  go_wp2_with fail
  refine (zzbytes9 a0 n c0 a1 nt c1 a2 ni c2 l v S1 S2 w H1.out H2.out).mono ?_
  rintro e w' ⟨⟨b9, rfl⟩, rfl⟩
  cases b9
  · as_aux_lemma =>
      go_wp2
      go_ret
      exact ⟨rfl, Below.refl _ _⟩
  go_wp2_with fail
  refine (planbytes_any a0 n c0 a1 nt c1 a2 ni c2 l S1 S2 w' H1.out H2.out).mono ?_
  rintro e w ⟨⟨z9, rfl⟩, rfl⟩
  by_cases hz : 1048576 < z9
  · as_aux_lemma =>
      go_wp2
      go_ret
      exact ⟨rfl, Below.refl _ _⟩
  by_cases hn : 4096 < n
  · as_aux_lemma =>
      go_wp2
      go_ret
      exact ⟨rfl, Below.refl _ _⟩
  by_cases hnt : 4096 < nt
  · as_aux_lemma =>
      go_wp2
      go_ret
      exact ⟨rfl, Below.refl _ _⟩
  by_cases hni : 4096 < ni
  · as_aux_lemma =>
      go_wp2
      go_ret
      exact ⟨rfl, Below.refl _ _⟩
  have hn : n ≤ 4096 := by omega
  have hnt : nt ≤ 4096 := by omega
  have hni : ni ≤ 4096 := by omega
  as_aux_lemma =>
    go_wp2_with fail
    refine (plandomain_any a0 n c0 nt ni v K T X w hn HT.out HX.out H0.out).mono ?_
    rintro e w1 ⟨hD, hb1⟩
    rcases hD with rfl | ⟨rfl, hD⟩
    · as_aux_lemma =>
        go_wp2
        go_ret
        exact ⟨rfl, hb1⟩
    have HD := hide hD
    have HB1 := hide hb1
    clear hD hb1 hz
    go_wp2_with fail
    refine (cloneops_c a0 n c0 K T X hn w1 Z0.out (H0.out.below HB1.out)).mono ?_
    rintro e w2 ⟨oa, oc, rfl, zo, ho, hb2⟩
    have HO := hide ho
    have ZO := hide zo
    have HB2 := hide (HB1.out.trans (hb2.mono HB1.out.size))
    clear ho zo hb2
    go_wp2_with fail
    refine (clonestrs_c a1 nt c1 S1 hnt w2 Z1.out (H1.out.below HB2.out)).mono ?_
    rintro e w3 ⟨ta, tc, S1', rfl, zt, ht, hb3⟩
    have HTx := hide ht
    have ZT := hide zt
    have HO3 := hide (HO.out.below hb3)
    have HB3 := hide (HB2.out.trans (hb3.mono HB2.out.size))
    clear ht zt hb3 HO
    go_wp2_with fail
    refine (clonestrs_c a2 ni c2 S2 hni w3 Z2.out (H2.out.below HB3.out)).mono ?_
    rintro e w4 ⟨ia, ic, S2', rfl, zi, hi, hb4⟩
    have HT4 := hide (HTx.out.below hb4)
    have HO4 := hide (HO3.out.below hb4)
    have HB4 := hide (HB3.out.trans (hb4.mono HB3.out.size))
    clear hi zi hb4 HO3 HTx
    go_wp2_with fail
    refine (planhist_any oa n oc ta nt tc ia ni ic l K T X S1' hn hnt w4 ZO.out ZT.out HO4.out HT4.out).mono ?_
    rintro e w5 ⟨ha, hc, tb, td, rfl, hh, hb5⟩
    have HH := hide hh
    have HO5 := hide (HO4.out.below hb5)
    have HB5 := hide (HB4.out.trans (hb5.mono HB4.out.size))
    clear hh hb5 HO4 HT4
    go_wp2_with fail
    have hHist : Hist (w5.alloc (.cells #[.slice ha n hc, .slice tb nt td, .slice ia ni ic, .string l] 32)) w5.heap.size n nt ni K T X ha hc tb td ia ic l := ⟨Blk.new _ _ _, HH.out.below ((Below.refl _ _).alloc (Nat.le_refl _) _)⟩
    have HO5a := hide (HO5.out.below ((Below.refl w5.heap.size w5).alloc (Nat.le_refl _) (.cells #[.slice ha n hc, .slice tb nt td, .slice ia ni ic, .string l] 32)))
    have HB5a := hide (HB5.out.alloc HB5.out.size (.cells #[.slice ha n hc, .slice tb nt td, .slice ia ni ic, .string l] 32))
    refine (zznewplan_any w5.heap.size n nt K T X v _ hn (HNP.out _ n nt ni K T X ha hc tb td ia ic l v _ hn hnt hni HD.out hHist)).mono ?_
    rintro e w6 ⟨M, A, N, CI, CM, CF, len, hZ⟩
    have HAI := hide hZ.ai
    have HMI := hide hZ.mi
    have HCI := hide hZ.ci
    have HO6 := hide (HO5a.out.below hZ.bel)
    have HB6 := hide (HB5a.out.trans (hZ.bel.mono HB5a.out.size))
    obtain ⟨bm, af, nx, bi, bc, cf, rfl, hbm, haf, hnx, hcl⟩ := hZ.at_
    have HBM := hide hbm
    have HAF := hide haf
    have HNX := hide hnx
    have HCL := hide hcl
    clear hZ hbm haf hnx hcl hHist HO5a HB5a HO5 HB5 HH HB4 HB3 HB2 HB1 HNP
    go_wp2_with fail
    refine (runfirst_any oa n oc nt ni K T X v w6 hn hnt HD.out HO6.out).mono ?_
    rintro e w7 ⟨G, ⟨bg, rfl, _, hbg⟩, hb7, hg⟩
    have HS : Hid (S3 w w7 v n nt K T X M A N CI CM CF G len oa bm af nx bi bc cf bg) :=
      ⟨HO6.out.below hb7, HBM.out.below hb7 HBM.out.lt, HAF.out.below hb7 HAF.out.lt, HNX.out.below hb7 HNX.out.lt, fun e => ⟨(HCL.out e).1.below hb7 (HCL.out e).1.lt, (HCL.out e).2.1.below hb7 (HCL.out e).2.1.lt, (HCL.out e).2.2.below hb7 (HCL.out e).2.2.lt⟩, hbg, HB6.out.trans (hb7.mono HB6.out.size)⟩
    have HG := hide hg
    clear hbg hb7 hg HO6 HBM HAF HNX HCL HB6
    as_aux_lemma =>
      have hmk8 := make_u8 n hn
      have hmk32 := make_i32 n (by omega)
      go_wp2
      clear hmk32
      have HQ1 : Hid (Q1 w7 n w7.heap.size (w7.heap.size + 1) K T X (.int .i64 0) ((w7.alloc (.cells (madeCells #[.int .u8 0] n) 5)).alloc (.cells (madeCells #[.int .i32 0] n) 21)) 0 (fun _ => 0) (fun _ => 0)) := by
        refine ⟨by omega, rfl, (Blk.made w7 .u8 n 5).alloc _, ?_, (MInv.start (fun _ => rfl)).congr fun g _ => ⟨False.elim, fun h => by omega⟩, fun f _ q h => by omega, ((Below.refl _ _).alloc (Nat.le_refl _) _).alloc (by simp) _⟩
        have q := Blk.made (w7.alloc (.cells (madeCells #[.int .u8 0] n) 5)) .i32 n 21
        rw [alloc_size] at q
        exact q
      refine l3_1 (st := w7.heap.size) (la := w7.heap.size + 1) hn HS.out HG.out (Nat.le_refl _) (by omega) (by omega) HQ1.out ?_
      intros
      rename_i ST LA w8 hq
      have HST := hide hq.mi
      have HLA := hide hq.la
      have HBST := hide hq.bst
      have HBLA := hide hq.bla
      have HS8 := hide (HS.out.below hq.bel)
      clear hq HQ1 HS
      go_step
      go_wp2_with fail
      refine (filledI32_any nt (by omega) w8).mono ?_
      rintro e w9 hN
      have HBLP := hide hN.blk
      have HS9 := hide (HS8.out.below hN.bel)
      have HBST9 := hide (HBST.out.below hN.bel HBST.out.lt)
      have HBLA9 := hide (HBLA.out.below hN.bel HBLA.out.lt)
      have HB9 := hide hN.bel
      obtain rfl := hN.ret
      clear hN
      have HBST8 := HBST
      have HBLA8 := HBLA
      clear HBST HBLA
      by_cases hv : v = 3
      · have ev : (v != 3) = false := by simp [hv]
        have HV := hide hv
        clear hv
        have HLP : Hid (LpAll K T X n nt v (fun _ => -1)) := lpAll_3 HV.out
        have HSX := HS9
        have HBSTX := HBST9
        have HBLAX := HBLA9
        have HBLPX : Hid (Blk w9 w8.heap.size (irow .i32 nt (fun _ => -1)) 21) := HBLP.out
        clear HBLP HS9 HBST9 HBLA9 HB9 HS8
        go_wp2_with fail
        refine (filledI32_any n (by omega) _).mono ?_
        rintro e wa hA
        have HA := hide hA
        obtain rfl := hA.ret
        clear hA
        go_wp2_with fail
        refine (filledI32_any n (by omega) _).mono ?_
        rintro e wb hB
        have HB := hide hB
        obtain rfl := hB.ret
        clear hB
        go_wp2_with fail
        refine (filledI32_any n (by omega) _).mono ?_
        rintro e wd hC
        have HC := hide hC
        obtain rfl := hC.ret
        clear hC
        go_wp2
        have sA : wa.heap.size = w9.heap.size + 1 + 1 := by rw [HA.out.size, alloc_size]
        have sB : wb.heap.size = w9.heap.size + 1 + 1 + 1 := by rw [HB.out.size, sA]
        have HQ3 : Hid (Q3 w9 n w9.heap.size (w9.heap.size + 1) wa.heap.size wb.heap.size K T X v ST (.int .i64 0) wd 0 (fun _ => 0) (fun _ => -1) (fun _ => -1) (fun _ => -1)) := by
          have eA := HA.out.blk
          rw [alloc_size] at eA
          refine ⟨by omega, rfl, ?_, ?_, ?_, HC.out.blk, E3.start, ?_⟩
          · exact (((Blk.made w9 .u8 n 5).below HA.out.bel (by rw [alloc_size]; omega)).below HB.out.bel (by omega)).below HC.out.bel (by omega)
          · exact (eA.below HB.out.bel (by omega)).below HC.out.bel (by omega)
          · exact HB.out.blk.below HC.out.bel (by omega)
          · exact ((((Below.refl w9.heap.size w9).alloc (Nat.le_refl _) _).trans (HA.out.bel.mono (by rw [alloc_size]; omega))).trans (HB.out.bel.mono (by omega))).trans (HC.out.bel.mono (by omega))
        refine l3_3 (w0 := w9) (st := w7.heap.size) (la := w7.heap.size + 1) (lb := w8.heap.size) (em := w9.heap.size) (ea := w9.heap.size + 1) (en := wa.heap.size) (ta := wb.heap.size) hn HSX.out HG.out HD.out HBSTX.out HBLAX.out HBLPX.out HST.out HLA.out HLP.out (Nat.le_refl _) (by omega) (by omega) (by omega) (by omega) (by omega) (by omega) (by omega) (by omega) (by omega) HQ3.out ?_
        intros
        rename_i EM EA EN TA wE hq
        have hsame := fun i hi => hq.e.same HST.out HMI.out HAI.out i hi
        have HEM : Hid (Blk wE w9.heap.size (irow .u8 n M) 5) := by
          have h := hq.bm
          rw [irow_congr .u8 n EM M (fun i hi => (hsame i hi).1)] at h
          exact h
        have HEA : Hid (Blk wE (w9.heap.size + 1) (irow .i32 n A) 21) := by
          have h := hq.ba
          rw [irow_congr .i32 n EA A (fun i hi => (hsame i hi).2.1)] at h
          exact h
        have HEN : Hid (Blk wE wa.heap.size (irow .i32 n N) 21) := by
          have h := hq.bn
          rw [irow_congr .i32 n EN N (fun i hi => (hsame i hi).2.2)] at h
          exact h
        have HSE := hide (HSX.out.below hq.bel)
        have HBSTE := hide (HBSTX.out.below hq.bel HBSTX.out.lt)
        clear hq hsame HQ3 HA HB HC sA sB HBLAX HBLPX HSX HBSTX
        go_step
        go_wp2
        refine l3_4 (w0 := wE) (oc := 0) (em := w9.heap.size) (ea := w9.heap.size + 1) (en := wa.heap.size) hn HSE.out HG.out HEM.out HEA.out HEN.out ⟨by omega, rfl, Below.refl _ _⟩ ?_
        intros
        rename_i wF hq
        have HSF := hide (HSE.out.below hq.bel)
        have HBSTF := hide (HBSTE.out.below hq.bel HBSTE.out.lt)
        clear hq HSE HBSTE HEM HEA HEN
        go_step
        have v1 : ciV v bi len = .slice (some ⟨bi, 0, none⟩) len len := if_pos HV.out
        have v2 : ciV v bc len = .slice (some ⟨bc, 0, none⟩) len len := if_pos HV.out
        have v3 : cfV v cf nt = .slice (some ⟨cf, 0, none⟩) (nt + 1) (nt + 1) := if_pos HV.out
        have n35 := fun w => Lib.run_eql_slice_nil (P := Try.prog) w 35 21 (some ⟨bi, 0, none⟩) len len 0 0 Try.underlying35
        have hcf : ∀ w : World, (Instr.makeSlice 35 (.int .i64 ((nt : Int) + 1)) (.int .i64 ((nt : Int) + 1))).run Try.prog w = .ok (.slice (some ⟨w.heap.size, 0, none⟩) (nt + 1) (nt + 1)) (w.alloc (.cells (madeCells #[.int .i32 0] (nt + 1)) 21)) := fun w => make_i32 (nt + 1) (by omega) w
        have hcu := make_i32 nt (by omega)
        rw [v1, v2, v3]
        clear v1 v2 v3
        go_wp2
        clear hcf n35
        have HQ5 : Hid (Q5 wF n nt wF.heap.size K T X (.int .i64 0) (wF.alloc (.cells (madeCells #[.int .i32 0] (nt + 1)) 21)) 0 (fun _ => 0)) := ⟨by omega, rfl, Blk.made _ _ _ _, Fr1.start, (Below.refl _ _).alloc (Nat.le_refl _) _⟩
        refine l3_5 (w0 := wF) (fr := wF.heap.size) hn HSF.out HG.out hnt (Nat.le_refl _) HD.out HQ5.out ?_
        intros
        rename_i FR1 wG hq
        have hT0 : ∀ g, Run K T n g → 0 ≤ T g := fun g hg => (HD.out.rw g hg.1 hg.2.1).1
        have HQ6 : Hid (Q6 wF n nt wF.heap.size K T X (.int .i64 0) wG 0 FR1) := ⟨by omega, rfl, hq.b, hq.f1.two hT0, hq.bel⟩
        clear hq HQ5 hT0
        go_step
        go_wp2
        refine l3_6 (w0 := wF) (oc := 0) (fr := wF.heap.size) hn HSF.out HG.out hnt (Nat.le_refl _) HQ6.out ?_
        intros
        rename_i FR2 wI hq
        have hci := HCI.out HV.out
        have hfr : ∀ j, j < nt + 1 → FR2 j = CF j := fun j hj => by rw [hq.f2.1 j (by omega), hci.2 j (by omega)]
        have HFR : Hid (Blk wI wF.heap.size (irow .i32 (nt + 1) CF) 21) := by
          have h := hq.b
          rw [irow_congr .i32 (nt + 1) FR2 CF hfr] at h
          exact h
        have HSI := hide (HSF.out.below hq.bel)
        have HBSTI := hide (HBSTF.out.below hq.bel HBSTF.out.lt)
        clear hq hfr HQ6 HSF HBSTF hci
        go_step
        go_wp2
        refine l3_7 (w0 := wI) (oc := 0) (fr := wF.heap.size) hn HSI.out HG.out HV.out hnt HFR.out ⟨by omega, rfl, Below.refl _ _⟩ ?_
        intros
        rename_i wJ hq
        have HSJ := hide (HSI.out.below hq.bel)
        have HBSTJ := hide (HBSTI.out.below hq.bel HBSTI.out.lt)
        have HFRJ := hide (HFR.out.below hq.bel HFR.out.lt)
        clear hq HSI HBSTI HFR
        have hci := HCI.out HV.out
        have hlen : CF nt = (len : Int) := by
          rw [hci.2 nt (Nat.le_refl _), hci.1.len]
          congr 1
          exact cnt_congr fun g _ => ⟨fun h => ⟨h.1, h.1.1⟩, fun h => ⟨h.1, (HD.out.rw g h.2.1 h.2.2.1).2.1⟩⟩
        have hln : len ≤ 4096 := by rw [hci.1.len]; exact Nat.le_trans (cnt_le _ _) hn
        have f1 := HFRJ.out.rcell nt (by omega)
        rw [hlen] at f1
        have HLen := hide hlen
        clear hlen hci
        go_step
        go_wp2
        clear f1 hcu
        have HQ8 : Hid (Q8 wJ nt wJ.heap.size CF (.int .i64 0) (wJ.alloc (.cells (madeCells #[.int .i32 0] nt) 21)) 0 (fun _ => 0)) := ⟨by omega, rfl, Blk.made _ _ _ _, fun j h => by omega, (Below.refl _ _).alloc (Nat.le_refl _) _⟩
        refine l3_8 (w0 := wJ) (oc := 0) (fr := wF.heap.size) (cu := wJ.heap.size) hn HSJ.out HG.out hnt (Nat.le_refl _) HFRJ.out HQ8.out ?_
        intros
        rename_i CU wK hq
        have HQ9 : Hid (Q9 wJ n nt wJ.heap.size K T X (.int .i64 0) wK 0 CU) := ⟨by omega, rfl, hq.b, CuInv.start fun t ht => by rw [hq.c t ht, (HCI.out HV.out).2 t (by omega)], hq.bel⟩
        clear hq HQ8
        go_step
        go_wp2
        refine l3_9 (w0 := wJ) (cu := wJ.heap.size) (st := w7.heap.size) hn HSJ.out HG.out HV.out (Nat.le_refl _) HD.out HBSTJ.out HST.out (HCI.out HV.out).1 HQ9.out ?_
        intros
        rename_i CU2 wL hq
        have HBL := hide (HSJ.out.bel.trans (hq.bel.mono HSJ.out.bel.size))
        clear hq HQ9
        as_aux_lemma =>
          go_step
          go_wp2
          go_ret
          exact ⟨rfl, HBL.out⟩
      · have ev : (v != 3) = true := by simpa using hv
        have HV := hide hv
        clear hv
        go_wp2
        have HQ2 : Hid (Q2 w8 n nt w8.heap.size K T X (.int .i64 0) w9 0 (fun _ => -1)) := ⟨by omega, rfl, HBLP.out, LpInv.start, HB9.out⟩
        refine l3_2 (lb := w8.heap.size) hn HS8.out HG.out (Nat.le_refl _) HD.out HQ2.out ?_
        intros
        rename_i LP wX hq
        have HLP := hide (hq.lp.all HV.out)
        have HBLPX := hide hq.b
        have HSX := hide (HS8.out.below hq.bel)
        have HBSTX := hide (HBST8.out.below hq.bel HBST8.out.lt)
        have HBLAX := hide (HBLA8.out.below hq.bel HBLA8.out.lt)
        clear hq HQ2 HBLP HS9 HBST9 HBLA9 HB9 HS8
        go_step
        go_wp2_with fail
        refine (filledI32_any n (by omega) _).mono ?_
        rintro e wa hA
        have HA := hide hA
        obtain rfl := hA.ret
        clear hA
        go_wp2_with fail
        refine (filledI32_any n (by omega) _).mono ?_
        rintro e wb hB
        have HB := hide hB
        obtain rfl := hB.ret
        clear hB
        go_wp2_with fail
        refine (filledI32_any n (by omega) _).mono ?_
        rintro e wd hC
        have HC := hide hC
        obtain rfl := hC.ret
        clear hC
        go_wp2
        have sA : wa.heap.size = wX.heap.size + 1 + 1 := by rw [HA.out.size, alloc_size]
        have sB : wb.heap.size = wX.heap.size + 1 + 1 + 1 := by rw [HB.out.size, sA]
        have HQ3 : Hid (Q3 wX n wX.heap.size (wX.heap.size + 1) wa.heap.size wb.heap.size K T X v ST (.int .i64 0) wd 0 (fun _ => 0) (fun _ => -1) (fun _ => -1) (fun _ => -1)) := by
          have eA := HA.out.blk
          rw [alloc_size] at eA
          refine ⟨by omega, rfl, ?_, ?_, ?_, HC.out.blk, E3.start, ?_⟩
          · exact (((Blk.made wX .u8 n 5).below HA.out.bel (by rw [alloc_size]; omega)).below HB.out.bel (by omega)).below HC.out.bel (by omega)
          · exact (eA.below HB.out.bel (by omega)).below HC.out.bel (by omega)
          · exact HB.out.blk.below HC.out.bel (by omega)
          · exact ((((Below.refl wX.heap.size wX).alloc (Nat.le_refl _) _).trans (HA.out.bel.mono (by rw [alloc_size]; omega))).trans (HB.out.bel.mono (by omega))).trans (HC.out.bel.mono (by omega))
        refine l3_3 (w0 := wX) (st := w7.heap.size) (la := w7.heap.size + 1) (lb := w8.heap.size) (em := wX.heap.size) (ea := wX.heap.size + 1) (en := wa.heap.size) (ta := wb.heap.size) hn HSX.out HG.out HD.out HBSTX.out HBLAX.out HBLPX.out HST.out HLA.out HLP.out (Nat.le_refl _) (by omega) (by omega) (by omega) (by omega) (by omega) (by omega) (by omega) (by omega) (by omega) HQ3.out ?_
        intros
        rename_i EM EA EN TA wE hq
        have hsame := fun i hi => hq.e.same HST.out HMI.out HAI.out i hi
        have HEM : Hid (Blk wE wX.heap.size (irow .u8 n M) 5) := by
          have h := hq.bm
          rw [irow_congr .u8 n EM M (fun i hi => (hsame i hi).1)] at h
          exact h
        have HEA : Hid (Blk wE (wX.heap.size + 1) (irow .i32 n A) 21) := by
          have h := hq.ba
          rw [irow_congr .i32 n EA A (fun i hi => (hsame i hi).2.1)] at h
          exact h
        have HEN : Hid (Blk wE wa.heap.size (irow .i32 n N) 21) := by
          have h := hq.bn
          rw [irow_congr .i32 n EN N (fun i hi => (hsame i hi).2.2)] at h
          exact h
        have HSE := hide (HSX.out.below hq.bel)
        have HBSTE := hide (HBSTX.out.below hq.bel HBSTX.out.lt)
        clear hq hsame HQ3 HA HB HC sA sB HBLAX HBLPX HSX HBSTX
        go_step
        go_wp2
        refine l3_4 (w0 := wE) (oc := 0) (em := wX.heap.size) (ea := wX.heap.size + 1) (en := wa.heap.size) hn HSE.out HG.out HEM.out HEA.out HEN.out ⟨by omega, rfl, Below.refl _ _⟩ ?_
        intros
        rename_i wF hq
        have HSF := hide (HSE.out.below hq.bel)
        have HBSTF := hide (HBSTE.out.below hq.bel HBSTE.out.lt)
        clear hq HSE HBSTE HEM HEA HEN
        go_step
        have v1 : ciV v bi len = .slice none 0 0 := if_neg HV.out
        have v2 : ciV v bc len = .slice none 0 0 := if_neg HV.out
        have v3 : cfV v cf nt = .slice none 0 0 := if_neg HV.out
        have n35 := fun w => Lib.run_eql_slice_nil (P := Try.prog) w 35 21 none 0 0 0 0 Try.underlying35
        have n34 := fun w => Lib.run_eql_slice_nil (P := Try.prog) w 34 5 none 0 0 0 0 Try.underlying34
        as_aux_lemma =>
          go_wp2
          go_ret
          exact ⟨rfl, HSF.out.bel⟩
end Go.Proofs.Qxb6605516a
