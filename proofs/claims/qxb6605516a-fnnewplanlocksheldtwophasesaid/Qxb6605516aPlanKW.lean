import Derived.Test.Qxb6605516aPlanK1
import Derived.Test.Qxb6605516aPlanK3
import Derived.Test.Qxb6605516aPlanK4
import Derived.Test.Qxb6605516aPlanK5
import Derived.Test.Qxb6605516aPlanK6
import Derived.Test.Qxb6605516aPlanK7
namespace Go.Proofs.Qxb6605516a
open Go.RowKit
set_option linter.unusedVariables false

set_option maxRecDepth 100000 in
set_option maxHeartbeats 8000000 in
theorem planlaw4 (hNP : NPC) (a0 : Option Addr) (n c0 : Nat) (a1 : Option Addr) (nt c1 : Nat) (a2 : Option Addr) (ni c2 : Nat) (l : ByteArray) (v : Int) (K T X : Nat → Int) (S1 S2 : Nat → ByteArray) (w : World)
    (h0 : SlA w a0 n 3 (opCell K T X)) (h1 : SlA w a1 nt 1 (fun i => .string (S1 i))) (h2 : SlA w a2 ni 1 (fun i => .string (S2 i))) (z0 : a0 = none → n = 0) (z1 : a1 = none → nt = 0) (z2 : a2 = none → ni = 0)
    (hT : ∀ i, -2147483648 ≤ T i ∧ T i ≤ 2147483647) (hX : ∀ i, -2147483648 ≤ X i ∧ X i ≤ 2147483647) :
    Calls Try.prog 4 #[.slice a0 n c0, .slice a1 nt c1, .slice a2 ni c2, .string l, .int .u8 v] w fun e w' => e = .returned (.bool true) ∧ Below w.heap.size w w' := by
  have H0 := hide h0
  have H1 := hide h1
  have H2 := hide h2
  have Z0 := hide z0
  have Z1 := hide z1
  have Z2 := hide z2
  have HT := hide hT
  have HX := hide hX
  have HNP := hide hNP
  clear h0 h1 h2 z0 z1 z2 hT hX hNP
  go_enter Try.func4, Try.ntmps4
  go_wp2_with fail
  refine (zzbytes19 a0 n c0 a1 nt c1 a2 ni c2 l v S1 S2 w H1.out H2.out).mono ?_
  rintro e w' ⟨⟨b9, rfl⟩, rfl⟩
  cases b9
  · as_aux_lemma =>
      go_wp2
      go_ret
      exact ⟨rfl, Below.refl _ _⟩
  go_wp2_with fail
  refine (planbytes_any a0 n c0 a1 nt c1 a2 ni c2 l S1 S2 w' H1.out H2.out).mono ?_
  rintro e w ⟨⟨z9, rfl⟩, rfl⟩
  by_cases hz : 1048576 < z9
  · as_aux_lemma =>
      go_wp2
      go_ret
      exact ⟨rfl, Below.refl _ _⟩
  by_cases hn : 4096 < n
  · as_aux_lemma =>
      go_wp2
      go_ret
      exact ⟨rfl, Below.refl _ _⟩
  by_cases hnt : 4096 < nt
  · as_aux_lemma =>
      go_wp2
      go_ret
      exact ⟨rfl, Below.refl _ _⟩
  by_cases hni : 4096 < ni
  · as_aux_lemma =>
      go_wp2
      go_ret
      exact ⟨rfl, Below.refl _ _⟩
  have hn : n ≤ 4096 := by omega
  have hnt : nt ≤ 4096 := by omega
  have hni : ni ≤ 4096 := by omega
  as_aux_lemma =>
    go_wp2_with fail
    refine (plandomain_any a0 n c0 nt ni v K T X w hn HT.out HX.out H0.out).mono ?_
    rintro e w1 ⟨hD, hb1⟩
    rcases hD with rfl | ⟨rfl, hD⟩
    · as_aux_lemma =>
        go_wp2
        go_ret
        exact ⟨rfl, hb1⟩
    have HD := hide hD
    have HB1 := hide hb1
    clear hD hb1 hz
    go_wp2_with fail
    refine (cloneops_c a0 n c0 K T X hn w1 Z0.out (H0.out.below HB1.out)).mono ?_
    rintro e w2 ⟨oa, oc, rfl, zo, ho, hb2⟩
    have HO := hide ho
    have ZO := hide zo
    have HB2 := hide (HB1.out.trans (hb2.mono HB1.out.size))
    clear ho zo hb2
    go_wp2_with fail
    refine (clonestrs_c a1 nt c1 S1 hnt w2 Z1.out (H1.out.below HB2.out)).mono ?_
    rintro e w3 ⟨ta, tc, S1', rfl, zt, ht, hb3⟩
    have HTx := hide ht
    have ZT := hide zt
    have HO3 := hide (HO.out.below hb3)
    have HB3 := hide (HB2.out.trans (hb3.mono HB2.out.size))
    clear ht zt hb3 HO
    go_wp2_with fail
    refine (clonestrs_c a2 ni c2 S2 hni w3 Z2.out (H2.out.below HB3.out)).mono ?_
    rintro e w4 ⟨ia, ic, S2', rfl, zi, hi, hb4⟩
    have HT4 := hide (HTx.out.below hb4)
    have HO4 := hide (HO3.out.below hb4)
    have HB4 := hide (HB3.out.trans (hb4.mono HB3.out.size))
    clear hi zi hb4 HO3 HTx
    go_wp2_with fail
    refine (planhist_any oa n oc ta nt tc ia ni ic l K T X S1' hn hnt w4 ZO.out ZT.out HO4.out HT4.out).mono ?_
    rintro e w5 ⟨ha, hc, tb, td, rfl, hh, hb5⟩
    have HH := hide hh
    have HO5 := hide (HO4.out.below hb5)
    have HB5 := hide (HB4.out.trans (hb5.mono HB4.out.size))
    clear hh hb5 HO4 HT4
    go_wp2_with fail
    have hHist : Hist (w5.alloc (.cells #[.slice ha n hc, .slice tb nt td, .slice ia ni ic, .string l] 32)) w5.heap.size n nt ni K T X ha hc tb td ia ic l := ⟨Blk.new _ _ _, HH.out.below ((Below.refl _ _).alloc (Nat.le_refl _) _)⟩
    have HO5a := hide (HO5.out.below ((Below.refl w5.heap.size w5).alloc (Nat.le_refl _) (.cells #[.slice ha n hc, .slice tb nt td, .slice ia ni ic, .string l] 32)))
    have HB5a := hide (HB5.out.alloc HB5.out.size (.cells #[.slice ha n hc, .slice tb nt td, .slice ia ni ic, .string l] 32))
    refine (zznewplan_any w5.heap.size n nt K T X v _ hn (HNP.out _ n nt ni K T X ha hc tb td ia ic l v _ hn hnt hni HD.out hHist)).mono ?_
    rintro e w6 ⟨M, A, N, CI, CM, CF, len, hZ⟩
    have HAI := hide hZ.ai
    have HMI := hide hZ.mi
    have HCI := hide hZ.ci
    have HO6 := hide (HO5a.out.below hZ.bel)
    have HB6 := hide (HB5a.out.trans (hZ.bel.mono HB5a.out.size))
    obtain ⟨bm, af, nx, bi, bc, cf, rfl, hbm, haf, hnx, hcl⟩ := hZ.at_
    have HBM := hide hbm
    have HAF := hide haf
    have HNX := hide hnx
    have HCL := hide hcl
    clear hZ hbm haf hnx hcl hHist HO5a HB5a HO5 HB5 HH HB4 HB3 HB2 HB1 HNP
    go_wp2_with fail
    refine (runfirst_any oa n oc nt ni K T X v w6 hn hnt HD.out HO6.out).mono ?_
    rintro e w7 ⟨G, ⟨bg, rfl, _, hbg⟩, hb7, hg⟩
    have HS : Hid (S3 w w7 v n nt K T X M A N CI CM CF G len oa bm af nx bi bc cf bg) :=
      ⟨HO6.out.below hb7, HBM.out.below hb7 HBM.out.lt, HAF.out.below hb7 HAF.out.lt, HNX.out.below hb7 HNX.out.lt, fun e => ⟨(HCL.out e).1.below hb7 (HCL.out e).1.lt, (HCL.out e).2.1.below hb7 (HCL.out e).2.1.lt, (HCL.out e).2.2.below hb7 (HCL.out e).2.2.lt⟩, hbg, HB6.out.trans (hb7.mono HB6.out.size)⟩
    have HG := hide hg
    clear hbg hb7 hg HO6 HBM HAF HNX HCL HB6
    as_aux_lemma =>
      go_wp2_with fail
      refine (filledI32_any n (by omega) w7).mono ?_
      rintro e wa hA
      have HA := hide hA
      obtain rfl := hA.ret
      clear hA
      go_wp2_with fail
      refine (filledI32_any nt (by omega) wa).mono ?_
      rintro e wb hB
      have HB := hide hB
      obtain rfl := hB.ret
      clear hB
      go_wp2
      have sA : wa.heap.size = w7.heap.size + 1 := HA.out.size
      have HZ1 : Hid (Qxb6605516a.Z1 w7 n nt w7.heap.size wa.heap.size K T X v (.int .i64 0) wb 0 (fun _ => -1) (fun _ => -1)) :=
        ⟨by omega, rfl, HA.out.blk.below HB.out.bel (by omega), HB.out.blk, RInv.start, FrInv.start, HA.out.bel.trans (HB.out.bel.mono (by omega))⟩
      refine l4_1 (w0 := w7) (rl := w7.heap.size) (fr := wa.heap.size) hn HS.out HG.out HAI.out HMI.out (Nat.le_refl _) (by omega) (by omega) HD.out HZ1.out ?_
      intros
      rename_i R FR w8 hq
      have HBR := hide hq.br
      have HRI := hide hq.ri
      have HS8 := hide (HS.out.below hq.bel)
      clear hq HZ1 HS HA HB
      go_step
      go_wp2
      refine l4_3 (w0 := w8) (oc := 0) (rl := w7.heap.size) hn HS8.out HG.out HMI.out HBR.out HRI.out ⟨by omega, rfl, Below.refl _ _⟩ ?_
      intros
      rename_i w9 hq
      have HS9 := hide (HS8.out.below hq.bel)
      clear hq HS8 HBR HRI sA
      go_step
      as_aux_lemma =>
        by_cases hv : v = 3
        · have ev : (v != 3) = false := by simp [hv]
          have HV := hide hv
          clear hv
          have v1 : ciV v bi len = .slice (some ⟨bi, 0, none⟩) len len := if_pos HV.out
          have v2 : ciV v bc len = .slice (some ⟨bc, 0, none⟩) len len := if_pos HV.out
          have v3 : cfV v cf nt = .slice (some ⟨cf, 0, none⟩) (nt + 1) (nt + 1) := if_pos HV.out
          have n35 := fun w => Lib.run_eql_slice_nil (P := Try.prog) w 35 21 (some ⟨bi, 0, none⟩) len len 0 0 Try.underlying35
          have hcu := make_i32 nt (by omega)
          have hci := HCI.out HV.out
          have hT0 : ∀ g, Run K T n g → 0 ≤ T g := fun g hg => (HD.out.rw g hg.1 hg.2.1).1
          have hlen : CF nt = (len : Int) := by
            rw [hci.2 nt (Nat.le_refl _), hci.1.len]
            congr 1
            exact cnt_congr fun g _ => ⟨fun h => ⟨h.1, h.1.1⟩, fun h => ⟨h.1, (HD.out.rw g h.2.1 h.2.2.1).2.1⟩⟩
          have hzero : CF 0 = 0 := by
            rw [hci.2 0 (by omega), cnt_none fun g _ hh => by have := hT0 g hh.1.1; have := hh.2; omega]
            rfl
          have hln : len ≤ 4096 := by rw [hci.1.len]; exact Nat.le_trans (cnt_le _ _) hn
          have f1 := (HS9.out.cl HV.out).2.2.rcell nt (by omega)
          rw [hlen] at f1
          have f0 := (HS9.out.cl HV.out).2.2.rcell 0 (by omega)
          rw [hzero] at f0
          clear hlen hzero hci hT0
          rw [v1, v2, v3]
          clear v1 v2 v3
          go_wp2
          clear f0 f1 n35
          refine l4_4 (w0 := w9) (oc := 0) hn HS9.out HG.out hnt HV.out (HCI.out HV.out).2 ⟨by omega, rfl, Below.refl _ _⟩ ?_
          intros
          rename_i wA hq
          have HSA := hide (HS9.out.below hq.bel)
          clear hq HS9
          go_step
          go_wp2
          clear hcu
          have HQ8 : Hid (Q8 wA nt wA.heap.size CF (.int .i64 0) (wA.alloc (.cells (madeCells #[.int .i32 0] nt) 21)) 0 (fun _ => 0)) := ⟨by omega, rfl, Blk.made _ _ _ _, fun j h => by omega, (Below.refl _ _).alloc (Nat.le_refl _) _⟩
          refine l4_5 (w0 := wA) (oc := 0) (cu := wA.heap.size) hn HSA.out HG.out hnt HV.out (Nat.le_refl _) HQ8.out ?_
          intros
          rename_i CU wB hq
          have HQ9 : Hid (Q9 wA n nt wA.heap.size K T X (.int .i64 0) wB 0 CU) := ⟨by omega, rfl, hq.b, CuInv.start fun t ht => by rw [hq.c t ht, (HCI.out HV.out).2 t (by omega)], hq.bel⟩
          clear hq HQ8
          go_step
          go_wp2
          refine l4_6 (w0 := wA) (cu := wA.heap.size) hn HSA.out HG.out hnt HV.out (Nat.le_refl _) HD.out HMI.out (HCI.out HV.out).1 (HCI.out HV.out).2 HQ9.out ?_
          intros
          rename_i CU2 wC hq
          have HBC := hide hq.b
          have HCU := hide hq.c
          have HSC := hide (HSA.out.below hq.bel)
          clear hq HQ9 HSA
          go_step
          go_wp2
          refine l4_7 (w0 := wC) (oc := 0) (cu := wA.heap.size) hn HSC.out HG.out hnt HV.out (HCI.out HV.out).2 HBC.out HCU.out ⟨by omega, rfl, Below.refl _ _⟩ ?_
          intros
          rename_i wD hq
          have HBL := hide (HSC.out.bel.trans (hq.bel.mono HSC.out.bel.size))
          clear hq
          as_aux_lemma =>
            go_step
            go_wp2
            go_ret
            exact ⟨rfl, HBL.out⟩
        · have ev : (v != 3) = true := by simpa using hv
          have HV := hide hv
          clear hv
          have v1 : ciV v bi len = .slice none 0 0 := if_neg HV.out
          have v2 : ciV v bc len = .slice none 0 0 := if_neg HV.out
          have v3 : cfV v cf nt = .slice none 0 0 := if_neg HV.out
          have n35 := fun w => Lib.run_eql_slice_nil (P := Try.prog) w 35 21 none 0 0 0 0 Try.underlying35
          have n34 := fun w => Lib.run_eql_slice_nil (P := Try.prog) w 34 5 none 0 0 0 0 Try.underlying34
          as_aux_lemma =>
            go_wp2
            go_ret
            exact ⟨rfl, HS9.out.bel⟩
end Go.Proofs.Qxb6605516a
