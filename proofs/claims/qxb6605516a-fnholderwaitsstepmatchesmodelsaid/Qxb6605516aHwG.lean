import Derived.Test.Qxb6605516aHwF
namespace Go.Proofs.Qxb6605516a
open Go.RowKit
set_option linter.unusedVariables false

/-- What State reads out. -/
structure SState (w w' : World) (e : Ending) (ask keep ep : Int) (ia : Option Addr) (ni : Nat) (G : Nat → Int) (ha : Option Addr) (m : Nat) (L : Nat → Nat) (F : Nat → Nat → Int) (la : Nat → Option Addr) (lv fv : Value) (p1 p2 p3 q1 q2 : Option Addr) (l1 l2 : Nat → Option Addr) (k1 k2 : Nat → Nat) : Prop where
  ret : e = .returned (.tuple #[.int .i32 ask, .int .i32 keep, .slice p1 ni ni, .slice p2 ni ni, .slice p3 ni ni, .slice q1 m m, .slice q2 m m, lv, fv, .int .i32 ep])
  n1 : p1 = none ↔ ia = none
  r1 : IRow w' p1 ni 1 (fun i => G (i * 3))
  r2 : IRow w' p2 ni 1 (fun i => G (i * 3 + 1))
  r3 : IRow w' p3 ni 1 (fun i => G (i * 3 + 2))
  n2 : q1 = none ↔ ha = none
  t1 : Nst w' q1 m 1 L (fun i j => F i (j * 2)) l1 k1
  t2 : Nst w' q2 m 1 L (fun i j => F i (j * 2 + 1)) l2 k2
  z1 : ∀ i, i < m → (l1 i = none ↔ la i = none)
  bel : Below w.heap.size w w'

set_option maxRecDepth 8000 in
set_option maxHeartbeats 2000000 in
theorem hwstate_any (bh : Nat) (ask keep ep : Int) (ia : Option Addr) (ni : Nat) (ha : Option Addr) (m : Nat) (o4 : Option Addr) (n4 c4 : Nat) (o5 : Option Addr) (n5 c5 : Nat) (G : Nat → Int) (L : Nat → Nat) (F : Nat → Nat → Int) (la : Nat → Option Addr) (lc : Nat → Nat) (w : World)
    (hni : ni ≤ 65536) (hm : m ≤ 65536) (hL : ∀ i, i < m → L i ≤ 1048576) (z2 : ia = none → ni = 0) (z3 : ha = none → m = 0)
    (hB : Blk w bh (hCells ask keep ep (.slice ia ni ni) (.slice ha m m) (.slice o4 n4 c4) (.slice o5 n5 c5)) 104) (h2 : IRow w ia ni 3 G) (h3 : Nst w ha m 2 L F la lc) :
    Calls Try.prog 28 #[.pointer (some ⟨bh, 0, none⟩)] w fun e w' => ∃ p1 p2 p3 q1 q2 l1 l2 k1 k2, SState w w' e ask keep ep ia ni G ha m L F la (.slice o4 n4 c4) (.slice o5 n5 c5) p1 p2 p3 q1 q2 l1 l2 k1 k2 := by
  have HI := hide h2
  have H3 := hide h3
  have HL := hide hL
  have ZI := hide z2
  have ZH := hide z3
  have HB := hide hB
  have x2 : w.cell? ⟨bh, 2, none⟩ = some (.slice ia ni ni) := hB.cell 2
  have hbh := hB.lt
  clear h2 h3 hL z2 z3 hB
  go_enter Try.func28, Try.ntmps28
  go_upto_region 1 with fail
  go_cut [21] (fun c w' => (∃ b : Bool, c = .bool b ∧ (b = false ↔ ia = none)) ∧ w' = w)
  case first =>
    cases ia with
    | none =>
      have hnil := neq_nil 101 106 none ni ni Try.underlying101
      as_aux_lemma =>
        go_wp2
        go_meet
        case rel => exact ⟨⟨_, rfl, by simp⟩, rfl⟩
    | some x =>
      have hnil := neq_nil 101 106 (some x) ni ni Try.underlying101
      as_aux_lemma =>
        go_wp2
        go_meet
        case rel => exact ⟨⟨_, rfl, by simp⟩, rfl⟩
  obtain ⟨⟨b, rfl, hb⟩, rfl⟩ := hcut
  rename World => w
  have Hb := hide hb
  clear hb
  go_step
  go_cut [4, 5, 6] (fun s1 s2 s3 w' => ∃ p1 p2 p3, Sm1 w w' s1 s2 s3 ia ni G p1 p2 p3)
  case first =>
   as_aux_lemma =>
    cases b
    · have h2n : ia = none := Hb.out.1 rfl
      have hz := ZI.out h2n
      have HN := hide h2n
      clear h2n
      subst hz
      as_aux_lemma =>
        go_wp2
        go_meet
        case rel => exact ⟨none, none, none, rfl, rfl, rfl, by simp [HN.out], .inl rfl, .inl rfl, .inl rfl, Below.refl _ _⟩
    · obtain ⟨x, rfl⟩ : ∃ x, ia = some x := by
        cases ia with
        | none => have := Hb.out.2 rfl; simp at this
        | some x => exact ⟨x, rfl⟩
      have hmk := make_i32 ni (by omega)
      have x2c := (((((Below.refl w.heap.size w).alloc (Nat.le_refl _) (.cells (madeCells #[.int .i32 0] ni) 21)).alloc (by simp) (.cells (madeCells #[.int .i32 0] ni) 21)).alloc (by simp; omega) (.cells (madeCells #[.int .i32 0] ni) 21)).cell (p := ⟨bh, 2, none⟩) hbh).trans x2
      go_wp2
      clear hmk x2c
      go_loopw [45] (fun s wr => ∃ (i : Nat) (R1 R2 R3 : Nat → Int), Sm1p w ni G s wr i R1 R2 R3) (fun s _ => ni - (intOf s).toNat)
      case atStart => exact ⟨0, _, _, _, rfl, by omega, (made3rows _ _).1, (made3rows _ _).2.1, (made3rows _ _).2.2, fun c hc => by omega, (((Below.refl _ _).alloc (Nat.le_refl _) _).alloc (by simp) _).alloc (by simp; omega) _⟩
      case round =>
        obtain ⟨i, R1, R2, R3, hR⟩ := hrel
        have HR := hide hR
        obtain rfl := hR.s
        have hi := hR.hi
        clear hR
        by_cases hlt : i < ni
        · rcases HI.out with h0 | ⟨b2, o2, hx, hbl2, hc2⟩
          · omega
          simp only [Option.some.injEq] at hx
          subst hx
          have e0 := (HR.out.bel.cell (p := ⟨b2, o2 + i * 3, none⟩) hbl2).trans (IRow.cell hc2 (i * 3) (by omega))
          have e1 := (HR.out.bel.cell (p := ⟨b2, o2 + (i * 3 + 1), none⟩) hbl2).trans (IRow.cell hc2 (i * 3 + 1) (by omega))
          have e2 := (HR.out.bel.cell (p := ⟨b2, o2 + (i * 3 + 2), none⟩) hbl2).trans (IRow.cell hc2 (i * 3 + 2) (by omega))
          rw [← Nat.add_assoc] at e1 e2
          clear hc2
          have y2 := (HR.out.bel.cell (p := ⟨bh, 2, none⟩) hbh).trans x2
          have y3 : bh ≠ w.heap.size := by omega
          have y4 : bh ≠ w.heap.size + 1 := by omega
          have y5 : bh ≠ w.heap.size + 2 := by omega
          have d1 := HR.out.b1.rcell i hlt
          have d2 := HR.out.b2.rcell i hlt
          have d3 := HR.out.b3.rcell i hlt
          have f1 := HR.out.b1.free
          have f2 := HR.out.b2.free
          have f3 := HR.out.b3.free
          have n1 : b2 ≠ w.heap.size := by omega
          have n2 : b2 ≠ w.heap.size + 1 := by omega
          have n3 : b2 ≠ w.heap.size + 2 := by omega
          have m01 : w.heap.size ≠ w.heap.size + 1 := by omega
          have m02 : w.heap.size ≠ w.heap.size + 2 := by omega
          have m12 : w.heap.size + 1 ≠ w.heap.size + 2 := by omega
          as_aux_lemma =>
            go_wp2
            go_roundw
            case rel =>
              refine ⟨i + 1, _, _, _, by go_num, by omega, ((HR.out.b1.rset i (G (i * 3))).setOther m01 _).setOther m02 _, ((HR.out.b2.setOther m01.symm _).rset i (G (i * 3 + 1))).setOther m12 _, ((HR.out.b3.setOther m02.symm _).setOther m12.symm _).rset i (G (i * 3 + 2)), fun c hc => ?_, ((HR.out.bel.setCell (Nat.le_refl _) _).setCell (Nat.le_add_right _ 1) _).setCell (Nat.le_add_right _ 2) _⟩
              unfold upd
              by_cases e : c = i
              · subst e; simp
              · rw [if_neg e, if_neg e, if_neg e]; exact HR.out.eq c (by omega)
            case measure => simp [intOf]; omega
        · obtain rfl : i = ni := by omega
          as_aux_lemma =>
            go_wp2
            go_meet
            case rel => exact ⟨_, _, _, HR.out.done x⟩
  obtain ⟨p1, p2, p3, hS1⟩ := hcut
  rename World => w1
  obtain rfl := hS1.s1
  obtain rfl := hS1.s2
  obtain rfl := hS1.s3
  have HS1 := hide hS1
  have x3 : w1.cell? ⟨bh, 3, none⟩ = some (.slice ha m m) := (hS1.bel.cell (p := ⟨bh, 3, none⟩) hbh).trans (HB.out.cell 3)
  have hbh1 : bh < w1.heap.size := Nat.lt_of_lt_of_le hbh hS1.bel.size
  clear hS1 Hb x2
  go_upto_region 12 with fail
  go_cut [86] (fun c w' => (∃ b : Bool, c = .bool b ∧ (b = false ↔ ha = none)) ∧ w' = w1)
  case first =>
    cases ha with
    | none =>
      have hnil := neq_nil 102 107 none m m Try.underlying102
      as_aux_lemma =>
        go_wp2
        go_meet
        case rel => exact ⟨⟨_, rfl, by simp⟩, rfl⟩
    | some x =>
      have hnil := neq_nil 102 107 (some x) m m Try.underlying102
      as_aux_lemma =>
        go_wp2
        go_meet
        case rel => exact ⟨⟨_, rfl, by simp⟩, rfl⟩
  obtain ⟨⟨b, rfl, hb⟩, rfl⟩ := hcut
  rename World => w1
  have Hb := hide hb
  clear hb
  go_step
  go_cut [7, 8] (fun s1 s2 w' => ∃ q1 q2 l1 l2 k1 k2, Sm2 w1 w' s1 s2 ha m L F la q1 q2 l1 l2 k1 k2)
  case first =>
   as_aux_lemma =>
    cases b
    · have h3n : ha = none := Hb.out.1 rfl
      have hz := ZH.out h3n
      have HN := hide h3n
      clear h3n
      subst hz
      as_aux_lemma =>
        go_wp2
        go_meet
        case rel => exact ⟨none, none, fun _ => none, fun _ => none, fun _ => 0, fun _ => 0, rfl, rfl, by simp [HN.out], ⟨.inl rfl, fun i hi => by omega, fun i hi => by omega⟩, ⟨.inl rfl, fun i hi => by omega, fun i hi => by omega⟩, fun i hi => by omega, Below.refl _ _⟩
    · obtain ⟨x, rfl⟩ : ∃ x, ha = some x := by
        cases ha with
        | none => have := Hb.out.2 rfl; simp at this
        | some x => exact ⟨x, rfl⟩
      have hmk := make_h55 m (by omega)
      have H3c := hide (H3.out.below HS1.out.bel)
      go_wp2
      clear hmk
      go_loopw [104] (fun s wr => ∃ (i : Nat) (l1 l2 : Nat → Option Addr), Sm2p w1 m L F la s wr i l1 l2) (fun s _ => m - (intOf s).toNat)
      case atStart =>
        refine ⟨0, _, _, rfl, by omega, NPart.start ((Blk.new _ _ _).alloc _), NPart.start ?_, ((Below.refl _ _).alloc (Nat.le_refl _) _).alloc (by simp) _⟩
        have := Blk.new (w1.alloc (.cells (fc m nilS) 35)) (fc m nilS) 35
        rwa [alloc_size] at this
      case round =>
        obtain ⟨i, l1, l2, hR⟩ := hrel
        rename World => wo
        have HR := hide hR
        obtain rfl := hR.s
        have hi := hR.hi
        clear hR
        by_cases hlt : i < m
        · rcases H3c.out.hd with h0 | ⟨b3, o3, hx, hbl3, hc3⟩
          · omega
          simp only [Option.some.injEq] at hx
          subst hx
          have g3 : wo.cell? ⟨b3, o3 + i, none⟩ = some (.slice (la i) (L i) (lc i)) := (HR.out.bel.cell (p := ⟨b3, o3 + i, none⟩) hbl3).trans (hc3 i (by omega))
          have hl3 : b3 < wo.heap.size := Nat.lt_of_lt_of_le hbl3 HR.out.bel.size
          have y3 := (HR.out.bel.cell (p := ⟨bh, 3, none⟩) hbh1).trans x3
          have hl4 : bh < wo.heap.size := Nat.lt_of_lt_of_le hbh1 HR.out.bel.size
          clear hc3
          by_cases hz : la i = none
          · have hl0 := H3.out.zl i hlt hz
            rw [hz, hl0] at g3
            have HZ := hide hz
            have HL0 := hide hl0
            clear hz hl0
            have hnil := neq_nil 107 109 none 0 (lc i) Try.underlying107
            as_aux_lemma =>
              go_wp2
              go_roundw
              case rel => exact ⟨i + 1, _, _, by go_num, by omega, HR.out.n1.nil HZ.out HL0.out, HR.out.n2.nil HZ.out HL0.out, HR.out.bel⟩
              case measure => simp [intOf]; omega
          · obtain ⟨y, hy⟩ : ∃ y, la i = some y := Option.ne_none_iff_exists'.1 hz
            have HE := hide (SlA.below (H3c.out.el i hlt) HR.out.bel)
            rw [hy] at g3 HE
            have HZ := hide hz
            clear hz hy
            have hLi := HL.out i hlt
            have hnil := neq_nil 107 109 (some y) (L i) (lc i) Try.underlying107
            have hmk := make_i32 (L i) (by omega)
            go_wp2
            clear hmk hnil
            go_loopw [141] (fun s wi => ∃ (j : Nat) (R1 R2 : Nat → Int), CP2 wo (L i) (F i) s wi j R1 R2) (fun s _ => L i - (intOf s).toNat)
            case atStart => exact ⟨0, _, _, CP2.start _ _ _⟩
            case round =>
              obtain ⟨j, R1, R2, hR⟩ := hrel
              have HJ := hide hR
              obtain rfl := hR.s
              have hj := hR.hi
              clear hR
              have k3 := (HJ.out.bel.cell (p := ⟨b3, o3 + i, none⟩) hl3).trans g3
              have k4 := (HJ.out.bel.cell (p := ⟨bh, 3, none⟩) hl4).trans y3
              clear g3 y3
              by_cases hjl : j < L i
              · rcases HE.out with h0 | ⟨b2, off2, hx, hbl2, hc⟩
                · omega
                simp only [Option.some.injEq] at hx
                subst hx
                have e0 := (HJ.out.bel.cell (p := ⟨b2, off2 + j * 2, none⟩) hbl2).trans (IRow.cell hc (j * 2) (by omega))
                have e1 := (HJ.out.bel.cell (p := ⟨b2, off2 + (j * 2 + 1), none⟩) hbl2).trans (IRow.cell hc (j * 2 + 1) (by omega))
                rw [← Nat.add_assoc] at e1
                clear hc
                have d0 := HJ.out.b1.rcell j (by omega)
                have d1 := HJ.out.b2.rcell j (by omega)
                have f0 := HJ.out.b1.free
                have f1 := HJ.out.b2.free
                have n1 : b2 ≠ wo.heap.size := by omega
                have n2 : b3 ≠ wo.heap.size := by omega
                have n4 : bh ≠ wo.heap.size := by omega
                have m01 : wo.heap.size ≠ wo.heap.size + 1 := by omega
                as_aux_lemma =>
                  go_wp2
                  go_roundw
                  case rel =>
                    refine ⟨j + 1, _, _, by go_num, by omega, (HJ.out.b1.rset j (F i (j * 2))).setOther m01 _, (HJ.out.b2.setOther m01.symm _).rset j (F i (j * 2 + 1)), fun c hc => ?_, (HJ.out.bel.setCell (Nat.le_refl _) _).setCell (Nat.le_add_right _ 1) _⟩
                    unfold upd
                    by_cases e : c = j
                    · subst e; simp
                    · rw [if_neg e, if_neg e]; exact HJ.out.eq c (by omega)
                  case measure => simp [intOf]; omega
              · obtain rfl : j = L i := by omega
                have hlt0 := HR.out.n2.hd.lt
                have HN1 := hide (HR.out.n1.below HJ.out.bel)
                have HN2 := hide (HR.out.n2.below HJ.out.bel)
                have hd1 := HN1.out.hd.fcell i hlt
                have hd2 := HN2.out.hd.fcell i hlt
                rw [if_neg (by omega)] at hd1 hd2
                have hf1 := HN1.out.hd.free
                have hf2 := HN2.out.hd.free
                have m01 : w1.heap.size ≠ w1.heap.size + 1 := by omega
                have m0 : w1.heap.size < w1.heap.size + 2 := by omega
                have m1 : w1.heap.size + 1 < w1.heap.size + 2 := by omega
                have m3 : wo.heap.size + 1 ≠ w1.heap.size := by omega
                have HFr1 := hide (HR.out.n1.fresh (bl := wo.heap.size) (Nat.le_refl _))
                have HFr2 := hide (HR.out.n2.fresh (bl := wo.heap.size + 1) (by omega))
                as_aux_lemma =>
                  go_wp2
                  go_roundw
                  case rel =>
                    refine ⟨i + 1, _, _, by go_num, by omega, (HN1.out.set HFr1.out HJ.out.w1 (by omega) (by omega) (by omega) HZ.out).other (p := ⟨w1.heap.size + 1, i, none⟩) m1 m01 _, (HN2.out.other (p := ⟨w1.heap.size, i, none⟩) m0 m01.symm _).set HFr2.out (HJ.out.w2.setOther (a := ⟨w1.heap.size, i, none⟩) m3 _) (by omega) (by omega) (by omega) HZ.out, ((HR.out.bel.trans (HJ.out.bel.mono HR.out.bel.size)).setCell (Nat.le_refl _) _).setCell (Nat.le_add_right _ 1) _⟩
                  case measure => simp [intOf]; omega
        · obtain rfl : i = m := by omega
          as_aux_lemma =>
            go_wp2
            go_meet
            case rel => exact ⟨_, _, _, _, _, _, rfl, rfl, by simp, HR.out.n1.nst, HR.out.n2.nst, HR.out.n1.nz, HR.out.bel⟩
  obtain ⟨q1, q2, l1, l2, k1, k2, hS2⟩ := hcut
  rename World => w2
  obtain rfl := hS2.s1
  obtain rfl := hS2.s2
  have HS2 := hide hS2
  have hb2 := HS1.out.bel.trans (hS2.bel.mono HS1.out.bel.size)
  have HB2 := hide hb2
  have y0 : w2.cell? ⟨bh, 0, none⟩ = some (.int .i32 ask) := (hb2.cell (p := ⟨bh, 0, none⟩) hbh).trans (HB.out.cell 0)
  have y1 : w2.cell? ⟨bh, 1, none⟩ = some (.int .i32 keep) := (hb2.cell (p := ⟨bh, 1, none⟩) hbh).trans (HB.out.cell 1)
  have y4 : w2.cell? ⟨bh, 4, none⟩ = some (.slice o4 n4 c4) := (hb2.cell (p := ⟨bh, 4, none⟩) hbh).trans (HB.out.cell 4)
  have y5 : w2.cell? ⟨bh, 5, none⟩ = some (.slice o5 n5 c5) := (hb2.cell (p := ⟨bh, 5, none⟩) hbh).trans (HB.out.cell 5)
  have y6 : w2.cell? ⟨bh, 6, none⟩ = some (.int .i32 ep) := (hb2.cell (p := ⟨bh, 6, none⟩) hbh).trans (HB.out.cell 6)
  clear hS2 Hb x3 hb2
  go_step
  as_aux_lemma =>
    go_wp2
    go_quiet (fail)
    go_wp2
    refine bodyPost_ret (v := .tuple #[.int .i32 ask, .int .i32 keep, .slice p1 ni ni, .slice p2 ni ni, .slice p3 ni ni, .slice q1 m m, .slice q2 m m, .slice o4 n4 c4, .slice o5 n5 c5, .int .i32 ep]) (by simp [results, Try.results28, go_sem]) rfl ?_
    exact ⟨p1, p2, p3, q1, q2, l1, l2, k1, k2, rfl, HS1.out.n1, SlA.below HS1.out.r1 (below_drewN HS2.out.bel _), SlA.below HS1.out.r2 (below_drewN HS2.out.bel _), SlA.below HS1.out.r3 (below_drewN HS2.out.bel _), HS2.out.n1, HS2.out.r1.below (below_drewN (Below.refl _ _) _), HS2.out.r2.below (below_drewN (Below.refl _ _) _), HS2.out.z1, below_drewN HB2.out _⟩
end Go.Proofs.Qxb6605516a
