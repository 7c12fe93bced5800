import Derived.Test.Qxb6605516aPlanO
namespace Go.Proofs.Qxb6605516a
open Go.RowKit
set_option linter.unusedVariables false

theorem info_u8 : (Try.prog.info? 5).map (fun i => (i.zero, i.size, i.bytes)) = some (some (.int .u8 0), 1, 1) := by kernel_rfl
theorem make_u8 (n : Nat) (h : n ≤ 4096) (w : World) : (Instr.makeSlice 34 (.int .i64 (n : Int)) (.int .i64 (n : Int))).run Try.prog w = .ok (.slice (some ⟨w.heap.size, 0, none⟩) n n) (w.alloc (.cells (madeCells #[.int .u8 0] n) 5)) :=
  run_make_row' 34 5 (.int .u8 0) 1 Try.underlying34 info_u8 rfl .i64 .i64 n (by omega) (by omega) w
/-- The first and the later claims, handed out. -/
def ciV (v : Int) (b len : Nat) : Value := if v = 3 then .slice (some ⟨b, 0, none⟩) len len else .slice none 0 0
/-- The plan as plain slices. -/
structure PlanZ (w w' : World) (e : Ending) (v : Int) (n nt : Nat) (K T X M A N CI CM CF : Nat → Int) (len : Nat) : Prop where
  at_ : ∃ bm af nx bi bc cf, e = .returned (.tuple #[.slice (some ⟨bm, 0, none⟩) n n, .slice (some ⟨af, 0, none⟩) n n, .slice (some ⟨nx, 0, none⟩) n n, ciV v bi len, ciV v bc len, cfV v cf nt]) ∧
    Blk w' bm (irow .u8 n M) 5 ∧ Blk w' af (irow .i32 n A) 21 ∧ Blk w' nx (irow .i32 n N) 21 ∧ (v = 3 → Blk w' bi (irow .i32 len CI) 21 ∧ Blk w' bc (irow .u8 len CM) 5 ∧ Blk w' cf (irow .i32 (nt + 1) CF) 21)
  bel : Below w.heap.size w w'
  ai : AInv K T X n v (Run K T n) A N
  mi : MInv K T X n (Run K T n) M
  ci : v = 3 → CInv K T X n (Run K T n) CI CM len ∧ FInv K T X n nt CF
/-- Copying the modes. -/
structure ZM (w0 : World) (n bm : Nat) (M : Nat → Int) (s : Value) (wr : World) (i : Nat) (G : Nat → Int) : Prop where
  hi : i ≤ n
  s : s = .int .i64 i
  b : Blk wr bm (irow .u8 n G) 5
  g : ∀ j, j < i → G j = M j
  bel : Below w0.heap.size w0 wr
/-- Copying the claims. -/
structure ZC (w0 : World) (len bi bc : Nat) (CI CM : Nat → Int) (s : Value) (wr : World) (i : Nat) (G H : Nat → Int) : Prop where
  hi : i ≤ len
  s : s = .int .i64 i
  bi : Blk wr bi (irow .i32 len G) 21
  bc : Blk wr bc (irow .u8 len H) 5
  g : ∀ j, j < i → G j = CI j ∧ H j = CM j
  bel : Below w0.heap.size w0 wr
theorem upd_to {G M : Nat → Int} {i : Nat} (h : ∀ j, j < i → G j = M j) : ∀ j, j < i + 1 → upd G i (M i) j = M j := by
  intro j hj
  by_cases e : j = i
  · subst e; exact upd_same _ _ _
  · rw [upd_other _ _ _ _ e]; exact h j (by omega)
theorem PlanOut.below {w w' w2 : World} {v : Int} {n nt : Nat} {K T X : Nat → Int} {pl md af nx cl cf : Nat} {M A N CI CM CF : Nat → Int} {len : Nat} (h : PlanOut w w' v n nt K T X pl md af nx cl cf M A N CI CM CF len) (hb : Below w'.heap.size w' w2) : PlanOut w w2 v n nt K T X pl md af nx cl cf M A N CI CM CF len :=
  ⟨h.bpl.below hb h.bpl.lt, h.bmd.below hb h.bmd.lt, h.baf.below hb h.baf.lt, h.bnx.below hb h.bnx.lt, fun e => (h.bcl e).below hb (h.bcl e).lt, fun e => (h.bcf e).below hb (h.bcf e).lt, h.new, h.ai, h.mi, h.ci, h.bel.trans (hb.mono h.bel.size)⟩

set_option maxRecDepth 4000 in
set_option maxHeartbeats 4000000 in
theorem zznewplan_any (bh n nt : Nat) (K T X : Nat → Int) (v : Int) (w : World) (hn : n ≤ 4096)
    (hnp : Calls Try.prog 38 #[.pointer (some ⟨bh, 0, none⟩), .int .u8 v] w fun e w' => ∃ pl md af nx cl cf M A N CI CM CF len, e = .returned (.pointer (some ⟨pl, 0, none⟩)) ∧ PlanOut w w' v n nt K T X pl md af nx cl cf M A N CI CM CF len) :
    Calls Try.prog 15 #[.pointer (some ⟨bh, 0, none⟩), .int .u8 v] w fun e w' => ∃ M A N CI CM CF len, PlanZ w w' e v n nt K T X M A N CI CM CF len := by
  have HNP := hide hnp
  clear hnp
  have hmk := make_u8 n hn
  go_enter Try.func15, Try.ntmps15
  go_wp2_with fail
  refine HNP.out.mono ?_
  rintro e w1 ⟨pl, md, af, nx, cl, cf, M, A, N, CI, CM, CF, len, rfl, hP⟩
  have HP := hide hP
  have m0 : w1.cell? ⟨pl, 0, none⟩ = some (.slice (some ⟨md, 0, none⟩) n n) := hP.bpl.cell 0
  have l0 := hP.bpl.lt
  clear hP HNP
  go_wp2
  clear hmk
  go_loopw [34] (fun s wr => ∃ (i : Nat) (G : Nat → Int), ZM w1 n w1.heap.size M s wr i G) (fun s _ => n - (intOf s).toNat)
  case atStart => exact ⟨0, _, by omega, rfl, Blk.made _ _ _ _, fun j h => by omega, (Below.refl _ _).alloc (Nat.le_refl _) _⟩
  case round =>
    obtain ⟨i, G, hR⟩ := hrel
    have HR := hide hR
    obtain rfl := hR.s
    have hi := hR.hi
    clear hR m0
    have HP2 := hide (HP.out.below HR.out.bel)
    by_cases hlt : i < n
    · have m0 : wr.cell? ⟨pl, 0, none⟩ = some (.slice (some ⟨md, 0, none⟩) n n) := HP2.out.bpl.cell 0
      have m1 := HP2.out.bmd.rcell i hlt
      have m2 := HR.out.b.rcell i hlt
      have m3 := HR.out.b.free
      as_aux_lemma =>
        go_wp2
        go_roundw
        case rel => exact ⟨i + 1, _, by omega, rfl, HR.out.b.rset i (M i), upd_to HR.out.g, HR.out.bel.setCell (by simp) _⟩
        case measure => simp [intOf]; omega
    · obtain rfl : i = n := by omega
      have HB : Hid (Blk wr w1.heap.size (irow .u8 i M) 5) := by
        have h := HR.out.b
        rw [irow_congr .u8 i G M HR.out.g] at h
        exact h
      by_cases hv : v = 3
      · subst hv
        have hlen : len ≤ i := by rw [(HP2.out.ci rfl).1.len]; exact cnt_le _ _
        have m3 : wr.cell? ⟨pl, 3, none⟩ = some (.slice (some ⟨cl, 0, none⟩) len i) := (HP2.out.bpl.cell 3).trans (by rw [csV3]; rfl)
        have hmk1 := make_i32 len (by omega)
        have hmk2 := make_u8 len (by omega)
        have l0' : pl < wr.heap.size := HP2.out.bpl.lt
        have lc : cl < wr.heap.size := (HP2.out.bcl rfl).lt
        obtain ⟨b1, hb1⟩ : ∃ b1, b1 = wr.heap.size := ⟨_, rfl⟩
        go_wp2
        rw [← hb1]
        rw [← hb1] at l0' lc
        have HB1 := hide hb1
        clear hmk1 hmk2 m3 hb1
        go_loopw [70] (fun s wq => ∃ (k : Nat) (G H : Nat → Int), ZC wr len b1 (b1 + 1) CI CM s wq k G H) (fun s _ => len - (intOf s).toNat)
        case atStart =>
          refine ⟨0, (fun _ => 0), (fun _ => 0), by omega, rfl, ?_, ?_, fun j h => by omega, ((Below.refl _ _).alloc (Nat.le_refl _) _).alloc (by simp) _⟩
          · rw [HB1.out]; exact (Blk.made wr .i32 len 21).alloc _
          · have q := Blk.made (wr.alloc (.cells (madeCells #[.int .i32 0] len) 21)) .u8 len 5
            rw [alloc_size, ← HB1.out] at q
            exact q
        case round =>
          obtain ⟨k, G2, H2, hR2⟩ := hrel
          have HR2 := hide hR2
          obtain rfl := hR2.s
          have hk := hR2.hi
          clear hR2
          have HP3 := hide (HP2.out.below HR2.out.bel)
          by_cases hlt : k < len
          · have m3 : wr.cell? ⟨pl, 3, none⟩ = some (.slice (some ⟨cl, 0, none⟩) len i) := (HP3.out.bpl.cell 3).trans (by rw [csV3]; rfl)
            have c0 := (HP3.out.bcl rfl).fcell (k * 2) (by omega)
            have c1 := (HP3.out.bcl rfl).fcell (k * 2 + 1) (by omega)
            rw [clCell0] at c0
            rw [clCell1] at c1
            have d0 := HR2.out.bi.rcell k hlt
            have d1 := HR2.out.bi.free
            have d2 := HR2.out.bc.rcell k hlt
            have d3 := HR2.out.bc.free
            have n1 : pl ≠ b1 := by omega
            have n2 : cl ≠ b1 := by omega
            have n1' := n1.symm
            have n2' := n2.symm
            as_aux_lemma =>
              go_wp2
              go_roundw
              case rel => exact ⟨k + 1, _, _, by omega, rfl, (HR2.out.bi.rset k (CI k)).setOther (by simp) _, (HR2.out.bc.setOther (by simp) _).rset k (CM k), fun j hj => ⟨upd_to (fun j hj => (HR2.out.g j hj).1) j hj, upd_to (fun j hj => (HR2.out.g j hj).2) j hj⟩, (HR2.out.bel.setCell (by simp [HB1.out]) _).setCell (by simp [HB1.out]) _⟩
              case measure => simp [intOf]; omega
          · obtain rfl : k = len := by omega
            have m1 : wr.cell? ⟨pl, 1, none⟩ = some (.slice (some ⟨af, 0, none⟩) i i) := HP3.out.bpl.cell 1
            have m2 : wr.cell? ⟨pl, 2, none⟩ = some (.slice (some ⟨nx, 0, none⟩) i i) := HP3.out.bpl.cell 2
            have m4 : wr.cell? ⟨pl, 4, none⟩ = some (.slice (some ⟨cf, 0, none⟩) (nt + 1) (nt + 1)) := (HP3.out.bpl.cell 4).trans (by rw [cfV3]; rfl)
            have HB3 := hide (HB.out.below HR2.out.bel HB.out.lt)
            have HI : Hid (Blk wr b1 (irow .i32 k CI) 21) := by
              have h := HR2.out.bi
              rw [irow_congr .i32 k G2 CI (fun j hj => (HR2.out.g j hj).1)] at h
              exact h
            have HC : Hid (Blk wr (b1 + 1) (irow .u8 k CM) 5) := by
              have h := HR2.out.bc
              rw [irow_congr .u8 k H2 CM (fun j hj => (HR2.out.g j hj).2)] at h
              exact h
            as_aux_lemma =>
              go_wp2
              go_quiet (fail)
              go_wp2
              refine bodyPost_ret (v := .tuple #[.slice (some ⟨w1.heap.size, 0, none⟩) i i, .slice (some ⟨af, 0, none⟩) i i, .slice (some ⟨nx, 0, none⟩) i i, .slice (some ⟨b1, 0, none⟩) k k, .slice (some ⟨b1 + 1, 0, none⟩) k k, .slice (some ⟨cf, 0, none⟩) (nt + 1) (nt + 1)]) (by simp [results, Try.results15, go_sem]) rfl ?_
              refine ⟨M, A, N, CI, CM, CF, k, ⟨w1.heap.size, af, nx, b1, b1 + 1, cf, ?_, HB3.out.drewN _, HP3.out.baf.drewN _, HP3.out.bnx.drewN _, fun e => ⟨HI.out.drewN _, HC.out.drewN _, (HP3.out.bcf e).drewN _⟩⟩, below_drewN HP3.out.bel _, HP3.out.ai, HP3.out.mi, HP3.out.ci⟩
              simp only [ciV, cfV, if_true]
      · have m3 : wr.cell? ⟨pl, 3, none⟩ = some (.slice none 0 0) := (HP2.out.bpl.cell 3).trans (by unfold csV; rw [if_neg hv]; rfl)
        have m1 : wr.cell? ⟨pl, 1, none⟩ = some (.slice (some ⟨af, 0, none⟩) i i) := HP2.out.bpl.cell 1
        have m2 : wr.cell? ⟨pl, 2, none⟩ = some (.slice (some ⟨nx, 0, none⟩) i i) := HP2.out.bpl.cell 2
        have m4 : wr.cell? ⟨pl, 4, none⟩ = some (.slice none 0 0) := (HP2.out.bpl.cell 4).trans (by unfold cfV; rw [if_neg hv]; rfl)
        have HV := hide hv
        clear hv
        as_aux_lemma =>
          go_wp2
          go_quiet (fail)
          go_wp2
          refine bodyPost_ret (v := .tuple #[.slice (some ⟨w1.heap.size, 0, none⟩) i i, .slice (some ⟨af, 0, none⟩) i i, .slice (some ⟨nx, 0, none⟩) i i, .slice none 0 0, .slice none 0 0, .slice none 0 0]) (by simp [results, Try.results15, go_sem]) rfl ?_
          refine ⟨M, A, N, CI, CM, CF, len, ⟨w1.heap.size, af, nx, 0, 0, 0, ?_, HB.out.drewN _, HP2.out.baf.drewN _, HP2.out.bnx.drewN _, fun e => absurd e HV.out⟩, below_drewN HP2.out.bel _, HP2.out.ai, HP2.out.mi, HP2.out.ci⟩
          simp only [ciV, cfV, if_neg HV.out]
end Go.Proofs.Qxb6605516a
