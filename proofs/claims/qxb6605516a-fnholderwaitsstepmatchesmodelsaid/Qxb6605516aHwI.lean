import Derived.Test.Qxb6605516aHwH
namespace Go.Proofs.Qxb6605516a
open Go.RowKit
set_option linter.unusedVariables false

theorem zzstep_any (bh : Nat) (ask keep ep : Int) (ia : Option Addr) (ni : Nat) (ha : Option Addr) (m : Nat) (o4 : Option Addr) (n4 c4 : Nat) (o5 : Option Addr) (n5 c5 : Nat) (G : Nat → Int) (L : Nat → Nat) (F : Nat → Nat → Int) (zz : Nat → Prop) (la : Nat → Option Addr) (LO : Nat → Int) (t d : Int) (w : World)
    (hni : ni ≤ 65536) (hm : m ≤ 65536) (hL : ∀ i, i < m → L i ≤ 1048576) (hG : ∀ c, -2147483648 ≤ G c ∧ G c ≤ 2147483647) (hD : StepDom ni m n4 LO L F t)
    (hH : Hold w bh ask keep ep ia ni G ha m L F zz la (.slice o4 n4 c4) (.slice o5 n5 c5)) (h4 : IRowB w bh o4 n4 1 LO) :
    Calls Try.prog 27 #[.pointer (some ⟨bh, 0, none⟩), .int .i32 t, .int .i32 d] w fun e w' => e = .returned (.tuple #[]) ∧ ∃ tn : Nat, t = (tn : Int) ∧ ∃ H L' F' lc', Stp w w' bh ia ni G ha m L F la d (LO tn) H L' F' lc' := by
  have HC := hide (step_any bh ask keep ep ia ni ha m o4 n4 c4 o5 n5 c5 G L F zz la LO t d w hni hm hL hG hD hH h4)
  clear hL hG hD hH h4
  go_enter Try.func27, Try.ntmps27
  go_wp2_with fail
  refine HC.out.mono ?_
  rintro e w' ⟨rfl, hS⟩
  have HS := hide hS
  clear hS
  go_wp2
  first | go_end0 | ((try simp only [Exit.inBlock, Exit.then]); refine bodyPost_ret (results_none rfl _ _ _) rfl ?_)
  exact ⟨rfl, HS.out⟩

theorem reset_any (s : Int) (hs : -2147483648 ≤ s ∧ s ≤ 2147483647) (w : World) : Calls Try.prog 31 #[.int .i32 s] w fun e w' => e = .returned (.int .i64 (rst s)) ∧ w' = w := by
  by_cases h0 : 0 ≤ s
  · go_enter Try.func31, Try.ntmps31
    go_wp2
    go_ret
    refine ⟨?_, rfl⟩
    unfold rst
    rw [if_pos h0]
    rfl
  · by_cases h1 : s = -2147483648
    · subst h1
      go_enter Try.func31, Try.ntmps31
      go_wp2
      go_ret
      exact ⟨rfl, rfl⟩
    · have e1 : (s == -2147483648) = false := by simpa using h1
      have H1 := hide h1
      clear h1
      go_enter Try.func31, Try.ntmps31
      go_wp2
      go_ret
      refine ⟨?_, rfl⟩
      have : rst s = 1 := by unfold rst; rw [if_neg (by omega), if_neg H1.out]
      rw [this]
      rfl

/-- The loop of sameI32. -/
structure SmL (w : World) (n : Nat) (s : Value) (wr : World) (i k : Nat) : Prop where
  s : s = .int .i64 i
  hi : i ≤ n
  wr : wr = w.drewN k
theorem drewN_zero (w : World) : w = w.drewN 0 := rfl

set_option maxHeartbeats 400000 in
theorem same_any (a b : Option Addr) (n c1 c2 : Nat) (F : Nat → Int) (hn : n ≤ 1048576) (w : World) (hz : a = none ↔ b = none) (z : a = none → n = 0) (h1 : IRow w a n 1 F) (h2 : IRow w b n 1 F) :
    Calls Try.prog 29 #[.slice a n c1, .slice b n c2] w fun e w' => e = .returned (.bool true) ∧ ∃ k, w' = w.drewN k := by
  have H1 := hide h1
  have H2 := hide h2
  clear h1 h2
  cases a with
  | none =>
    obtain rfl := hz.1 rfl
    have hn0 := z rfl
    subst hn0
    have e1 := fun w => Lib.run_eql_slice_nil (P := Try.prog) w 35 21 none 0 c1 0 0 Try.underlying35
    have e2 := fun w => Lib.run_eql_slice_nil (P := Try.prog) w 35 21 none 0 c2 0 0 Try.underlying35
    clear hz z
    go_enter Try.func29, Try.ntmps29
    go_wp2
    go_loopw [5] (fun s wr => s = .int .i64 0 ∧ wr = w) (fun _ _ => 0)
    case atStart => exact ⟨rfl, rfl⟩
    case round =>
      obtain ⟨rfl, rfl⟩ := hrel
      go_wp2
      go_ret
      exact ⟨rfl, 0, drewN_zero _⟩
  | some x =>
    obtain ⟨y, rfl⟩ : ∃ y, b = some y := by
      cases b with
      | none => have := hz.2 rfl; cases this
      | some y => exact ⟨y, rfl⟩
    have e1 := fun w => Lib.run_eql_slice_nil (P := Try.prog) w 35 21 (some x) n c1 0 0 Try.underlying35
    have e2 := fun w => Lib.run_eql_slice_nil (P := Try.prog) w 35 21 (some y) n c2 0 0 Try.underlying35
    clear hz z
    go_enter Try.func29, Try.ntmps29
    go_wp2
    clear e1 e2
    go_loopw [5] (fun s wr => ∃ i k, SmL w n s wr i k) (fun s _ => n - (intOf s).toNat)
    case atStart => exact ⟨0, 0, rfl, by omega, drewN_zero _⟩
    case round =>
      obtain ⟨i, k, hR⟩ := hrel
      obtain rfl := hR.s
      have hi := hR.hi
      obtain rfl := hR.wr
      clear hR
      by_cases hlt : i < n
      · rcases H1.out with h0 | ⟨b1, o1, hx, hb1, hc1⟩
        · omega
        simp only [Option.some.injEq] at hx
        subst hx
        rcases H2.out with h0 | ⟨b2, o2, hx, hb2, hc2⟩
        · omega
        simp only [Option.some.injEq] at hx
        subst hx
        have c1 := IRow.cell hc1 i (by omega)
        have c2 := IRow.cell hc2 i (by omega)
        clear hc1 hc2
        go_wp2
        go_quiet (fail)
        go_wp2
        go_roundw
        case rel => exact ⟨i + 1, _, by go_num, by omega, rfl⟩
        case measure => simp [intOf]; omega
      · go_wp2
        go_ret
        exact ⟨rfl, k, rfl⟩

theorem info_i64 : (Try.prog.info? 2).map (fun i => (i.zero, i.size, i.bytes)) = some (some (.int .i64 0), 1, 8) := by kernel_rfl
theorem make_i64 (n : Nat) (h : n ≤ 1048577) (w : World) : (Instr.makeSlice 59 (.int .i64 (n : Int)) (.int .i64 (n : Int))).run Try.prog w = .ok (.slice (some ⟨w.heap.size, 0, none⟩) n n) (w.alloc (.cells (madeCells #[.int .i64 0] n) 2)) :=
  run_make_row' 59 2 (.int .i64 0) 8 Try.underlying59 info_i64 rfl .i64 .i64 n (by omega) (by omega) w
/-- The counts of list p. -/
def cnts (L : Nat → Nat) (F : Nat → Nat → Int) (G : Nat → Int) (p : Int) (x : Nat) : Nat := if p < 0 then 0 else cm (F p.toNat) G x (L p.toNat)
structure Cnt (w w' : World) (e : Ending) (ni : Nat) (C : Nat → Int) : Prop where
  ret : e = .returned (.slice (some ⟨w.heap.size, 0, none⟩) ni ni)
  blk : Blk w' w.heap.size (irow .i64 ni C) 2
  bel : Below w.heap.size w w'
structure CntL (w : World) (ni Lq : Nat) (Fq G : Nat → Int) (s : Value) (wr : World) (j : Nat) (C : Nat → Int) : Prop where
  s : s = .int .i64 j
  hj : j ≤ Lq
  blk : Blk wr w.heap.size (irow .i64 ni C) 2
  c : ∀ x, x < ni → C x = (cm Fq G x j : Nat)
  bel : Below w.heap.size w wr

set_option maxHeartbeats 1000000 in
theorem counts_any (a0 : Option Addr) (ni c0 : Nat) (a1 : Option Addr) (m c1 : Nat) (p : Int) (L : Nat → Nat) (F : Nat → Nat → Int) (G : Nat → Int) (la : Nat → Option Addr) (lc : Nat → Nat) (hni : ni ≤ 65536) (hL : ∀ i, i < m → L i ≤ 1048576) (w : World)
    (h0 : IRow w a0 ni 3 G) (h1 : Nst w a1 m 2 L F la lc) (hp : p < 0 ∨ ∃ q : Nat, p = (q : Int) ∧ q < m ∧ ∀ j, j < L q → (0 ≤ F q (j * 2) ∧ F q (j * 2) < ni) ∧ F q (j * 2 + 1) ≠ 0) :
    Calls Try.prog 30 #[.slice a0 ni c0, .slice a1 m c1, .int .i32 p] w fun e w' => ∃ C : Nat → Int, Cnt w w' e ni C ∧ ∀ x, x < ni → C x = (cnts L F G p x : Nat) := by
  have H0 := hide h0
  have H1 := hide h1
  have HL := hide hL
  have HP := hide hp
  clear h0 h1 hL hp
  have hmk := make_i64 ni (by omega)
  by_cases hp0 : p < 0
  · go_enter Try.func30, Try.ntmps30
    go_wp2
    go_ret
    exact ⟨fun _ => 0, ⟨rfl, Blk.made _ _ _ _, (Below.refl _ _).alloc (Nat.le_refl _) _⟩, fun x hx => by unfold cnts; rw [if_pos hp0]; rfl⟩
  · obtain ⟨q, rfl, hqm, hok⟩ := HP.out.resolve_left hp0
    have HOK := hide hok
    clear hok
    rcases H1.out.hd with h0 | ⟨b1, o1, rfl, hb1, hc1⟩
    · omega
    have g1 : w.cell? ⟨b1, o1 + q, none⟩ = some (.slice (la q) (L q) (lc q)) := hc1 q (by omega)
    clear hc1
    have hLq := HL.out q hqm
    go_enter Try.func30, Try.ntmps30
    go_wp2
    clear hmk g1
    go_loopw [9] (fun s wr => ∃ (j : Nat) (C : Nat → Int), CntL w ni (L q) (F q) G s wr j C) (fun s _ => L q - (intOf s).toNat)
    case atStart => exact ⟨0, _, rfl, by omega, Blk.made _ _ _ _, fun x hx => rfl, (Below.refl _ _).alloc (Nat.le_refl _) _⟩
    case round =>
      obtain ⟨j, C, hR⟩ := hrel
      have HR := hide hR
      obtain rfl := hR.s
      have hj := hR.hj
      clear hR
      by_cases hlt : j < L q
      · have hok := HOK.out j hlt
        obtain ⟨x, hx⟩ := Int.eq_ofNat_of_zero_le hok.1.1
        have hxn : x < ni := by omega
        rcases H1.out.el q hqm with h0 | ⟨bl, ol, hla, hbl, hcl⟩
        · omega
        rw [hla] at *
        have r0 := (HR.out.bel.cell (p := ⟨bl, ol + j * 2, none⟩) hbl).trans (IRow.cell hcl (j * 2) (by omega))
        have r1 := (HR.out.bel.cell (p := ⟨bl, ol + (j * 2 + 1), none⟩) hbl).trans (IRow.cell hcl (j * 2 + 1) (by omega))
        rw [hx] at r0
        rw [← Nat.add_assoc] at r1
        have HX := hide hx
        rcases H0.out with h0 | ⟨b0, o0, rfl, hb0, hc0⟩
        · omega
        have i0 := (HR.out.bel.cell (p := ⟨b0, o0 + x * 3, none⟩) hb0).trans (IRow.cell hc0 (x * 3) (by omega))
        have d0 := HR.out.blk.rcell x hxn
        have f0 := HR.out.blk.free
        have hcx := HR.out.c x hxn
        have hcle := cm_le (F q) G x j
        rw [hcx] at d0
        clear hcl hc0 hok hx hla hcx
        obtain ⟨u, hu⟩ : ∃ u, F q (j * 2 + 1) = u := ⟨_, rfl⟩
        obtain ⟨g, hg⟩ : ∃ g, G (x * 3) = g := ⟨_, rfl⟩
        rw [hu] at r1
        rw [hg] at i0
        have HU := hide hu
        have HGx := hide hg
        clear hu hg
        by_cases he : g = u
        · have HM : Hid (G (x * 3) = F q (j * 2 + 1)) := by unfold Hid; rw [HGx.out, HU.out]; exact he
          subst he
          go_wp2
          go_quiet (fail)
          go_wp2
          go_roundw
          case rel =>
            refine ⟨j + 1, _, by go_num, by omega, (HR.out.blk.drewN _).rset x ((cm (F q) G x j : Nat) + 1), fun y hy => ?_, (below_drewN HR.out.bel _).setCell (Nat.le_refl _) _⟩
            by_cases e : y = x
            · subst e; rw [upd_same, cm_hit HX.out HM.out]; rfl
            · rw [upd_other _ _ _ _ e, cm_other HX.out e]; exact HR.out.c y hy
          case measure => simp [intOf]; omega
        · have e1 : (g == u) = false := by simpa using he
          have HM : Hid (¬ G (x * 3) = F q (j * 2 + 1)) := by unfold Hid; rw [HGx.out, HU.out]; exact he
          clear he
          go_wp2
          go_quiet (fail)
          go_wp2
          go_roundw
          case rel =>
            refine ⟨j + 1, _, by go_num, by omega, HR.out.blk.drewN _, fun y hy => ?_, below_drewN HR.out.bel _⟩
            rw [HR.out.c y hy]
            by_cases e : y = x
            · subst e
              simp only [cm]
              rw [if_neg (fun hh => HM.out hh.2)]
              rfl
            · rw [cm_other HX.out e]
          case measure => simp [intOf]; omega
      · obtain rfl : j = L q := by omega
        go_wp2
        go_ret
        exact ⟨C, ⟨rfl, HR.out.blk, HR.out.bel⟩, fun x hx => by unfold cnts; rw [if_neg (by omega), Int.toNat_natCast]; exact HR.out.c x hx⟩
end Go.Proofs.Qxb6605516a
