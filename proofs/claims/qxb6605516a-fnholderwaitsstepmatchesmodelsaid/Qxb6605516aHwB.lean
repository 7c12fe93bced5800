import Derived.Test.Qxb6605516aHwA
namespace Go.Proofs.Qxb6605516a
open Go.RowKit
set_option linter.unusedVariables false

set_option maxHeartbeats 1000000 in
theorem stepbytes_any (a0 : Option Addr) (n0 c0 : Nat) (a1 : Option Addr) (n1 c1 : Nat) (a2 : Option Addr) (n2 c2 : Nat) (a3 : Option Addr) (n3 c3 : Nat) (L : Nat → Nat) (F : Nat → Nat → Int) (la : Nat → Option Addr) (lc : Nat → Nat) (w : World) (h : Nst w a1 n1 2 L F la lc) :
    Calls Try.prog 21 #[.slice a0 n0 c0, .slice a1 n1 c1, .slice a2 n2 c2, .slice a3 n3 c3] w fun e w' => SomeI e ∧ w' = w := by
  have H1 := hide h.hd
  clear h
  by_cases g0 : 1048576 < n0
  · have d0 : decide ((1048576 : Int) < (n0 : Int)) = true := by simp; omega
    go_enter Try.func21, Try.ntmps21
    go_wp2
    go_ret; exact ⟨someI _, rfl⟩
  have d0 : decide ((1048576 : Int) < (n0 : Int)) = false := by simp; omega
  by_cases g1 : 1048576 < n1
  · have d1 : decide ((1048576 : Int) < (n1 : Int)) = true := by simp; omega
    go_enter Try.func21, Try.ntmps21
    go_wp2
    go_ret; exact ⟨someI _, rfl⟩
  have d1 : decide ((1048576 : Int) < (n1 : Int)) = false := by simp; omega
  by_cases g2 : 1048576 < n2
  · have d2 : decide ((1048576 : Int) < (n2 : Int)) = true := by simp; omega
    go_enter Try.func21, Try.ntmps21
    go_wp2
    go_ret; exact ⟨someI _, rfl⟩
  have d2 : decide ((1048576 : Int) < (n2 : Int)) = false := by simp; omega
  by_cases g3 : 1048576 < n3
  · have d3 : decide ((1048576 : Int) < (n3 : Int)) = true := by simp; omega
    go_enter Try.func21, Try.ntmps21
    go_wp2
    go_ret; exact ⟨someI _, rfl⟩
  have d3 : decide ((1048576 : Int) < (n3 : Int)) = false := by simp; omega
  go_enter Try.func21, Try.ntmps21
  go_wp2
  all_goals (try (go_ret; exact ⟨someI _, rfl⟩))
  go_loop [9, 10] (fun sz si => ∃ (z : Int) (i : Nat), sz = .int .i64 z ∧ si = .int .i64 i ∧ i ≤ n1) (fun _ si => n1 - (intOf si).toNat)
  case atStart => exact ⟨_, 0, rfl, rfl, by omega⟩
  case round =>
    obtain ⟨z, i, rfl, rfl, hi⟩ := hrel
    by_cases hlt : i < n1
    · rcases H1.out with h0 | ⟨b, off, rfl, hb, hc⟩
      · omega
      have c1 := hc i (by omega)
      have Hc := hide hc
      clear hc
      go_wp2
      all_goals (try (go_ret; exact ⟨someI _, rfl⟩))
      go_round
      case rel => exact ⟨_, i + 1, rfl, by go_num, by omega⟩
      case measure => simp [intOf]; omega
    · go_wp2
      all_goals (go_ret; exact ⟨someI _, rfl⟩)

/-- What stepDomain says. -/
def StepDom (ni m no : Nat) (LO : Nat → Int) (L : Nat → Nat) (F : Nat → Nat → Int) (t : Int) : Prop :=
  ∃ tn : Nat, t = (tn : Int) ∧ tn < no ∧ (LO tn < 0 ∨ ∃ p : Nat, LO tn = (p : Int) ∧ p < m ∧ ∀ j, j < L p → (0 ≤ F p (j * 2) ∧ F p (j * 2) < ni) ∧ F p (j * 2 + 1) ≠ 0)
/-- The first j entries are well. -/
structure Dj (ni : Nat) (F : Nat → Int) (s : Value) (j n : Nat) : Prop where
  s : s = .int .i64 j
  hj : j ≤ n
  ok : ∀ i, i < j → (0 ≤ F (i * 2) ∧ F (i * 2) < ni) ∧ F (i * 2 + 1) ≠ 0

set_option maxHeartbeats 1000000 in
theorem stepdomain_any (a0 : Option Addr) (n0 c0 : Nat) (a1 : Option Addr) (n1 c1 : Nat) (a2 : Option Addr) (n2 c2 : Nat) (t : Int) (L : Nat → Nat) (F : Nat → Nat → Int) (LO : Nat → Int) (la : Nat → Option Addr) (lc : Nat → Nat) (w : World) (hn0 : n0 ≤ 65536) (hn1 : n1 ≤ 65536) (hn2 : n2 ≤ 65536) (hL : ∀ i, i < n1 → L i ≤ 1048576)
    (ht : -2147483648 ≤ t ∧ t ≤ 2147483647) (hLO : ∀ i, -2147483648 ≤ LO i ∧ LO i ≤ 2147483647) (hF : ∀ i c, -2147483648 ≤ F i c ∧ F i c ≤ 2147483647) (h : Nst w a1 n1 2 L F la lc) (h2 : IRow w a2 n2 1 LO) :
    Calls Try.prog 22 #[.slice a0 n0 c0, .slice a1 n1 c1, .slice a2 n2 c2, .int .i32 t] w fun e w' => Yes (StepDom n0 n1 n2 LO L F t) e ∧ w' = w := by
  have H := hide h
  have H2 := hide h2
  have HL := hide hL
  have HLO := hide hLO
  have HF := hide hF
  clear h h2 hL hLO hF
  by_cases t0 : t < 0
  · go_enter Try.func22, Try.ntmps22
    go_wp2
    go_ret; exact ⟨yes_no, rfl⟩
  by_cases t1 : (n2 : Int) ≤ t
  · go_enter Try.func22, Try.ntmps22
    go_wp2
    go_ret; exact ⟨yes_no, rfl⟩
  obtain ⟨tn, rfl⟩ := Int.eq_ofNat_of_zero_le (show 0 ≤ t by omega)
  have htn : tn < n2 := by omega
  rcases H2.out with h0 | ⟨b2, off2, rfl, hb2, hc2⟩
  · omega
  have e1 : w.cell? ⟨b2, off2 + tn, none⟩ = some (.int .i32 (LO tn)) := hc2 tn (by omega)
  clear hc2 t0 t1
  obtain ⟨z, hz⟩ : ∃ z, LO tn = z := ⟨_, rfl⟩
  have hzr := HLO.out tn
  rw [hz] at e1 hzr
  have HZ := hide hz
  clear hz
  by_cases z0 : z < 0
  · go_enter Try.func22, Try.ntmps22
    go_wp2
    go_ret; exact ⟨yes_yes ⟨tn, rfl, htn, .inl (by rw [HZ.out]; exact z0)⟩, rfl⟩
  by_cases z1 : (n1 : Int) ≤ z
  · go_enter Try.func22, Try.ntmps22
    go_wp2
    go_ret; exact ⟨yes_no, rfl⟩
  obtain ⟨p, rfl⟩ := Int.eq_ofNat_of_zero_le (show 0 ≤ z by omega)
  have hpn : p < n1 := by omega
  rcases H.out.hd with h0 | ⟨b1, off1, rfl, hb1, hc1⟩
  · omega
  have e2 : w.cell? ⟨b1, off1 + p, none⟩ = some (.slice (la p) (L p) (lc p)) := hc1 p (by omega)
  clear hc1 z0 z1 hzr
  have hLp := HL.out p hpn
  go_enter Try.func22, Try.ntmps22
  go_wp2
  go_loop [11] (fun s => ∃ j, Dj n0 (F p) s j (L p)) (fun s => L p - (intOf s).toNat)
  case atStart => exact ⟨0, rfl, by omega, fun i hi => by omega⟩
  case round =>
    obtain ⟨j, hR⟩ := hrel
    have HR := hide hR
    obtain rfl := hR.s
    have hj := hR.hj
    clear hR
    by_cases hlt : j < L p
    · have hE := H.out.el p hpn
      rcases hE with h0 | ⟨bl, offl, hla, hbl, hcl⟩
      · omega
      rw [hla] at *
      have g0 : w.cell? ⟨bl, offl + j * 2, none⟩ = some (.int .i32 (F p (j * 2))) := hcl (j * 2) (by omega)
      have g1 : w.cell? ⟨bl, offl + (j * 2 + 1), none⟩ = some (.int .i32 (F p (j * 2 + 1))) := hcl (j * 2 + 1) (by omega)
      rw [← Nat.add_assoc] at g1
      clear hcl
      have r0 := HF.out p (j * 2)
      obtain ⟨y, hy⟩ : ∃ y, F p (j * 2) = y := ⟨_, rfl⟩
      obtain ⟨u, hu⟩ : ∃ u, F p (j * 2 + 1) = u := ⟨_, rfl⟩
      rw [hy] at g0 r0
      rw [hu] at g1
      have HY := hide hy
      have HU := hide hu
      clear hy hu
      by_cases y0 : y < 0
      · go_wp2
        go_ret; exact ⟨yes_no, rfl⟩
      by_cases y1 : (n0 : Int) ≤ y
      · go_wp2
        go_ret; exact ⟨yes_no, rfl⟩
      by_cases u0 : u = 0
      · subst u0
        go_wp2
        go_ret; exact ⟨yes_no, rfl⟩
      · have u1 : (u == 0) = false := by simpa using u0
        have U0 := hide u0
        clear u0
        go_wp2
        go_round
        case rel => exact ⟨j + 1, by go_num, by omega, fun i hi => by
          by_cases e : i = j
          · subst e
            rw [HY.out, HU.out]
            exact ⟨⟨by omega, by omega⟩, U0.out⟩
          · exact HR.out.ok i (by omega)⟩
        case measure => simp [intOf]; omega
    · obtain rfl : j = L p := by omega
      go_wp2
      go_ret; exact ⟨yes_yes ⟨tn, rfl, htn, .inr ⟨p, HZ.out, hpn, HR.out.ok⟩⟩, rfl⟩
end Go.Proofs.Qxb6605516a
