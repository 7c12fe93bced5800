import Derived.Test.Qxb6605516aSumB
import Derived.Deep.RegionHeld3
import Derived.Deep.DeepCutAuto
import Derived.Deep.LoopGhost
import Derived.Deep.Light
namespace Go.Proofs.Qxb6605516a
open Go.RowKit


theorem imin4 (x : Int) (h : 0 < x) : ∃ n : Nat, (if 4 < x then 4 else x) = (n : Int) ∧ 0 < n ∧ n ≤ 4 ∧ n = (min x 4).toNat := by
  refine ⟨(min x 4).toNat, ?_, ?_, ?_, rfl⟩
  · split <;> omega
  · omega
  · omega

theorem as_cell {w : World} {b : Nat} {n f0 f1 f2 f3 o y : Int} {t : TypeId} (h : Blk w b (sc n f0 f1 f2 f3 o y) t) (i : Nat) (hi : i < 4) : w.cell? ⟨b, 1 + i, none⟩ = some (.int .i32 ([f0, f1, f2, f3].getD i 0)) := by
  rw [h.cell]
  match i, hi with
  | 0, _ => rfl
  | 1, _ => rfl
  | 2, _ => rfl
  | 3, _ => rfl

/-- A number is laid behind those that stand. -/
theorem out_set {w : World} {b : Nat} {n o y : Int} {t : TypeId} {out : List Int} {k : Nat} (hk : k < 4) (hl : out.length = k) (h : Blk w b (sc n (out.getD 0 0) (out.getD 1 0) (out.getD 2 0) (out.getD 3 0) o y) t) (v : Int) :
    Blk (w.setCell ⟨b, 1 + k, none⟩ (.int .i32 v)) b (sc n ((out ++ [v]).getD 0 0) ((out ++ [v]).getD 1 0) ((out ++ [v]).getD 2 0) ((out ++ [v]).getD 3 0) o y) t := by
  have h' := h.set (1 + k) (.int .i32 v)
  subst hl
  match out, hk with
  | [], _ => simpa [sc] using h'
  | [_], _ => simpa [sc] using h'
  | [_, _], _ => simpa [sc] using h'
  | [_, _, _], _ => simpa [sc] using h'
  | _ :: _ :: _ :: _ :: _, hk => simp at hk; omega

theorem step_x {K k na nb i j : Nat} {fa fb out : List Int} (hk : k < K) (hi : i < na) (hna : na ≤ fa.length) (h : nb ≤ j ∨ fa.getD i 0 < fb.getD j 0) (hjn : j < nb ∨ nb ≤ j)
    (H : out ++ mrg (K - k) ((fa.take na).drop i) ((fb.take nb).drop j) = mrg K (fa.take na) (fb.take nb)) :
    (out ++ [fa.getD i 0]) ++ mrg (K - (k + 1)) ((fa.take na).drop (i + 1)) ((fb.take nb).drop j) = mrg K (fa.take na) (fb.take nb) := by
  rw [← H, show K - k = (K - (k + 1)) + 1 from by omega, mrg_x _ _ _ _ _ (by simp; omega) (by
    rcases hjn with hj | hj
    · rw [take_getD _ _ _ hi, take_getD _ _ _ hj]
      rcases h with h | h
      · omega
      · exact .inr h
    · exact .inl (by simp; omega)), take_getD _ _ _ hi]
  simp
theorem step_y {K k na nb i j : Nat} {fa fb out : List Int} (hk : k < K) (hj : j < nb) (hnb : nb ≤ fb.length) (h : na ≤ i ∨ ¬ fa.getD i 0 < fb.getD j 0)
    (H : out ++ mrg (K - k) ((fa.take na).drop i) ((fb.take nb).drop j) = mrg K (fa.take na) (fb.take nb)) :
    (out ++ [fb.getD j 0]) ++ mrg (K - (k + 1)) ((fa.take na).drop i) ((fb.take nb).drop (j + 1)) = mrg K (fa.take na) (fb.take nb) := by
  rw [← H, show K - k = (K - (k + 1)) + 1 from by omega, mrg_y _ _ _ _ _ (by simp; omega) (by
    by_cases hi : i < na
    · rw [take_getD _ _ _ hi, take_getD _ _ _ hj]
      rcases h with h | h
      · omega
      · exact .inr h
    · exact .inl (by simp; omega)), take_getD _ _ _ hj]
  simp

set_option maxHeartbeats 1000000 in
theorem merge_ab (a b c : Nat) (an a0 a1 a2 a3 ao ay bn b0 b1 b2 b3 bo by_ cn e0 e1 e2 e3 co cy : Int) (w : World) (hn : (an == 0) = false) (hm : (bn == 0) = false) (h0 : 0 < an) (h1 : 0 < bn) (h2 : an + bn ≤ 2147483647) (hA : Blk w a (sc an a0 a1 a2 a3 ao ay) 72) (hB : Blk w b (sc bn b0 b1 b2 b3 bo by_) 72) (hC : Blk w c (sc cn e0 e1 e2 e3 co cy) 72) :
    Calls Try.prog 41 #[.pointer (some ⟨c, 0, none⟩), .pointer (some ⟨a, 0, none⟩), .pointer (some ⟨b, 0, none⟩)] w fun e w' => e = .returned (.tuple #[]) ∧ Kept (· = c) w w' ∧ Blk w' c (sc (an + bn) ((mrg (min (an + bn) 4).toNat ([a0, a1, a2, a3].take (min an 4).toNat) ([b0, b1, b2, b3].take (min bn 4).toNat)).getD 0 0) ((mrg (min (an + bn) 4).toNat ([a0, a1, a2, a3].take (min an 4).toNat) ([b0, b1, b2, b3].take (min bn 4).toNat)).getD 1 0)
      ((mrg (min (an + bn) 4).toNat ([a0, a1, a2, a3].take (min an 4).toNat) ([b0, b1, b2, b3].take (min bn 4).toNat)).getD 2 0) ((mrg (min (an + bn) 4).toNat ([a0, a1, a2, a3].take (min an 4).toNat) ([b0, b1, b2, b3].take (min bn 4).toNat)).getD 3 0) (imin ao bo) (imax ay by_)) 72 := by
  obtain ⟨x0, x1, x2, x3, x4, x5, x6, x7⟩ := sc_cells hA
  obtain ⟨c0, c1, c2, c3, c4, c5, c6, c7⟩ := sc_cells hB
  have la := hA.lt
  have lb := hB.lt
  have lc := hC.lt
  have HC : Hid (Blk w c (sc cn e0 e1 e2 e3 co cy) 72) := hC
  have HA : Hid (Blk w a (sc an a0 a1 a2 a3 ao ay) 72) := hA
  have HB : Hid (Blk w b (sc bn b0 b1 b2 b3 bo by_) 72) := hB
  clear hA hB hC
  obtain ⟨mo, hmo⟩ : ∃ mo, (if bo < ao then bo else ao) = mo := ⟨_, rfl⟩
  obtain ⟨my, hmy⟩ : ∃ my, (if ay < by_ then by_ else ay) = my := ⟨_, rfl⟩
  have Hmo : Hid (imin ao bo = mo) := hmo
  have Hmy : Hid (imax ay by_ = my) := hmy
  go_enter Try.func41, Try.ntmps41
  go_wp2
  go_cut [6] (fun p w1 => p = .pointer (some ⟨w.heap.size, 0, none⟩) ∧ Blk w1 w.heap.size (sc (an + bn) 0 0 0 0 mo my) 72 ∧ Below w.heap.size w w1)
  case first =>
    have hwr : IntKind.i32.wrap (an + bn) = an + bn := by rw [IntKind.wrap_i32]; omega
    go_region_held3 (fun w' => w'.cell? ⟨a, 0, none⟩ = some (.int .i32 an) ∧ w'.cell? ⟨b, 0, none⟩ = some (.int .i32 bn) ∧ w'.cell? ⟨a, 5, none⟩ = some (.int .i32 ao) ∧ w'.cell? ⟨b, 5, none⟩ = some (.int .i32 bo) ∧ w'.cell? ⟨a, 6, none⟩ = some (.int .i32 ay) ∧ w'.cell? ⟨b, 6, none⟩ = some (.int .i32 by_)) (simp [*, go_sem, World.cell?_alloc_past]) (fail)
    all_goals
      go_step
      go_step
      go_meet
      case rel => exact ⟨rfl, (Blk.new _ _ _).drew, ((Below.refl _ _).alloc (Nat.le_refl _) _).drew⟩
  case rest =>
    obtain ⟨rfl, hM, hbel⟩ := hcut
    have HM := hide hM
    obtain ⟨m0, m1, m2, m3, m4, m5, m6, m7⟩ := sc_cells hM
    clear hM
    obtain ⟨hc, hf⟩ := bcell hbel
    obtain ⟨na, hna, na0, na4, ena⟩ := imin4 an h0
    obtain ⟨nb, hnb, nb0, nb4, enb⟩ := imin4 bn h1
    obtain ⟨K, hK, K0, K4, eK⟩ := imin4 (an + bn) (by omega)
    have Ena := hide ena
    have Enb := hide enb
    have EK := hide eK
    clear ena enb eK
    have hKn : K ≤ na + nb := by have := Ena.out; have := Enb.out; have := EK.out; omega
    go_wp2
    go_quiet (fail)
    go_wp2
    clear m0 m1 m2 m3 m4 m5 m6 m7
    clear x1 x2 x3 x4 c1 c2 c3 c4
    go_loopw [9, 10, 73] (fun si sj sk wr => ∃ (i j k : Nat) (out : List Int), si = .int .i32 i ∧ sj = .int .i32 j ∧ sk = .int .i32 k ∧ i + j = k ∧ k ≤ K ∧ i ≤ na ∧ j ≤ nb ∧ out.length = k ∧
        out ++ mrg (K - k) (([a0, a1, a2, a3].take na).drop i) (([b0, b1, b2, b3].take nb).drop j) = mrg K ([a0, a1, a2, a3].take na) ([b0, b1, b2, b3].take nb) ∧
        Blk wr w.heap.size (sc (an + bn) (out.getD 0 0) (out.getD 1 0) (out.getD 2 0) (out.getD 3 0) mo my) 72 ∧ Below w.heap.size w wr)
      (fun _ _ sk _ => K - (intOf sk).toNat)
    case atStart => exact ⟨0, 0, 0, [], rfl, rfl, rfl, rfl, by omega, by omega, by omega, rfl, by simp, HM.out, below_drewN hbel _⟩
    case round =>
      obtain ⟨i, j, k, out, rfl, rfl, rfl, hij, hkK, hin, hjn, hol, hout, hM, hbw⟩ := hrel
      have HM2 := hide hM
      have Hout := hide hout
      have Hij := hide hij
      have Hol := hide hol
      clear hM hout hc hf hij hol
      have fM := HM2.out.free
      obtain ⟨v0, hv0⟩ : ∃ v, k < K → wr.cell? ⟨w.heap.size, 1 + k, none⟩ = some v := by
        by_cases h : k < K
        · exact ⟨_, fun _ => as_cell HM2.out k (by omega)⟩
        · exact ⟨undef, fun h' => (h h').elim⟩
      by_cases hlt : k < K
      · have hv1 := hv0 hlt
        clear hv0
        have close_x : ∀ nq, i < na → (nb ≤ j ∨ [a0, a1, a2, a3].getD i 0 < [b0, b1, b2, b3].getD j 0) → ∃ (i' j' k' : Nat) (out : List Int), Value.int .i32 ((i : Int) + 1) = .int .i32 i' ∧ Value.int .i32 (j : Int) = .int .i32 j' ∧ Value.int .i32 ((k : Int) + 1) = .int .i32 k' ∧ i' + j' = k' ∧ k' ≤ K ∧ i' ≤ na ∧ j' ≤ nb ∧ out.length = k' ∧
            out ++ mrg (K - k') (([a0, a1, a2, a3].take na).drop i') (([b0, b1, b2, b3].take nb).drop j') = mrg K ([a0, a1, a2, a3].take na) ([b0, b1, b2, b3].take nb) ∧
            Blk (((wr.drewN nq).setCell ⟨w.heap.size, 1 + k, none⟩ (.int .i32 ([a0, a1, a2, a3].getD i 0)))) w.heap.size (sc (an + bn) (out.getD 0 0) (out.getD 1 0) (out.getD 2 0) (out.getD 3 0) mo my) 72 ∧ Below w.heap.size w ((wr.drewN nq).setCell ⟨w.heap.size, 1 + k, none⟩ (.int .i32 ([a0, a1, a2, a3].getD i 0))) := by
          intro nq hi h
          exact ⟨i + 1, j, k + 1, out ++ [[a0, a1, a2, a3].getD i 0], by go_num, rfl, by go_num, by have := Hij.out; omega, by omega, by omega, hjn, by simp [Hol.out], step_x hlt hi na4 h (by omega) Hout.out, out_set (by omega) Hol.out (HM2.out.drewN _) _, (below_drewN hbw _).setCell (Nat.le_refl _) _⟩
        have close_y : ∀ nq, j < nb → (na ≤ i ∨ ¬ [a0, a1, a2, a3].getD i 0 < [b0, b1, b2, b3].getD j 0) → ∃ (i' j' k' : Nat) (out : List Int), Value.int .i32 (i : Int) = .int .i32 i' ∧ Value.int .i32 ((j : Int) + 1) = .int .i32 j' ∧ Value.int .i32 ((k : Int) + 1) = .int .i32 k' ∧ i' + j' = k' ∧ k' ≤ K ∧ i' ≤ na ∧ j' ≤ nb ∧ out.length = k' ∧
            out ++ mrg (K - k') (([a0, a1, a2, a3].take na).drop i') (([b0, b1, b2, b3].take nb).drop j') = mrg K ([a0, a1, a2, a3].take na) ([b0, b1, b2, b3].take nb) ∧
            Blk (((wr.drewN nq).setCell ⟨w.heap.size, 1 + k, none⟩ (.int .i32 ([b0, b1, b2, b3].getD j 0)))) w.heap.size (sc (an + bn) (out.getD 0 0) (out.getD 1 0) (out.getD 2 0) (out.getD 3 0) mo my) 72 ∧ Below w.heap.size w ((wr.drewN nq).setCell ⟨w.heap.size, 1 + k, none⟩ (.int .i32 ([b0, b1, b2, b3].getD j 0))) := by
          intro nq hj h
          exact ⟨i, j + 1, k + 1, out ++ [[b0, b1, b2, b3].getD j 0], rfl, by go_num, by go_num, by have := Hij.out; omega, by omega, hin, by omega, by simp [Hol.out], step_y hlt hj nb4 h Hout.out, out_set (by omega) Hol.out (HM2.out.drewN _) _, (below_drewN hbw _).setCell (Nat.le_refl _) _⟩
        have CX := hide close_x
        have CY := hide close_y
        clear close_x close_y
        have Hbw := hide hbw
        have ca : i < na → wr.cell? ⟨a, 1 + i, none⟩ = some (.int .i32 ([a0, a1, a2, a3].getD i 0)) := fun h => as_cell (HA.out.below hbw la) i (by omega)
        have cb : j < nb → wr.cell? ⟨b, 1 + j, none⟩ = some (.int .i32 ([b0, b1, b2, b3].getD j 0)) := fun h => as_cell (HB.out.below hbw lb) j (by omega)
        clear hbw hbel
        by_cases hj : j < nb
        · have hj1 : ((j : Int) == (nb : Int)) = false := by simp; omega
          have cb' := cb hj
          clear cb
          by_cases hi : i < na
          · have ca' := ca hi
            clear ca
            have hi' : (i : Int) < (na : Int) := by omega
            go_wp2
            go_quiet (fail)
            go_wp2
            · go_roundw
              case rel => exact CX.out _ hi (.inr ‹[a0, a1, a2, a3][i]?.getD 0 < [b0, b1, b2, b3][j]?.getD 0›)
              case measure => simp [intOf]; omega
            · go_roundw
              case rel => exact CY.out _ hj (.inr ‹[b0, b1, b2, b3][j]?.getD 0 ≤ [a0, a1, a2, a3][i]?.getD 0›)
              case measure => simp [intOf]; omega
          · clear ca
            have hi' : decide ((i : Int) < (na : Int)) = false := by simp; omega
            go_wp2
            go_quiet (fail)
            go_wp2
            go_roundw
            case rel => exact CY.out _ hj (.inl (by omega))
            case measure => simp [intOf]; omega
        · obtain rfl : nb = j := by omega
          have hi : i < na := by have := Hij.out; omega
          have ca' := ca hi
          clear ca cb
          go_wp2
          go_quiet (fail)
          go_wp2
          go_roundw
          case rel => exact CX.out _ hi (.inl (Nat.le_refl _))
          case measure => simp [intOf]; omega
      · clear hv0
        obtain ⟨m0, m1, m2, m3, m4, m5, m6, m7⟩ := sc_cells HM2.out
        obtain ⟨z0, z1, z2, z3, z4, z5, z6, z7⟩ := sc_cells (HC.out.below hbw lc)
        have fz := (HC.out.below hbw lc).free
        have Hbw := hide hbw
        clear hbw hbel fM
        go_wp2
        go_end0
        obtain ⟨h1, h2⟩ := set8 (HC.out.below Hbw.out lc) (an + bn) (out.getD 0 0) (out.getD 1 0) (out.getD 2 0) (out.getD 3 0) mo my rfl
        have e : out = mrg (min (an + bn) 4).toNat ([a0, a1, a2, a3].take (min an 4).toNat) ([b0, b1, b2, b3].take (min bn 4).toNat) := by
          have := Hout.out
          rw [show K - k = 0 from by omega] at this
          simp only [mrg, List.append_nil] at this
          rw [this, Ena.out, Enb.out, EK.out]
        rw [← e, Hmo.out, Hmy.out]
        exact ⟨rfl, (Kept.ofBelow Hbw.out (fun _ h _ => h)).trans h1, h2⟩
end Go.Proofs.Qxb6605516a
