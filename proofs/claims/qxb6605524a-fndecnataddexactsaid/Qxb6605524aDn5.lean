import Derived.Test.Qxb6605524aDn2
import Derived.Test.Qxb6605524aPn
namespace Go.Proofs.Qxb6605524a
open Go.RowKit
set_option linter.unusedVariables false

theorem info5 : (Try.prog.info? 5).map (fun i => (i.zero, i.size, i.bytes)) = some (some (.int .u8 0), 1, 1) := by kernel_rfl
theorem make28 (n : Nat) (h : n ≤ 18 * 1048577) (w : World) : (Instr.makeSlice 28 (.int .i64 (n : Int)) (.int .i64 (n : Int))).run Try.prog w = .ok (.slice (some ⟨w.heap.size, 0, none⟩) n n) (w.alloc (.cells (madeCells #[.int .u8 0] n) 5)) :=
  run_make_row' 28 5 (.int .u8 0) 1 Try.underlying28 info5 rfl .i64 .i64 n (by omega) (by omega) w

/-- A slice of bytes that can be read. -/
structure Sb (w : World) (a : Option Addr) (n : Nat) (L : List Int) : Prop where
  len : L.length = n
  cells : n = 0 ∨ ∃ b off, a = some ⟨b, off, none⟩ ∧ b < w.heap.size ∧ ∀ i, i < n → w.cell? ⟨b, off + i, none⟩ = some (.int .u8 (L.getD i 0))
theorem Sb.below {w w' : World} {a : Option Addr} {n : Nat} {L : List Int} (h : Sb w a n L) (hb : Below w.heap.size w w') : Sb w' a n L := by
  refine ⟨h.len, ?_⟩
  rcases h.cells with h | ⟨b, off, rfl, hlt, hc⟩
  · exact .inl h
  · exact .inr ⟨b, off, rfl, Nat.lt_of_lt_of_le hlt hb.size, fun c h => by rw [hb.cell hlt]; exact hc c h⟩
theorem Sb.own {w : World} {g : Nat} {L : List Int} (h : Blk w g (ints .u8 L) 5) (n : Nat) (hn : n ≤ L.length) : Sb w (some ⟨g, 0, none⟩) n (L.take n) := by
  refine ⟨by simp; omega, .inr ⟨g, 0, rfl, h.lt, fun i hi => ?_⟩⟩
  rw [Nat.zero_add, h.icell i (by omega)]
  simp [hi]
/-- The answer is a slice of bytes that can be read. -/
structure RetSb (w w' : World) (e : Ending) (n : Nat) (L : List Int) : Prop where
  ret : ∃ a c, e = .returned (.slice a n c) ∧ Sb w' a n L
  bel : Below w.heap.size w w'

set_option maxHeartbeats 400000 in
/-- zzStrip. -/
theorem bstrip_any (g n c : Nat) (L : List Int) (hn : n ≤ 18 * 1048577) (hnc : n ≤ c) (hc : c ≤ 18 * 1048577) (w : World) (h : Blk w g (ints .u8 L) 5) (hl : L.length = n) :
    Calls Try.prog 17 #[.slice (some ⟨g, 0, none⟩) n c] w fun e w' => e = .returned (.slice (some ⟨g, 0, none⟩) (nz L n) c) ∧ w' = w := by
  have H := hide h
  have Hl := hide hl
  clear h hl
  go_enter Try.func17, Try.ntmps17
  go_wp2
  go_loop [3] (fun s => ∃ k : Nat, s = .int .i64 k ∧ k ≤ n ∧ nz L k = nz L n) (fun s => (intOf s).toNat)
  case atStart => exact ⟨n, rfl, Nat.le_refl _, rfl⟩
  case round =>
    obtain ⟨k, rfl, hk, he⟩ := hrel
    have He := hide he
    clear he
    by_cases h0 : k = 0
    · subst h0
      have h0' : decide ((0 : Int) < 0) = false := by simp
      go_wp2
      go_ret
      rw [← He.out]
      exact ⟨rfl, rfl⟩
    · obtain ⟨m, rfl⟩ : ∃ m, k = m + 1 := ⟨k - 1, by omega⟩
      have c0 := H.out.icell m (by have := Hl.out; omega)
      by_cases hz : L.getD m 0 = 0
      · have hz' : (L[m]?.getD 0 == 0) = true := by simpa using hz
        have Hz := hide hz
        clear hz
        go_wp2
        go_round
        case rel => exact ⟨m, rfl, by omega, by rw [← He.out, nz_succ_zero Hz.out]⟩
        case measure => simp [intOf]
      · have hz' : (L[m]?.getD 0 == 0) = false := by simpa using hz
        have Hz := hide hz
        clear hz
        go_wp2
        go_ret
        rw [← He.out, nz_succ_ne Hz.out]
        exact ⟨rfl, rfl⟩

set_option maxHeartbeats 1000000 in
/-- zzSameBytes. -/
theorem bsame_any (a0 : Option Addr) (n0 c0 : Nat) (a1 : Option Addr) (n1 c1 : Nat) (A : List Int) (h0 : n0 ≤ 18 * 1048577) (w : World) (hA : Sb w a0 n0 A) (hB : Sb w a1 n1 A) :
    Calls Try.prog 9 #[.slice a0 n0 c0, .slice a1 n1 c1] w fun e w' => e = .returned (.bool true) ∧ Below w.heap.size w w' := by
  have HA := hide hA
  have HB := hide hB
  obtain rfl : n0 = n1 := by rw [← hA.len, ← hB.len]
  clear hA hB
  have e0 : ((n0 : Int) != (n0 : Int)) = false := by simp
  go_enter Try.func9, Try.ntmps9
  go_wp2
  go_loopw [5] (fun s wr => ∃ i : Nat, i ≤ n0 ∧ s = .int .i64 i ∧ Below w.heap.size w wr) (fun s _ => n0 - (intOf s).toNat)
  case atStart => exact ⟨0, by omega, rfl, Below.refl _ _⟩
  case round =>
    obtain ⟨i, hi, rfl, hb⟩ := hrel
    have Hb := hide hb
    clear hb
    by_cases hlt : i < n0
    · rcases (HA.out.below Hb.out).cells with g0 | ⟨b, off, rfl, hbl, hca⟩
      · omega
      rcases (HB.out.below Hb.out).cells with g0 | ⟨b', off', rfl, hbl', hcb⟩
      · omega
      have k0 := hca i hlt
      have k1 := hcb i hlt
      clear hca hcb
      go_wp2
      go_quiet (fail)
      go_wp2
      go_roundw
      case rel => exact ⟨i + 1, by omega, by go_num, below_drewN Hb.out _⟩
      case measure => simp [intOf]; omega
    · go_wp2
      go_ret
      exact ⟨rfl, Hb.out⟩

/-- At the head of the digits' outer loop. -/
structure RD (w : World) (x : List Int) (si : Value) (wr : World) (i : Nat) (out : List Int) : Prop where
  hi : i ≤ x.length
  si : si = .int .i64 i
  len : out.length = 18 * i
  eq : out ++ digs (x.drop i) = digs x
  blk : Blk wr w.heap.size (ints .u8 (half out (18 * x.length))) 5
  bel : Below w.heap.size w wr
/-- .. and of its inner loop. -/
structure RE (w : World) (x : List Int) (i : Nat) (sk sv : Value) (wr : World) (k : Nat) (v : Int) (out : List Int) : Prop where
  hk : k ≤ 18
  sk : sk = .int .i64 k
  sv : sv = .int .u64 v
  v0 : 0 ≤ v
  v1 : v < 1000000000000000000
  len : out.length = 18 * i + k
  eq : out ++ (dg (18 - k) v ++ digs (x.drop (i + 1))) = digs x
  blk : Blk wr w.heap.size (ints .u8 (half out (18 * x.length))) 5
  bel : Below w.heap.size w wr
theorem Lb.at' {l : List Int} (h : Lb l) (i : Nat) : 0 ≤ l[i]?.getD 0 ∧ l[i]?.getD 0 < 1000000000000000000 := by
  have := Lb.at h i; simpa using this
set_option maxHeartbeats 1000000 in
/-- zzDigits. -/
theorem digits_any (a : Option Addr) (n c : Nat) (x : List Int) (hn : n ≤ 131073) (w : World) (hx : Sl w a n x) (lx : Lb x) :
    Calls Try.prog 10 #[.slice a n c] w fun e w' => RetSb w w' e (strip (digs x)).length (strip (digs x)) := by
  have HX := hide hx
  have LX := hide lx
  have Hl := hide hx.len
  clear hx lx
  have hmk := make28 (18 * n) (by omega)
  have ec : ((18 * n : Nat) : Int) = 18 * (n : Int) := by omega
  rw [ec] at hmk
  clear ec
  go_enter Try.func10, Try.ntmps10
  go_wp2
  clear hmk
  go_loopw [4] (fun s wr => ∃ (i : Nat) (out : List Int), RD w x s wr i out) (fun s _ => n - (intOf s).toNat)
  case atStart => exact ⟨0, [], by omega, rfl, rfl, rfl, by have h := Blk.made w .u8 (18 * n) 5; rw [Hl.out]; simpa [half] using h, (Below.refl _ _).alloc (Nat.le_refl _) _⟩
  case round =>
    obtain ⟨i, out, hi, rfl, hol, heq, hB, hb⟩ := hrel
    have Hol := hide hol
    have Heq := hide heq
    have HB := hide hB
    have Hb := hide hb
    have hi' : i ≤ n := by have := Hl.out; omega
    clear hol heq hB hb hi
    by_cases hlt : i < n
    · rcases (HX.out.below Hb.out).cells with g0 | ⟨b, off, rfl, hbl, hcx⟩
      · omega
      have k0 := hcx i hlt
      clear hcx
      have bx := LX.out.at' i
      have Bx := hide bx
      clear bx
      go_wp2
      go_loopw [6, 5] (fun sk sv wr => ∃ (k : Nat) (v : Int) (out : List Int), RE w x i sk sv wr k v out) (fun sk _ _ => 18 - (intOf sk).toNat)
      case atStart => exact ⟨0, _, out, by omega, rfl, rfl, Bx.out.1, Bx.out.2, by rw [Hol.out]; rfl, by
          have q := Heq.out
          rw [drop_getD x i (by have := Hl.out; omega), digs] at q
          simpa using q, HB.out, Hb.out⟩
      case round =>
        obtain ⟨k, v, out', hk, rfl, rfl, hv0, hv1, hol', heq', hB', hb'⟩ := hrel
        have Hol' := hide hol'
        have Heq' := hide heq'
        have HB' := hide hB'
        have Hb' := hide hb'
        clear hol' heq' hB' hb' HB Hb k0
        have f0 := HB'.out.free
        by_cases hk1 : k < 18
        · have hhl : (half out' (18 * x.length)).length = 18 * n := by rw [half_len _ _ (by rw [Hol'.out, Hl.out]; omega), Hl.out]
          have Hhl := hide hhl
          clear hhl
          obtain ⟨v0, hv0'⟩ : ∃ v, wr.cell? ⟨w.heap.size, 18 * i + k, none⟩ = some v := ⟨_, HB'.out.icell (18 * i + k) (by rw [Hhl.out]; omega)⟩
          have e1 : v.tmod 10 = v % 10 := Int.tmod_eq_emod_of_nonneg hv0
          have e2 : v.tdiv 10 = v / 10 := Int.tdiv_eq_ediv_of_nonneg hv0
          have E1 := hide e1
          have E2 := hide e2
          clear e1 e2
          have hw : IntKind.u8.wrap (v.tmod 10) = v.tmod 10 := by rw [IntKind.wrap_u8, E1.out]; omega
          have hw2 : IntKind.u64.wrap (v.tmod 10) = v.tmod 10 := by rw [IntKind.wrap_u64, E1.out]; omega
          have hw3 : IntKind.u64.wrap (v.tdiv 10) = v.tdiv 10 := by rw [IntKind.wrap_u64, E2.out]; omega
          go_wp2
          go_roundw
          case rel => exact ⟨k + 1, v.tdiv 10, out' ++ [v % 10], by omega, by go_num, rfl, by rw [E2.out]; omega, by rw [E2.out]; omega, by simp [Hol'.out]; omega, by
            have q := Heq'.out
            rw [show 18 - k = (18 - (k + 1)) + 1 from by omega, dg, E1.out] at q
            rw [← q]; simp, by
            have h := HB'.out.iset (18 * i + k) (v % 10)
            have e := half_set out' (18 * x.length) (by rw [Hol'.out, Hl.out]; omega) (v % 10)
            rw [Hol'.out] at e
            rw [e] at h
            exact h, Hb'.out.setCell (Nat.le_refl _) _⟩
          case measure => simp [intOf]; omega
        · obtain rfl : k = 18 := by omega
          go_wp2
          go_roundw
          case rel => exact ⟨i + 1, out', by have := Hl.out; omega, by go_num, by rw [Hol'.out]; omega, by
            have q := Heq'.out
            simpa [dg] using q, HB'.out, Hb'.out⟩
          case measure => simp [intOf]; omega
    · obtain rfl : i = n := by omega
      have hR : Hid (Blk wr w.heap.size (ints .u8 (digs x)) 5) := by
        have h := HB.out
        rw [half_full _ _ (by rw [Hol.out, Hl.out])] at h
        have q := Heq.out
        rw [show x.drop i = [] from List.drop_eq_nil_of_le (by rw [Hl.out]; omega)] at q
        simp only [digs, List.append_nil] at q
        rw [q] at h
        exact h
      have hdl : (digs x).length = 18 * i := by rw [digs_len, Hl.out]
      have HDL := hide hdl
      clear hdl HB
      go_wp2_with fail
      refine (bstrip_any w.heap.size (18 * i) (18 * i) (digs x) (by omega) (by omega) (by omega) _ hR.out HDL.out).mono ?_
      rintro e w' ⟨rfl, rfl⟩
      go_wp2
      go_ret
      have hs := Sb.own hR.out (nz (digs x) (18 * i)) (by rw [HDL.out]; exact nz_le _ _)
      have e2 : strip (digs x) = (digs x).take (nz (digs x) (18 * i)) := by unfold strip; rw [HDL.out]
      have e3 : (strip (digs x)).length = nz (digs x) (18 * i) := by rw [strip_len, HDL.out]
      rw [e3, e2]
      exact ⟨⟨_, _, rfl, hs⟩, Hb.out⟩

/-- At the head of the schoolbook sum's loop. -/
structure RG (w : World) (N : Nat) (a b : List Int) (sk sc : Value) (wr : World) (k : Nat) (c : Int) (out : List Int) : Prop where
  hk : k ≤ N
  sk : sk = .int .i64 k
  sc : sc = .int .u8 c
  c0 : 0 ≤ c
  c1 : c ≤ 1
  len : out.length = k
  eq : out ++ dad (N - k) (a.drop k) (b.drop k) c = dad N a b 0
  blk : Blk wr w.heap.size (ints .u8 (half out (N + 1))) 5
  bel : Below w.heap.size w wr
theorem Db.at' {l : List Int} (h : Db l) (i : Nat) : 0 ≤ l[i]?.getD 0 ∧ l[i]?.getD 0 < 10 := by
  by_cases hi : i < l.length
  · simpa [hi] using h (l[i]) (by simp)
  · simp [List.getElem?_eq_none (Nat.le_of_not_lt hi)]
set_option maxHeartbeats 1000000 in
/-- zzDecAdd. -/
theorem decadd_any (a0 : Option Addr) (n0 c0 : Nat) (a1 : Option Addr) (n1 c1 : Nat) (A B : List Int) (h0 : n0 ≤ 18 * 131073) (h1 : n1 ≤ 18 * 131073) (w : World) (hA : Sb w a0 n0 A) (hB : Sb w a1 n1 B) (lA : Db A) (lB : Db B) :
    Calls Try.prog 11 #[.slice a0 n0 c0, .slice a1 n1 c1] w fun e w' => RetSb w w' e (dsum A B).length (dsum A B) := by
  have HA := hide hA
  have HB := hide hB
  have LA := hide lA
  have LB := hide lB
  have Al := hide hA.len
  have Bl := hide hB.len
  clear hA hB lA lB
  go_enter Try.func11, Try.ntmps11
  go_upto_region 1 with fail
  go_cut [5] (fun s wr => ∃ N : Nat, s = .int .i64 (N : Int) ∧ N = max n0 n1 ∧ wr = w)
  case first =>
    by_cases hlt : n0 < n1
    · go_wp2
      go_meet
      case rel => exact ⟨n1, rfl, by omega, rfl⟩
    · go_wp2
      go_meet
      case rel => exact ⟨n0, rfl, by omega, rfl⟩
  obtain ⟨N, rfl, hN, rfl⟩ := hcut
  have hN0 : n0 ≤ N := by omega
  have hN1 : n1 ≤ N := by omega
  have hN2 : N ≤ 18 * 131073 := by omega
  have HN := hide hN
  clear hN
  have hmk := make28 (N + 1) (by omega)
  have ec : ((N + 1 : Nat) : Int) = (N : Int) + 1 := by omega
  rw [ec] at hmk
  clear ec
  go_wp2
  clear hmk
  go_loopw [8, 7] (fun sk sc wr => ∃ (k : Nat) (c : Int) (out : List Int), RG wc N A B sk sc wr k c out) (fun sk _ _ => N - (intOf sk).toNat)
  case atStart => exact ⟨0, 0, [], by omega, rfl, rfl, by omega, by omega, rfl, rfl, by have h := Blk.made wc .u8 (N + 1) 5; simpa [half] using h, (Below.refl _ _).alloc (Nat.le_refl _) _⟩
  case round =>
    obtain ⟨k, c, out, hk, rfl, rfl, hc0, hc1, hol, heq, hB, hb⟩ := hrel
    have Hol := hide hol
    have Heq := hide heq
    have HBk := hide hB
    have Hb := hide hb
    clear hol heq hB hb
    have f0 := HBk.out.free
    have hhl : (half out (N + 1)).length = N + 1 := by rw [half_len _ _ (by rw [Hol.out]; omega)]
    have Hhl := hide hhl
    clear hhl
    obtain ⟨v0, hv0⟩ : ∃ v, wr.cell? ⟨wc.heap.size, k, none⟩ = some v := ⟨_, HBk.out.icell k (by rw [Hhl.out]; omega)⟩
    by_cases hlt : k < N
    · have ba := LA.out.at' k
      have bb := LB.out.at' k
      obtain ⟨p, hp⟩ : ∃ p, p = A[k]?.getD 0 := ⟨_, rfl⟩
      obtain ⟨q, hq⟩ : ∃ q, q = B[k]?.getD 0 := ⟨_, rfl⟩
      rw [← hp] at ba
      rw [← hq] at bb
      have Hp := hide hp
      have Hq := hide hq
      clear hp hq
      have close : RG wc N A B (.int .i64 ((k : Int) + 1)) (.int .u8 ((c + p + q).tdiv 10)) (wr.setCell ⟨wc.heap.size, k, none⟩ (.int .u8 ((c + p + q) % 10))) (k + 1) ((c + p + q).tdiv 10) (out ++ [(c + p + q) % 10]) := by
        have e1 : (c + p + q).tmod 10 = (c + p + q) % 10 := Int.tmod_eq_emod_of_nonneg (by omega)
        have e2 : (c + p + q).tdiv 10 = (c + p + q) / 10 := Int.tdiv_eq_ediv_of_nonneg (by omega)
        refine ⟨by omega, by go_num, rfl, by rw [e2]; omega, by rw [e2]; omega, by simp [Hol.out], ?_, ?_, Hb.out.setCell (Nat.le_refl _) _⟩
        · have r := Heq.out
          rw [show N - k = (N - (k + 1)) + 1 from by omega, dad, drop_0, drop_0, drop_tl, drop_tl] at r
          simp only [List.getD_eq_getElem?_getD, ← Hp.out, ← Hq.out] at r
          rw [← r, e1]; simp
        · have h := HBk.out.iset k ((c + p + q) % 10)
          have e := half_set out (N + 1) (by rw [Hol.out]; omega) ((c + p + q) % 10)
          rw [Hol.out] at e
          rw [e] at h
          exact h
      have CL := hide close
      clear close
      have hw1 : IntKind.u8.wrap (c + p) = c + p := by rw [IntKind.wrap_u8]; omega
      have hw2 : IntKind.u8.wrap (c + p + q) = c + p + q := by rw [IntKind.wrap_u8]; omega
      have hw3 : IntKind.u8.wrap ((c + p + q).tdiv 10) = (c + p + q).tdiv 10 := by
        have e2 : (c + p + q).tdiv 10 = (c + p + q) / 10 := Int.tdiv_eq_ediv_of_nonneg (by omega)
        rw [IntKind.wrap_u8, e2]; omega
      by_cases hy0 : k < n0
      · rcases (HA.out.below Hb.out).cells with g0 | ⟨b, off, rfl, hbl, hca⟩
        · omega
        have k0 := hca k hy0
        rw [List.getD_eq_getElem?_getD, ← Hp.out] at k0
        clear hca
        by_cases hy1 : k < n1
        · rcases (HB.out.below Hb.out).cells with g0 | ⟨b', off', rfl, hbl', hcb⟩
          · omega
          have k1 := hcb k hy1
          rw [List.getD_eq_getElem?_getD, ← Hq.out] at k1
          clear hcb
          go_wp2
          go_roundw
          case rel => exact ⟨k + 1, _, _, CL.out⟩
          case measure => simp [intOf]; omega
        · obtain rfl : q = 0 := by rw [Hq.out]; simp [List.getElem?_eq_none (show B.length ≤ k by have := Bl.out; omega)]
          go_wp2
          go_roundw
          case rel => exact ⟨k + 1, _, _, by have h := CL.out; rw [Int.add_zero, Int.tdiv_eq_ediv_of_nonneg (by omega)] at h; exact h⟩
          case measure => simp [intOf]; omega
      · obtain rfl : p = 0 := by rw [Hp.out]; simp [List.getElem?_eq_none (show A.length ≤ k by have := Al.out; omega)]
        by_cases hy1 : k < n1
        · rcases (HB.out.below Hb.out).cells with g0 | ⟨b', off', rfl, hbl', hcb⟩
          · omega
          have k1 := hcb k hy1
          rw [List.getD_eq_getElem?_getD, ← Hq.out] at k1
          clear hcb
          go_wp2
          go_roundw
          case rel => exact ⟨k + 1, _, _, by have h := CL.out; rw [Int.add_zero, Int.tdiv_eq_ediv_of_nonneg (by omega)] at h; exact h⟩
          case measure => simp [intOf]; omega
        · have := HN.out
          omega
    · obtain rfl : k = N := by omega
      have hR : Hid (Blk (wr.setCell ⟨wc.heap.size, k, none⟩ (.int .u8 c)) wc.heap.size (ints .u8 (dad k A B 0)) 5) := by
        have h := HBk.out.iset k c
        have e := half_set out (k + 1) (by rw [Hol.out]; omega) c
        rw [Hol.out] at e
        rw [e, half_full _ _ (by simp [Hol.out])] at h
        have q := Heq.out
        rw [Nat.sub_self, dad] at q
        rw [q] at h
        exact h
      have hdl : (dad k A B 0).length = k + 1 := dad_len _ _ _ _
      have HDL := hide hdl
      clear hdl HBk
      go_wp2_with fail
      refine (bstrip_any wc.heap.size (k + 1) (k + 1) (dad k A B 0) (by omega) (by omega) (by omega) _ hR.out HDL.out).mono ?_
      rintro e w' ⟨rfl, rfl⟩
      go_wp2
      go_ret
      have hs := Sb.own hR.out (nz (dad k A B 0) (k + 1)) (by rw [HDL.out]; exact nz_le _ _)
      have e1 : dsum A B = strip (dad k A B 0) := by unfold dsum; rw [Al.out, Bl.out, ← HN.out]
      have e2 : strip (dad k A B 0) = (dad k A B 0).take (nz (dad k A B 0) (k + 1)) := by unfold strip; rw [HDL.out]
      have e3 : (dsum A B).length = nz (dad k A B 0) (k + 1) := by rw [e1, strip_len, HDL.out]
      rw [e3, e1, e2]
      exact ⟨⟨_, _, rfl, hs⟩, Hb.out.setCell (Nat.le_refl _) _⟩
end Go.Proofs.Qxb6605524a
