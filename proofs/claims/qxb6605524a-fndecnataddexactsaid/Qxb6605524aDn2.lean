import Derived.Test.Qxb6605524aDn1
namespace Go.Proofs.Qxb6605524a
open Go.RowKit
set_option linter.unusedVariables false

theorem info34 : (Try.prog.info? 34).map (fun i => (i.zero, i.size, i.bytes)) = some (some (.int .u64 0), 1, 8) := by kernel_rfl
theorem make22 (n : Nat) (h : n ≤ 1048577) (w : World) : (Instr.makeSlice 22 (.int .i64 (n : Int)) (.int .i64 (n : Int))).run Try.prog w = .ok (.slice (some ⟨w.heap.size, 0, none⟩) n n) (w.alloc (.cells (madeCells #[.int .u64 0] n) 34)) :=
  run_make_row' 22 34 (.int .u64 0) 8 Try.underlying22 info34 rfl .i64 .i64 n (by omega) (by omega) w
theorem make35 (n : Nat) (h : n ≤ 1048577) (w : World) : (Instr.makeSlice 35 (.int .i64 (n : Int)) (.int .i64 (n : Int))).run Try.prog w = .ok (.slice (some ⟨w.heap.size, 0, none⟩) n n) (w.alloc (.cells (madeCells #[.int .u64 0] n) 34)) :=
  run_make_row' 35 34 (.int .u64 0) 8 Try.underlying35 info34 rfl .i64 .i64 n (by omega) (by omega) w
theorem made_ints (k : IntKind) (n : Nat) : madeCells #[.int k 0] n = ints k (List.replicate n 0) := by
  have h := toList_madeCells_one (.int k 0) n
  unfold ints
  rw [List.map_replicate, ← h]
theorem Blk.made (w : World) (k : IntKind) (n : Nat) (T : TypeId) : Blk (w.alloc (.cells (madeCells #[.int k 0] n) T)) w.heap.size (ints k (List.replicate n 0)) T := by
  rw [made_ints]; exact Blk.new _ _ _

/-- A row half filled. -/
def half (out : List Int) (n : Nat) : List Int := out ++ List.replicate (n - out.length) 0
theorem half_len (out : List Int) (n : Nat) (h : out.length ≤ n) : (half out n).length = n := by unfold half; simp; omega
theorem half_set (out : List Int) (n : Nat) (h : out.length < n) (v : Int) : (half out n).set out.length v = half (out ++ [v]) n := by
  unfold half
  rw [List.set_append_right _ _ (Nat.le_refl _), Nat.sub_self]
  rw [show n - out.length = (n - (out ++ [v]).length) + 1 from by simp; omega, List.replicate_succ, List.set_cons_zero]
  simp
theorem half_full (out : List Int) (n : Nat) (h : out.length = n) : half out n = out := by unfold half; simp [h]

/-- The answer is a slice that can be read. -/
structure RetSl (w w' : World) (e : Ending) (n : Nat) (L : List Int) : Prop where
  ret : ∃ a c, e = .returned (.slice a n c) ∧ Sl w' a n L
  bel : Below w.heap.size w w'

set_option maxHeartbeats 400000 in
theorem clone_nil (n c : Nat) (w : World) : Calls Try.prog 7 #[.slice none n c] w fun e w' => e = .returned (.slice none 0 0) ∧ w' = w := by
  have hnil := fun w => Lib.run_eql_slice_nil (P := Try.prog) w 22 34 none n c 0 0 Try.underlying22
  go_enter Try.func7, Try.ntmps7
  go_wp2
  go_ret
  exact ⟨rfl, rfl⟩
structure RC (w : World) (n : Nat) (L : List Int) (s : Value) (wr : World) (i : Nat) : Prop where
  hi : i ≤ n
  s : s = .int .i64 i
  blk : Blk wr w.heap.size (ints .u64 (half (L.take i) n)) 34
  bel : Below w.heap.size w wr
theorem take_snoc (L : List Int) (i : Nat) (h : i < L.length) : L.take (i + 1) = L.take i ++ [L.getD i 0] := take_step L i h
set_option maxHeartbeats 400000 in
theorem clone_some (x : Addr) (n c : Nat) (L : List Int) (hn : n ≤ 131072) (w : World) (h : Sl w (some x) n L) :
    Calls Try.prog 7 #[.slice (some x) n c] w fun e w' => RetSl w w' e n L := by
  have H := hide h
  have Hl := hide h.len
  clear h
  have hmk := make22 n (by omega)
  have hnil := fun w => Lib.run_eql_slice_nil (P := Try.prog) w 22 34 (some x) n c 0 0 Try.underlying22
  go_enter Try.func7, Try.ntmps7
  go_wp2
  clear hmk hnil
  go_loopw [4] (fun s wr => ∃ i : Nat, RC w n L s wr i) (fun s _ => n - (intOf s).toNat)
  case atStart => exact ⟨0, by omega, rfl, by have h := Blk.made w .u64 n 34; simpa [half] using h, (Below.refl _ _).alloc (Nat.le_refl _) _⟩
  case round =>
    obtain ⟨i, hi, rfl, hB, hb⟩ := hrel
    have HB := hide hB
    have Hb := hide hb
    clear hB hb
    have hl : (L.take i).length = i := by have := Hl.out; simp; omega
    have HL := hide hl
    clear hl
    by_cases hlt : i < n
    · rcases (H.out.below Hb.out).cells with h0 | ⟨b, off, hx, hbl, hc⟩
      · omega
      simp only [Option.some.injEq] at hx
      subst hx
      have c0 := hc i hlt
      clear hc
      have d0 := HB.out.icell i (by rw [half_len _ _ (by rw [HL.out]; omega)]; omega)
      have f0 := HB.out.free
      obtain ⟨v0, hv0⟩ : ∃ v, wr.cell? ⟨w.heap.size, i, none⟩ = some v := ⟨_, d0⟩
      clear d0
      go_wp2
      go_roundw
      case rel => exact ⟨i + 1, by omega, by go_num, by
        have h := HB.out.iset i (L.getD i 0)
        have e := half_set (L.take i) n (by rw [HL.out]; omega) (L.getD i 0)
        rw [HL.out] at e
        rw [e, ← take_snoc L i (by have := Hl.out; omega)] at h
        exact h, Hb.out.setCell (Nat.le_refl _) _⟩
      case measure => simp [intOf]; omega
    · go_wp2
      go_ret
      have e : i = n := by omega
      have e2 : L.take i = L := List.take_of_length_le (by have := Hl.out; omega)
      exact ⟨⟨_, _, rfl, by
        have h := HB.out
        rw [e2, half_full L n Hl.out] at h
        have h2 := Sl.own h n (by have := Hl.out; omega)
        rwa [List.take_of_length_le (by have := Hl.out; omega)] at h2⟩, Hb.out⟩
/-- zzCloneU64: a copy. -/
theorem clone_any (a : Option Addr) (n c : Nat) (L : List Int) (hn : n ≤ 131072) (w : World) (h : Sl w a n L) (hz : a = none → n = 0) :
    Calls Try.prog 7 #[.slice a n c] w fun e w' => RetSl w w' e n L := by
  cases a with
  | none =>
    have e := hz rfl
    subst e
    have e2 : L = [] := List.length_eq_zero_iff.1 h.len
    subst e2
    exact (clone_nil 0 c w).mono fun e w' ⟨h1, h2⟩ => by subst h2; exact ⟨⟨none, 0, h1, Sl.nil _ _⟩, Below.refl _ _⟩
  | some x => exact clone_some x n c L hn w h

theorem nz_succ_zero {L : List Int} {k : Nat} (h : L.getD k 0 = 0) : nz L (k + 1) = nz L k := by rw [nz, if_pos h]
theorem nz_succ_ne {L : List Int} {k : Nat} (h : ¬ L.getD k 0 = 0) : nz L (k + 1) = k + 1 := by rw [nz, if_neg h]
set_option maxHeartbeats 400000 in
theorem norm_any (g n c : Nat) (L : List Int) (hn : n ≤ 1048577) (hnc : n ≤ c) (hc : c ≤ 1048577) (w : World) (h : Blk w g (ints .u64 L) 34) (hl : L.length = n) :
    Calls Try.prog 18 #[.slice (some ⟨g, 0, none⟩) n c] w fun e w' => e = .returned (.slice (some ⟨g, 0, none⟩) (nz L n) c) ∧ w' = w := by
  have H := hide h
  have Hl := hide hl
  clear h hl
  go_enter Try.func18, Try.ntmps18
  go_wp2
  go_loop [3] (fun s => ∃ k : Nat, s = .int .i64 k ∧ k ≤ n ∧ nz L k = nz L n) (fun s => (intOf s).toNat)
  case atStart => exact ⟨n, rfl, Nat.le_refl _, rfl⟩
  case round =>
    obtain ⟨k, rfl, hk, he⟩ := hrel
    have He := hide he
    clear he
    by_cases h0 : k = 0
    · subst h0
      have h0' : decide ((0 : Int) < 0) = false := by simp
      go_wp2
      go_ret
      rw [← He.out]
      exact ⟨rfl, rfl⟩
    · obtain ⟨m, rfl⟩ : ∃ m, k = m + 1 := ⟨k - 1, by omega⟩
      have c0 := H.out.icell m (by have := Hl.out; omega)
      by_cases hz : L.getD m 0 = 0
      · have hz' : (L[m]?.getD 0 == 0) = true := by simpa using hz
        have Hz := hide hz
        clear hz
        go_wp2
        go_round
        case rel => exact ⟨m, rfl, by omega, by rw [← He.out, nz_succ_zero Hz.out]⟩
        case measure => simp [intOf]
      · have hz' : (L[m]?.getD 0 == 0) = false := by simpa using hz
        have Hz := hide hz
        clear hz
        go_wp2
        go_ret
        rw [← He.out, nz_succ_ne Hz.out]
        exact ⟨rfl, rfl⟩

/-- At the head of add's loop. -/
structure RA (w : World) (n1 : Nat) (X Y : List Int) (si sc : Value) (wr : World) (i : Nat) (c : Int) (out : List Int) : Prop where
  hi : i ≤ X.length
  si : si = .int .i64 i
  sc : sc = .int .u64 c
  c0 : 0 ≤ c
  c1 : c ≤ 1
  len : out.length = i
  eq : out ++ addF (X.drop i) (Y.drop i) c = addF X Y 0
  blk : Blk wr w.heap.size (ints .u64 (half out (X.length + 1))) 34
  bel : Below w.heap.size w wr
theorem drop_getD (xs : List Int) (i : Nat) (hi : i < xs.length) : xs.drop i = xs.getD i 0 :: xs.drop (i + 1) := by
  rw [List.drop_eq_getElem_cons hi]; simp [hi]
theorem drop_0 (ys : List Int) (i : Nat) : (ys.drop i).getD 0 0 = ys.getD i 0 := by simp [List.getElem?_drop]
theorem drop_tl (ys : List Int) (i : Nat) : (ys.drop i).tail = ys.drop (i + 1) := by simp [List.tail_drop]
theorem addF_lo {X Y out : List Int} {i : Nat} {c : Int} (hi : i < X.length) (h : out ++ addF (X.drop i) (Y.drop i) c = addF X Y 0) (hs : X.getD i 0 + c + Y.getD i 0 < 1000000000000000000) :
    (out ++ [X.getD i 0 + c + Y.getD i 0]) ++ addF (X.drop (i + 1)) (Y.drop (i + 1)) 0 = addF X Y 0 := by
  rw [← h, drop_getD X i hi, addF, drop_0, drop_tl, if_pos hs]; simp
theorem addF_hi {X Y out : List Int} {i : Nat} {c : Int} (hi : i < X.length) (h : out ++ addF (X.drop i) (Y.drop i) c = addF X Y 0) (hs : ¬ X.getD i 0 + c + Y.getD i 0 < 1000000000000000000) :
    (out ++ [X.getD i 0 + c + Y.getD i 0 - 1000000000000000000]) ++ addF (X.drop (i + 1)) (Y.drop (i + 1)) 1 = addF X Y 0 := by
  rw [← h, drop_getD X i hi, addF, drop_0, drop_tl, if_neg hs]; simp
theorem Lb.at {l : List Int} (h : Lb l) (i : Nat) : 0 ≤ l.getD i 0 ∧ l.getD i 0 < 1000000000000000000 := by
  by_cases hi : i < l.length
  · exact h _ (by simp [hi])
  · simp [List.getElem?_eq_none (Nat.le_of_not_lt hi)]

set_option maxHeartbeats 1000000 in
/-- decNat.add. -/
theorem add_any (a0 : Option Addr) (n0 c0 : Nat) (a1 : Option Addr) (n1 c1 : Nat) (x y : List Int) (h0 : n0 ≤ 131072) (h1 : n1 ≤ 131072) (w : World) (hx : Sl w a0 n0 x) (hy : Sl w a1 n1 y) (lx : Lb x) (ly : Lb y) :
    Calls Try.prog 16 #[.slice a0 n0 c0, .slice a1 n1 c1] w fun e w' => RetSl w w' e (sumL x y).length (sumL x y) := by
  have HX := hide hx
  have HY := hide hy
  have LX := hide lx
  have LY := hide ly
  clear hx hy lx ly
  go_enter Try.func16, Try.ntmps16
  go_upto_if 14 with fail
  go_cut [0, 1] (fun s0 s1 w' => ∃ a0 n0 c0 a1 n1 c1 X Y, s0 = .slice a0 n0 c0 ∧ s1 = .slice a1 n1 c1 ∧ Sl w a0 n0 X ∧ Sl w a1 n1 Y ∧ n1 ≤ n0 ∧ n0 ≤ 131072 ∧ sumL x y = strip (addF X Y 0) ∧ Lb X ∧ Lb Y ∧ w' = w)
  case first =>
    by_cases hlt : n0 < n1
    · go_wp2
      go_meet
      case rel => exact ⟨a1, n1, c1, a0, n0, c0, y, x, rfl, rfl, HY.out, HX.out, by omega, h1, by unfold sumL; rw [if_pos (by rw [HX.out.len, HY.out.len]; exact hlt)], LY.out, LX.out, rfl⟩
    · go_wp2
      go_meet
      case rel => exact ⟨a0, n0, c0, a1, n1, c1, x, y, rfl, rfl, HX.out, HY.out, by omega, h0, by unfold sumL; rw [if_neg (by rw [HX.out.len, HY.out.len]; exact hlt)], LX.out, LY.out, rfl⟩
  clear HX HY LX LY h0 h1
  obtain ⟨a0, n0, c0, a1, n1, c1, X, Y, rfl, rfl, hx, hy, hle, h0, he, lx, ly, rfl⟩ := hcut
  have HX := hide hx
  have HY := hide hy
  have LX := hide lx
  have LY := hide ly
  have He := hide he
  have hxl := hx.len
  have hyl := hy.len
  have Hxl := hide hxl
  have Hyl := hide hyl
  clear hx hy lx ly he hxl hyl
  have hmk := make35 (n0 + 1) (by omega)
  have ec : ((n0 + 1 : Nat) : Int) = (n0 : Int) + 1 := by omega
  rw [ec] at hmk
  clear ec
  go_wp2
  clear hmk
  go_loopw [23, 6] (fun si sc wr => ∃ (i : Nat) (c : Int) (out : List Int), RA wc n1 X Y si sc wr i c out) (fun si _ _ => n0 - (intOf si).toNat)
  case atStart => exact ⟨0, 0, [], by omega, rfl, rfl, by omega, by omega, rfl, rfl, by have h := Blk.made wc .u64 (n0 + 1) 34; rw [Hxl.out]; simpa [half] using h, (Below.refl _ _).alloc (Nat.le_refl _) _⟩
  case round =>
    obtain ⟨i, c, out, hi, rfl, rfl, hc0, hc1, hol, heq, hB, hb⟩ := hrel
    have Hol := hide hol
    have Heq := hide heq
    have HB := hide hB
    have Hb := hide hb
    clear hol heq hB hb
    have hi' : i ≤ n0 := by have := Hxl.out; omega
    have hhl : (half out (X.length + 1)).length = n0 + 1 := by rw [half_len _ _ (by rw [Hol.out]; omega), Hxl.out]
    have Hhl := hide hhl
    clear hhl hi
    have f0 := HB.out.free
    by_cases hlt : i < n0
    · rcases (HX.out.below Hb.out).cells with g0 | ⟨b, off, rfl, hbl, hcx⟩
      · omega
      have k0 := hcx i hlt
      clear hcx
      have bx := LX.out.at i
      have by_ := LY.out.at i
      obtain ⟨v0, hv0⟩ : ∃ v, wr.cell? ⟨wc.heap.size, i, none⟩ = some v := ⟨_, HB.out.icell i (by rw [Hhl.out]; omega)⟩
      have close_lo : ∀ z, z = X.getD i 0 + c + Y.getD i 0 → z < 1000000000000000000 → RA wc n1 X Y (.int .i64 ((i : Int) + 1)) (.int .u64 0) (wr.setCell ⟨wc.heap.size, i, none⟩ (.int .u64 z)) (i + 1) 0 (out ++ [z]) := by
        intro z ez hz
        subst ez
        refine ⟨by have := Hxl.out; omega, by go_num, rfl, by omega, by omega, by simp [Hol.out], addF_lo (by have := Hxl.out; omega) Heq.out hz, ?_, Hb.out.setCell (Nat.le_refl _) _⟩
        have h := HB.out.iset i (X.getD i 0 + c + Y.getD i 0)
        have e := half_set out (X.length + 1) (by rw [Hol.out, Hxl.out]; omega) (X.getD i 0 + c + Y.getD i 0)
        rw [Hol.out] at e
        rw [e] at h
        exact h
      have close_hi : ∀ z, z = X.getD i 0 + c + Y.getD i 0 - 1000000000000000000 → 0 ≤ z → RA wc n1 X Y (.int .i64 ((i : Int) + 1)) (.int .u64 1) (wr.setCell ⟨wc.heap.size, i, none⟩ (.int .u64 z)) (i + 1) 1 (out ++ [z]) := by
        intro z ez hz
        subst ez
        refine ⟨by have := Hxl.out; omega, by go_num, rfl, by omega, by omega, by simp [Hol.out], addF_hi (by have := Hxl.out; omega) Heq.out (by omega), ?_, Hb.out.setCell (Nat.le_refl _) _⟩
        have h := HB.out.iset i (X.getD i 0 + c + Y.getD i 0 - 1000000000000000000)
        have e := half_set out (X.length + 1) (by rw [Hol.out, Hxl.out]; omega) (X.getD i 0 + c + Y.getD i 0 - 1000000000000000000)
        rw [Hol.out] at e
        rw [e] at h
        exact h
      have CL := hide close_lo
      have CH := hide close_hi
      clear close_lo close_hi
      simp only [List.getD_eq_getElem?_getD] at bx by_
      have hw1 : IntKind.u64.wrap (X[i]?.getD 0 + c) = X[i]?.getD 0 + c := by rw [IntKind.wrap_u64]; omega
      have hw2 : IntKind.u64.wrap (X[i]?.getD 0 + c + Y[i]?.getD 0) = X[i]?.getD 0 + c + Y[i]?.getD 0 := by rw [IntKind.wrap_u64]; omega
      by_cases hy1 : i < n1
      · rcases (HY.out.below Hb.out).cells with g0 | ⟨b', off', rfl, hbl', hcy⟩
        · omega
        have k1 := hcy i hy1
        clear hcy
        go_wp2
        · have hge : 1000000000000000000 ≤ X[i]?.getD 0 + c + Y[i]?.getD 0 := ‹_›
          go_roundw
          case rel => exact ⟨i + 1, 1, _, CH.out _ rfl (by omega)⟩
          case measure => simp [intOf]; omega
        · have hge : X[i]?.getD 0 + c + Y[i]?.getD 0 < 1000000000000000000 := ‹_›
          go_roundw
          case rel => exact ⟨i + 1, 0, _, CL.out _ rfl hge⟩
          case measure => simp [intOf]; omega
      · have ey : Y.getD i 0 = 0 := by simp [List.getElem?_eq_none (show Y.length ≤ i by have := Hyl.out; omega)]
        have Hy := hide ey
        clear ey hw2
        go_wp2
        · have hge : 1000000000000000000 ≤ X[i]?.getD 0 + c := ‹_›
          go_roundw
          case rel => exact ⟨i + 1, 1, _, CH.out _ (by rw [Hy.out]; simp only [List.getD_eq_getElem?_getD]; omega) (by omega)⟩
          case measure => simp [intOf]; omega
        · have hge : X[i]?.getD 0 + c < 1000000000000000000 := ‹_›
          go_roundw
          case rel => exact ⟨i + 1, 0, _, CL.out _ (by rw [Hy.out]; simp) hge⟩
          case measure => simp [intOf]; omega
    · obtain rfl : i = n0 := by omega
      obtain ⟨v0, hv0⟩ : ∃ v, wr.cell? ⟨wc.heap.size, i, none⟩ = some v := ⟨_, HB.out.icell i (by rw [Hhl.out]; omega)⟩
      have hR : Hid (Blk (wr.setCell ⟨wc.heap.size, i, none⟩ (.int .u64 c)) wc.heap.size (ints .u64 (addF X Y 0)) 34) := by
        have h := HB.out.iset i c
        have e := half_set out (X.length + 1) (by rw [Hol.out, Hxl.out]; omega) c
        rw [Hol.out] at e
        rw [e, half_full _ _ (by simp [Hol.out, Hxl.out])] at h
        have q := Heq.out
        rw [show X.drop i = [] from List.drop_eq_nil_of_le (by rw [Hxl.out]; omega), addF] at q
        rw [q] at h
        exact h
      go_wp2_with fail
      refine (norm_any wc.heap.size (i + 1) (i + 1) (addF X Y 0) (by omega) (by omega) (by omega) _ hR.out (by rw [addF_len, Hxl.out])).mono ?_
      rintro e w' ⟨rfl, rfl⟩
      go_wp2
      go_ret
      have e1 : (addF X Y 0).length = i + 1 := by rw [addF_len, Hxl.out]
      have hs := Sl.own hR.out (nz (addF X Y 0) (i + 1)) (by rw [e1]; exact nz_le _ _)
      have e2 : strip (addF X Y 0) = (addF X Y 0).take (nz (addF X Y 0) (i + 1)) := by unfold strip; rw [e1]
      have e3 : (sumL x y).length = nz (addF X Y 0) (i + 1) := by rw [He.out, strip_len, e1]
      rw [e3, He.out, e2]
      exact ⟨⟨_, _, rfl, hs⟩, Hb.out.setCell (Nat.le_refl _) _⟩

set_option maxHeartbeats 400000 in
theorem zzadd_any (a0 : Option Addr) (n0 c0 : Nat) (a1 : Option Addr) (n1 c1 : Nat) (x y : List Int) (h0 : n0 ≤ 131072) (h1 : n1 ≤ 131072) (w : World) (hx : Sl w a0 n0 x) (hy : Sl w a1 n1 y) (lx : Lb x) (ly : Lb y) :
    Calls Try.prog 8 #[.slice a0 n0 c0, .slice a1 n1 c1] w fun e w' => RetSl w w' e (sumL x y).length (sumL x y) := by
  have HX := hide hx
  have HY := hide hy
  have LX := hide lx
  have LY := hide ly
  clear hx hy lx ly
  go_enter Try.func8, Try.ntmps8
  go_wp2_with fail
  refine (add_any a0 n0 c0 a1 n1 c1 x y h0 h1 w HX.out HY.out LX.out LY.out).mono ?_
  rintro e w' ⟨⟨a, c, rfl, hs⟩, hb⟩
  have HS := hide hs
  have Hb := hide hb
  clear hs hb
  go_wp2
  go_ret
  exact ⟨⟨_, _, rfl, HS.out⟩, Hb.out⟩
end Go.Proofs.Qxb6605524a
