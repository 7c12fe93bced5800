import Derived.Test.Qxb6605516aSumE
namespace Go.Proofs.Qxb6605516a

theorem pre_len (s : Sm) : s.pre.length = (min s.n 4).toNat := by
  simp [Sm.pre, Sm.fs]; omega

theorem pfx_srt (s : Sm) (h : pfxB s.n s.fs = true) : Srt s.pre := by
  unfold pfxB at h
  have h := of_decide_eq_true h
  obtain ⟨n, f0, f1, f2, f3, o, y⟩ := s
  have g1 := h 1 (by omega) (by omega)
  have g2 := h 2 (by omega) (by omega)
  have g3 := h 3 (by omega) (by omega)
  simp only [Sm.fs] at g1 g2 g3
  simp [] at g1 g2 g3
  unfold Srt Sm.pre Sm.fs
  simp only
  rcases (show (min n 4).toNat = 0 ∨ (min n 4).toNat = 1 ∨ (min n 4).toNat = 2 ∨ (min n 4).toNat = 3 ∨ (min n 4).toNat = 4 from by omega) with e | e | e | e | e
  · rw [e]; simp
  · rw [e]; simp
  · rw [e]
    have := g1 (by omega)
    simp; omega
  · rw [e]
    have := g1 (by omega)
    have := g2 (by omega)
    simp; omega
  · rw [e]
    have := g1 (by omega)
    have := g2 (by omega)
    have := g3 (by omega)
    simp; omega

/-- Both rows merged whole. -/
def full (xs ys : List Int) : List Int := mrg (xs.length + ys.length) xs ys
theorem full_perm (xs ys : List Int) : (full xs ys).Perm (xs ++ ys) := mrg_perm _ _ _ (Nat.le_refl _)
theorem full_srt {xs ys : List Int} (hx : Srt xs) (hy : Srt ys) : Srt (full xs ys) := mrg_srt _ _ _ hx hy
theorem mrg_full (k : Nat) (xs ys : List Int) : mrg k xs ys = (full xs ys).take k := by
  by_cases h : k ≤ xs.length + ys.length
  · exact mrg_take _ _ _ _ h
  · unfold full
    have e : mrg (xs.length + ys.length) xs ys = (mrg k xs ys).take (xs.length + ys.length) := mrg_take _ _ _ _ (by omega)
    rw [e, List.take_take, List.take_of_length_le]
    rw [mrg_length]; omega

/-- The sum's ranks: as many of both rows as it keeps. -/
def kOf (n : Int) : Nat := (min n 4).toNat

theorem mk_pre (n : Int) (l : List Int) (o y : Int) (h : l.length = kOf n) : (mkS n l o y).pre = l := by
  unfold Sm.pre Sm.fs mkS
  simp only
  have h4 : l.length ≤ 4 := by rw [h]; unfold kOf; omega
  show List.take (kOf n) _ = l
  rw [← h]
  match l, h4 with
  | [], _ => rfl
  | [_], _ => rfl
  | [_, _], _ => rfl
  | [_, _, _], _ => rfl
  | [_, _, _, _], _ => rfl
  | _ :: _ :: _ :: _ :: _ :: _, h4 => simp at h4

theorem merge_n (A B : Sm) : (mergeS A B).n = A.n + B.n := by
  unfold mergeS
  split
  · omega
  · split
    · omega
    · rfl
theorem merge_nz (A B : Sm) (hA : A.n ≠ 0) (hB : B.n ≠ 0) : mergeS A B = mkS (A.n + B.n) (mrg (kOf (A.n + B.n)) A.pre B.pre) (imin A.o B.o) (imax A.y B.y) := by
  unfold mergeS kOf; rw [if_neg hA, if_neg hB]
theorem merge_pre (A B : Sm) (hA : 0 < A.n) (hB : 0 < B.n) : (mergeS A B).pre = mrg (kOf (A.n + B.n)) A.pre B.pre := by
  rw [merge_nz A B (by omega) (by omega)]
  apply mk_pre
  rw [mrg_length, pre_len, pre_len]; unfold kOf; omega

theorem kOf_le (n : Int) : kOf n ≤ 4 := by unfold kOf; omega
theorem kOf_sum (a b : Int) (ha : 0 < a) (hb : 0 < b) (h : ¬ kOf (a + b) = 4) : min ((min a 4).toNat + (min b 4).toNat) ((min a 4).toNat + (min b 4).toNat) ≤ kOf (a + b) := by
  unfold kOf at h ⊢; omega
/-- What the left sum keeps is enough. -/
theorem keep_left (A B C : Sm) (hA : 0 < A.n) (hB : 0 < B.n) (_hC : 0 < C.n) : mrg (kOf (A.n + B.n + C.n)) (mergeS A B).pre C.pre = (full (full A.pre B.pre) C.pre).take (kOf (A.n + B.n + C.n)) := by
  rw [merge_pre A B hA hB, mrg_full (kOf (A.n + B.n)) A.pre B.pre, ← mrg_full (kOf (A.n + B.n + C.n)) (full A.pre B.pre) C.pre]
  by_cases h : kOf (A.n + B.n) = 4
  · exact mrg_left (kOf (A.n + B.n + C.n)) (kOf (A.n + B.n)) _ _ (by rw [h]; exact kOf_le _)
  · rw [List.take_of_length_le]
    unfold full
    rw [mrg_length, pre_len, pre_len]
    exact kOf_sum _ _ (by omega) (by omega) h
theorem keep_right (A B C : Sm) (_hA : 0 < A.n) (hB : 0 < B.n) (hC : 0 < C.n) : mrg (kOf (A.n + (B.n + C.n))) A.pre (mergeS B C).pre = (full A.pre (full B.pre C.pre)).take (kOf (A.n + (B.n + C.n))) := by
  rw [merge_pre B C hB hC, mrg_full (kOf (B.n + C.n)) B.pre C.pre, ← mrg_full (kOf (A.n + (B.n + C.n))) A.pre (full B.pre C.pre)]
  by_cases h : kOf (B.n + C.n) = 4
  · exact mrg_right (kOf (A.n + (B.n + C.n))) (kOf (B.n + C.n)) _ _ (by rw [h]; exact kOf_le _)
  · rw [List.take_of_length_le]
    unfold full
    rw [mrg_length, pre_len, pre_len]
    exact kOf_sum _ _ (by omega) (by omega) h

theorem imin_assoc (a b c : Int) : imin (imin a b) c = imin a (imin b c) := by
  unfold imin; repeat' split
  all_goals omega
theorem imax_assoc (a b c : Int) : imax (imax a b) c = imax a (imax b c) := by
  unfold imax; repeat' split
  all_goals omega

theorem merge_assoc (A B C : Sm) (hA : 0 ≤ A.n) (hB : 0 ≤ B.n) (hC : 0 ≤ C.n) (sA : Srt A.pre) (sB : Srt B.pre) (sC : Srt C.pre) : mergeS (mergeS A B) C = mergeS A (mergeS B C) := by
  by_cases a0 : A.n = 0
  · simp [mergeS, a0]
  by_cases b0 : B.n = 0
  · simp [mergeS, a0, b0]
  by_cases c0 : C.n = 0
  · have h1 := merge_n A B
    have h2 : ¬ (mergeS A B).n = 0 := by omega
    have e1 : mergeS B C = B := by simp [mergeS, b0, c0]
    rw [e1]
    generalize hM : mergeS A B = M at h2
    simp [mergeS, h2, c0]
  · have h1 := merge_n A B
    have h2 := merge_n B C
    rw [merge_nz (mergeS A B) C (by omega) c0, merge_nz A (mergeS B C) a0 (by omega), h1, h2]
    rw [keep_left A B C (by omega) (by omega) (by omega), keep_right A B C (by omega) (by omega) (by omega)]
    have e : full (full A.pre B.pre) C.pre = full A.pre (full B.pre C.pre) := by
      refine srt_eq ?_ (full_srt (full_srt sA sB) sC) (full_srt sA (full_srt sB sC))
      refine ((full_perm _ _).trans ((full_perm _ _).append_right _)).trans ?_
      rw [List.append_assoc]
      exact (((full_perm _ _).trans ((full_perm _ _).append_left _))).symm
    have o1 : (mergeS A B).o = imin A.o B.o := by rw [merge_nz A B a0 b0]; rfl
    have o2 : (mergeS B C).o = imin B.o C.o := by rw [merge_nz B C b0 c0]; rfl
    have y1 : (mergeS A B).y = imax A.y B.y := by rw [merge_nz A B a0 b0]; rfl
    have y2 : (mergeS B C).y = imax B.y C.y := by rw [merge_nz B C b0 c0]; rfl
    rw [e, o1, o2, y1, y2, imin_assoc, imax_assoc, Int.add_assoc]

/-- The sum of two groups is what merge makes. -/
theorem law2 (g : Nat → Sm) (r : List Int) (h : PlusR g 2 r) (sA : Srt (g 0).pre) (sB : Srt (g 1).pre) : r = (mergeS (g 0) (g 1)).l7 := by
  obtain ⟨h0, h1, h2⟩ := h
  by_cases a0 : (g 0).n = 0 <;> by_cases b0 : (g 1).n = 0
  · rw [h0 (by simp [cntN, a0, b0])]; simp [mergeS, a0]
  · rw [h1 (by simp [cntN, a0, b0])]; simp [mergeS, a0, oneN, b0]
  · rw [h1 (by simp [cntN, a0, b0])]; simp [mergeS, a0, oneN, b0]
  · obtain ⟨P, hs, hp, rfl⟩ := h2 (by simp [cntN, a0, b0])
    rw [merge_nz _ _ a0 b0, mrg_full]
    have e : P = full (g 0).pre (g 1).pre := srt_eq (hp.trans (by simpa [valsN] using (full_perm (g 0).pre (g 1).pre).symm)) hs (full_srt sA sB)
    have eo : oN g 2 = imin (g 0).o (g 1).o := by simp [oN, cntN, a0, b0, imin]
    have ey : yN g 2 = imax (g 0).y (g 1).y := by simp [yN, cntN, a0, b0, imax]
    have en : sumN g 2 = (g 0).n + (g 1).n := by simp [sumN]
    rw [e, eo, ey, en]; rfl

/-- The sum of three groups is what two merges make. -/
theorem law3 (g : Nat → Sm) (r : List Int) (h : PlusR g 3 r) (hA : 0 ≤ (g 0).n) (hB : 0 ≤ (g 1).n) (hC : 0 ≤ (g 2).n) (sA : Srt (g 0).pre) (sB : Srt (g 1).pre) (sC : Srt (g 2).pre) : r = (mergeS (mergeS (g 0) (g 1)) (g 2)).l7 := by
  obtain ⟨h0, h1, h2⟩ := h
  by_cases a0 : (g 0).n = 0
  · by_cases b0 : (g 1).n = 0
    · by_cases c0 : (g 2).n = 0
      · rw [h0 (by simp [cntN, a0, b0, c0])]; simp [mergeS, a0, b0]
      · rw [h1 (by simp [cntN, a0, b0, c0])]; simp [mergeS, a0, b0, oneN, c0]
    · by_cases c0 : (g 2).n = 0
      · rw [h1 (by simp [cntN, a0, b0, c0])]; simp [mergeS, a0, b0, oneN, c0]
      · obtain ⟨P, hs, hp, rfl⟩ := h2 (by simp [cntN, a0, b0, c0])
        have m1 : mergeS (g 0) (g 1) = g 1 := by simp [mergeS, a0]
        rw [m1, merge_nz _ _ b0 c0, mrg_full]
        have e : P = full (g 1).pre (g 2).pre := srt_eq (hp.trans (by simpa [valsN, pre_zero a0] using (full_perm (g 1).pre (g 2).pre).symm)) hs (full_srt sB sC)
        have eo : oN g 3 = imin (g 1).o (g 2).o := by simp [oN, cntN, a0, b0, c0, imin]
        have ey : yN g 3 = imax (g 1).y (g 2).y := by simp [yN, cntN, a0, b0, c0, imax]
        have en : sumN g 3 = (g 1).n + (g 2).n := by simp [sumN, a0]
        rw [e, eo, ey, en]; rfl
  · by_cases b0 : (g 1).n = 0
    · have m1 : mergeS (g 0) (g 1) = g 0 := by simp [mergeS, a0, b0]
      by_cases c0 : (g 2).n = 0
      · rw [h1 (by simp [cntN, a0, b0, c0]), m1]; simp [mergeS, a0, b0, oneN, c0]
      · obtain ⟨P, hs, hp, rfl⟩ := h2 (by simp [cntN, a0, b0, c0])
        rw [m1, merge_nz _ _ a0 c0, mrg_full]
        have e : P = full (g 0).pre (g 2).pre := srt_eq (hp.trans (by simpa [valsN, pre_zero b0] using (full_perm (g 0).pre (g 2).pre).symm)) hs (full_srt sA sC)
        have eo : oN g 3 = imin (g 0).o (g 2).o := by simp [oN, cntN, a0, b0, c0, imin]
        have ey : yN g 3 = imax (g 0).y (g 2).y := by simp [yN, cntN, a0, b0, c0, imax]
        have en : sumN g 3 = (g 0).n + (g 2).n := by simp [sumN, b0]
        rw [e, eo, ey, en]; rfl
    · have hn := merge_n (g 0) (g 1)
      have hnz : (mergeS (g 0) (g 1)).n ≠ 0 := by omega
      by_cases c0 : (g 2).n = 0
      · obtain ⟨P, hs, hp, rfl⟩ := h2 (by simp [cntN, a0, b0, c0])
        have m2 : mergeS (mergeS (g 0) (g 1)) (g 2) = mergeS (g 0) (g 1) := by
          generalize mergeS (g 0) (g 1) = M at hnz
          simp [mergeS, hnz, c0]
        rw [m2, merge_nz _ _ a0 b0, mrg_full]
        have e : P = full (g 0).pre (g 1).pre := srt_eq (hp.trans (by simpa [valsN, pre_zero c0] using (full_perm (g 0).pre (g 1).pre).symm)) hs (full_srt sA sB)
        have eo : oN g 3 = imin (g 0).o (g 1).o := by simp [oN, cntN, a0, b0, c0, imin]
        have ey : yN g 3 = imax (g 0).y (g 1).y := by simp [yN, cntN, a0, b0, c0, imax]
        have en : sumN g 3 = (g 0).n + (g 1).n := by simp [sumN, c0]
        rw [e, eo, ey, en]; rfl
      · obtain ⟨P, hs, hp, rfl⟩ := h2 (by simp [cntN, a0, b0, c0])
        rw [merge_nz (mergeS (g 0) (g 1)) (g 2) hnz c0, hn, keep_left _ _ _ (by omega) (by omega) (by omega)]
        have e : P = full (full (g 0).pre (g 1).pre) (g 2).pre := by
          refine srt_eq (hp.trans ?_) hs (full_srt (full_srt sA sB) sC)
          simp only [valsN, List.nil_append]
          exact ((full_perm _ _).trans ((full_perm _ _).append_right _)).symm
        have o1 : (mergeS (g 0) (g 1)).o = imin (g 0).o (g 1).o := by rw [merge_nz _ _ a0 b0]; rfl
        have y1 : (mergeS (g 0) (g 1)).y = imax (g 0).y (g 1).y := by rw [merge_nz _ _ a0 b0]; rfl
        have eo : oN g 3 = imin (imin (g 0).o (g 1).o) (g 2).o := by simp [oN, cntN, a0, b0, c0, imin]; (repeat' split) <;> omega
        have ey : yN g 3 = imax (imax (g 0).y (g 1).y) (g 2).y := by simp [yN, cntN, a0, b0, c0, imax]; (repeat' split) <;> omega
        have en : sumN g 3 = (g 0).n + (g 1).n + (g 2).n := by simp [sumN]
        rw [e, eo, ey, en, o1, y1]; rfl

end Go.Proofs.Qxb6605516a
