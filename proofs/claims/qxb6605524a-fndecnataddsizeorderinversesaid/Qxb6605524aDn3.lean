import Derived.Test.Qxb6605524aDn2
namespace Go.Proofs.Qxb6605524a
open Go.RowKit
set_option linter.unusedVariables false

def CmpE (e : Ending) (A B : List Int) : Prop := ∃ c, e = .returned (.int .i64 c) ∧ CmpR A B c
theorem cmpE {A B : List Int} {c : Int} (h : CmpR A B c) : CmpE (.returned (.int .i64 c)) A B := ⟨c, rfl, h⟩

set_option maxHeartbeats 1000000 in
theorem cmp_any (a0 : Option Addr) (n0 c0 : Nat) (a1 : Option Addr) (n1 c1 : Nat) (A B : List Int) (h0 : n0 ≤ 1048577) (h1 : n1 ≤ 1048577) (w : World) (hA : Sl w a0 n0 A) (hB : Sl w a1 n1 B) :
    Calls Try.prog 13 #[.slice a0 n0 c0, .slice a1 n1 c1] w fun e w' => CmpE e A B ∧ Below w.heap.size w w' := by
  have HA := hide hA
  have HB := hide hB
  have LA := hide hA.len
  have LB := hide hB.len
  clear hA hB
  by_cases hne : n0 = n1
  · subst hne
    have e0 : ((n0 : Int) != (n0 : Int)) = false := by simp
    go_enter Try.func13, Try.ntmps13
    go_wp2
    go_loopw [5] (fun s wr => ∃ d : Nat, d ≤ n0 ∧ s = .int .i64 ((n0 : Int) - 1 - d) ∧ (∀ j, n0 - d ≤ j → j < n0 → A.getD j 0 = B.getD j 0) ∧ Below w.heap.size w wr) (fun s _ => (intOf s + 1).toNat)
    case atStart => exact ⟨0, by omega, by go_num, fun j h1 h2 => by omega, Below.refl _ _⟩
    case round =>
      obtain ⟨d, hd, rfl, hag, hb⟩ := hrel
      have Hag := hide hag
      have Hb := hide hb
      clear hag hb
      by_cases hlt : d < n0
      · obtain ⟨i, hi⟩ : ∃ i, i = n0 - (d + 1) := ⟨_, rfl⟩
        have e : ((n0 : Int) - 1 - d) = (i : Int) := by omega
        rw [e]
        have Hi := hide hi
        have hin : i < n0 := by omega
        have He := hide e
        clear hi e
        rcases (HA.out.below Hb.out).cells with g0 | ⟨b, off, rfl, hbl, hca⟩
        · omega
        rcases (HB.out.below Hb.out).cells with g0 | ⟨b', off', rfl, hbl', hcb⟩
        · omega
        have k0 := hca i hin
        have k1 := hcb i hin
        clear hca hcb
        have agree : ∀ j, i < j → j < A.length → A.getD j 0 = B.getD j 0 := fun j h1 h2 => Hag.out j (by have := Hi.out; omega) (by have := LA.out; omega)
        have Ha := hide agree
        clear agree
        by_cases hab : A.getD i 0 = B.getD i 0
        · have hab' : (A[i]?.getD 0 != B[i]?.getD 0) = false := by simpa using hab
          have Hab := hide hab
          clear hab
          go_wp2
          go_quiet (fail)
          go_wp2
          go_roundw
          case rel => exact ⟨d + 1, by omega, by have := He.out; go_num, fun j h1 h2 => by
            by_cases e : j = i
            · subst e; exact Hab.out
            · exact Hag.out j (by have := Hi.out; omega) h2, below_drewN Hb.out _⟩
          case measure => simp [intOf]
        · have hab' : (A[i]?.getD 0 != B[i]?.getD 0) = true := by simpa using hab
          have Hab := hide hab
          clear hab
          go_wp2
          go_quiet (fail)
          go_wp2
          go_quiet (fail)
          go_wp2
          · have hlt2 : A[i]?.getD 0 < B[i]?.getD 0 := ‹_›
            go_ret
            exact ⟨cmpE ⟨fun h => by have := LA.out; have := LB.out; omega, fun h => by have := LA.out; have := LB.out; omega, fun _ => .inr ⟨i, by have := LA.out; omega, Ha.out, .inl ⟨by simpa using hlt2, rfl⟩⟩⟩, below_drewN (below_drewN Hb.out _) _⟩
          · have hlt2 : B[i]?.getD 0 ≤ A[i]?.getD 0 := ‹_›
            go_ret
            exact ⟨cmpE ⟨fun h => by have := LA.out; have := LB.out; omega, fun h => by have := LA.out; have := LB.out; omega, fun _ => .inr ⟨i, by have := LA.out; omega, Ha.out, .inr ⟨by have := Hab.out; simp only [List.getD_eq_getElem?_getD] at this ⊢; omega, rfl⟩⟩⟩, below_drewN (below_drewN Hb.out _) _⟩
      · have e : ((n0 : Int) - 1 - d) = -1 := by omega
        rw [e]
        clear e
        go_wp2
        go_ret
        exact ⟨cmpE ⟨fun h => by have := LA.out; have := LB.out; omega, fun h => by have := LA.out; have := LB.out; omega, fun _ => .inl ⟨by
          apply List.ext_getElem
          · rw [LA.out, LB.out]
          · intro j h1 h2
            have := Hag.out j (by omega) (by have := LA.out; omega)
            simpa [h1, h2] using this, rfl⟩⟩, Hb.out⟩
  · have e0 : ((n0 : Int) != (n1 : Int)) = true := by simp; omega
    by_cases hlt : n0 < n1
    · go_enter Try.func13, Try.ntmps13
      go_wp2
      go_ret
      exact ⟨cmpE ⟨fun h => rfl, fun h => by have := LA.out; have := LB.out; omega, fun h => by have := LA.out; have := LB.out; omega⟩, Below.refl _ _⟩
    · go_enter Try.func13, Try.ntmps13
      go_wp2
      go_ret
      exact ⟨cmpE ⟨fun h => by have := LA.out; have := LB.out; omega, fun h => rfl, fun h => by have := LA.out; have := LB.out; omega⟩, Below.refl _ _⟩

set_option maxHeartbeats 1000000 in
theorem same_any (a0 : Option Addr) (n0 c0 : Nat) (a1 : Option Addr) (n1 c1 : Nat) (A : List Int) (h0 : n0 ≤ 1048577) (w : World) (hA : Sl w a0 n0 A) (hB : Sl w a1 n1 A) :
    Calls Try.prog 15 #[.slice a0 n0 c0, .slice a1 n1 c1] w fun e w' => e = .returned (.bool true) ∧ Below w.heap.size w w' := by
  have HA := hide hA
  have HB := hide hB
  obtain rfl : n0 = n1 := by rw [← hA.len, ← hB.len]
  clear hA hB
  have e0 : ((n0 : Int) != (n0 : Int)) = false := by simp
  go_enter Try.func15, Try.ntmps15
  go_wp2
  go_loopw [5] (fun s wr => ∃ i : Nat, i ≤ n0 ∧ s = .int .i64 i ∧ Below w.heap.size w wr) (fun s _ => n0 - (intOf s).toNat)
  case atStart => exact ⟨0, by omega, rfl, Below.refl _ _⟩
  case round =>
    obtain ⟨i, hi, rfl, hb⟩ := hrel
    have Hb := hide hb
    clear hb
    by_cases hlt : i < n0
    · rcases (HA.out.below Hb.out).cells with g0 | ⟨b, off, rfl, hbl, hca⟩
      · omega
      rcases (HB.out.below Hb.out).cells with g0 | ⟨b', off', rfl, hbl', hcb⟩
      · omega
      have k0 := hca i hlt
      have k1 := hcb i hlt
      clear hca hcb
      go_wp2
      go_quiet (fail)
      go_wp2
      go_roundw
      case rel => exact ⟨i + 1, by omega, by go_num, below_drewN Hb.out _⟩
      case measure => simp [intOf]; omega
    · go_wp2
      go_ret
      exact ⟨rfl, Hb.out⟩

/-- At the head of sub's loop. -/
structure RS (w : World) (X Y : List Int) (si sb : Value) (wr : World) (i : Nat) (b : Int) (out : List Int) : Prop where
  hi : i ≤ X.length
  si : si = .int .i64 i
  sb : sb = .int .u64 b
  b0 : 0 ≤ b
  b1 : b ≤ 1
  len : out.length = i
  eq : out ++ (subF (X.drop i) (Y.drop i) b).1 = (subF X Y 0).1
  eqb : (subF (X.drop i) (Y.drop i) b).2 = (subF X Y 0).2
  blk : Blk wr w.heap.size (ints .u64 (half out X.length)) 34
  bel : Below w.heap.size w wr
theorem subF_lo {X Y out : List Int} {i : Nat} {b : Int} (hi : i < X.length) (h : out ++ (subF (X.drop i) (Y.drop i) b).1 = (subF X Y 0).1) (h2 : (subF (X.drop i) (Y.drop i) b).2 = (subF X Y 0).2) (hs : Y.getD i 0 + b ≤ X.getD i 0) :
    (out ++ [X.getD i 0 - (Y.getD i 0 + b)]) ++ (subF (X.drop (i + 1)) (Y.drop (i + 1)) 0).1 = (subF X Y 0).1 ∧ (subF (X.drop (i + 1)) (Y.drop (i + 1)) 0).2 = (subF X Y 0).2 := by
  rw [drop_getD X i hi, subF, drop_0, drop_tl, if_pos hs] at h h2
  exact ⟨by rw [← h]; simp, h2⟩
theorem subF_hi {X Y out : List Int} {i : Nat} {b : Int} (hi : i < X.length) (h : out ++ (subF (X.drop i) (Y.drop i) b).1 = (subF X Y 0).1) (h2 : (subF (X.drop i) (Y.drop i) b).2 = (subF X Y 0).2) (hs : ¬ Y.getD i 0 + b ≤ X.getD i 0) :
    (out ++ [X.getD i 0 + 1000000000000000000 - (Y.getD i 0 + b)]) ++ (subF (X.drop (i + 1)) (Y.drop (i + 1)) 1).1 = (subF X Y 0).1 ∧ (subF (X.drop (i + 1)) (Y.drop (i + 1)) 1).2 = (subF X Y 0).2 := by
  rw [drop_getD X i hi, subF, drop_0, drop_tl, if_neg hs] at h h2
  exact ⟨by rw [← h]; simp, h2⟩
/-- The answer is a slice that can be read, and true. -/
structure RetSub (w w' : World) (e : Ending) (n : Nat) (L : List Int) : Prop where
  ret : ∃ a c, e = .returned (.tuple #[.slice a n c, .bool true]) ∧ Sl w' a n L
  bel : Below w.heap.size w w'
theorem retsub {w w' : World} {a : Option Addr} {n c : Nat} {L : List Int} (h : Sl w' a n L) (hb : Below w.heap.size w w') : RetSub w w' (.returned (.tuple #[.slice a n c, .bool true])) n L := ⟨⟨a, c, rfl, h⟩, hb⟩

set_option maxHeartbeats 1000000 in
/-- zzSubDecNat, where nothing is borrowed in the end. -/
theorem sub_any (a0 : Option Addr) (n0 c0 : Nat) (a1 : Option Addr) (n1 c1 : Nat) (X Y : List Int) (h0 : n0 ≤ 1048576) (h1 : n1 ≤ n0) (w : World) (hX : Sl w a0 n0 X) (hY : Sl w a1 n1 Y) (lX : Lb X) (lY : Lb Y) (hb0 : (subF X Y 0).2 = 0) :
    Calls Try.prog 14 #[.slice a0 n0 c0, .slice a1 n1 c1] w fun e w' => RetSub w w' e (strip (subF X Y 0).1).length (strip (subF X Y 0).1) := by
  have HX := hide hX
  have HY := hide hY
  have LX := hide lX
  have LY := hide lY
  have Hxl := hide hX.len
  have Hyl := hide hY.len
  have HB0 := hide hb0
  clear hX hY lX lY hb0
  have hmk := make22 n0 (by omega)
  go_enter Try.func14, Try.ntmps14
  go_wp2
  clear hmk
  go_loopw [8, 7] (fun si sb wr => ∃ (i : Nat) (b : Int) (out : List Int), RS w X Y si sb wr i b out) (fun si _ _ => n0 - (intOf si).toNat)
  case atStart => exact ⟨0, 0, [], by omega, rfl, rfl, by omega, by omega, rfl, rfl, rfl, by have h := Blk.made w .u64 n0 34; rw [Hxl.out]; simpa [half] using h, (Below.refl _ _).alloc (Nat.le_refl _) _⟩
  case round =>
    obtain ⟨i, c, out, hi, rfl, rfl, hc0, hc1, hol, heq, heqb, hB, hb⟩ := hrel
    have Hol := hide hol
    have Heq := hide heq
    have Heqb := hide heqb
    have HB := hide hB
    have Hb := hide hb
    clear hol heq heqb hB hb
    have hi' : i ≤ n0 := by have := Hxl.out; omega
    have hhl : (half out X.length).length = n0 := by rw [half_len _ _ (by rw [Hol.out]; omega), Hxl.out]
    have Hhl := hide hhl
    clear hhl hi
    have f0 := HB.out.free
    by_cases hlt : i < n0
    · rcases (HX.out.below Hb.out).cells with g0 | ⟨b, off, rfl, hbl, hcx⟩
      · omega
      have k0 := hcx i hlt
      clear hcx
      have bx := LX.out.at i
      have by_ := LY.out.at i
      obtain ⟨v0, hv0⟩ : ∃ v, wr.cell? ⟨w.heap.size, i, none⟩ = some v := ⟨_, HB.out.icell i (by rw [Hhl.out]; omega)⟩
      have close_lo : ∀ z, z = X.getD i 0 - (Y.getD i 0 + c) → 0 ≤ z → RS w X Y (.int .i64 ((i : Int) + 1)) (.int .u64 0) (wr.setCell ⟨w.heap.size, i, none⟩ (.int .u64 z)) (i + 1) 0 (out ++ [z]) := by
        intro z ez hz
        subst ez
        have q := subF_lo (by have := Hxl.out; omega) Heq.out Heqb.out (show Y.getD i 0 + c ≤ X.getD i 0 by omega)
        refine ⟨by have := Hxl.out; omega, by go_num, rfl, by omega, by omega, by simp [Hol.out], q.1, q.2, ?_, Hb.out.setCell (Nat.le_refl _) _⟩
        have h := HB.out.iset i (X.getD i 0 - (Y.getD i 0 + c))
        have e := half_set out X.length (by rw [Hol.out, Hxl.out]; omega) (X.getD i 0 - (Y.getD i 0 + c))
        rw [Hol.out] at e
        rw [e] at h
        exact h
      have close_hi : ∀ z, z = X.getD i 0 + 1000000000000000000 - (Y.getD i 0 + c) → z < 1000000000000000000 → RS w X Y (.int .i64 ((i : Int) + 1)) (.int .u64 1) (wr.setCell ⟨w.heap.size, i, none⟩ (.int .u64 z)) (i + 1) 1 (out ++ [z]) := by
        intro z ez hz
        subst ez
        have q := subF_hi (by have := Hxl.out; omega) Heq.out Heqb.out (show ¬ Y.getD i 0 + c ≤ X.getD i 0 by omega)
        refine ⟨by have := Hxl.out; omega, by go_num, rfl, by omega, by omega, by simp [Hol.out], q.1, q.2, ?_, Hb.out.setCell (Nat.le_refl _) _⟩
        have h := HB.out.iset i (X.getD i 0 + 1000000000000000000 - (Y.getD i 0 + c))
        have e := half_set out X.length (by rw [Hol.out, Hxl.out]; omega) (X.getD i 0 + 1000000000000000000 - (Y.getD i 0 + c))
        rw [Hol.out] at e
        rw [e] at h
        exact h
      have CL := hide close_lo
      have CH := hide close_hi
      clear close_lo close_hi
      simp only [List.getD_eq_getElem?_getD] at bx by_
      have hw1 : IntKind.u64.wrap (Y[i]?.getD 0 + c) = Y[i]?.getD 0 + c := by rw [IntKind.wrap_u64]; omega
      have hw2 : IntKind.u64.wrap (X[i]?.getD 0 + 1000000000000000000) = X[i]?.getD 0 + 1000000000000000000 := by rw [IntKind.wrap_u64]; omega
      by_cases hy1 : i < n1
      · rcases (HY.out.below Hb.out).cells with g0 | ⟨b', off', rfl, hbl', hcy⟩
        · omega
        have k1 := hcy i hy1
        clear hcy
        go_wp2
        · have hge : Y[i]?.getD 0 + c ≤ X[i]?.getD 0 := ‹_›
          go_roundw
          case rel => exact ⟨i + 1, 0, _, CL.out _ rfl (by omega)⟩
          case measure => simp [intOf]; omega
        · have hge : X[i]?.getD 0 < Y[i]?.getD 0 + c := ‹_›
          go_roundw
          case rel => exact ⟨i + 1, 1, _, CH.out _ rfl (by omega)⟩
          case measure => simp [intOf]; omega
      · have ey : Y.getD i 0 = 0 := by simp [List.getElem?_eq_none (show Y.length ≤ i by have := Hyl.out; omega)]
        have Hy := hide ey
        clear ey hw1
        have hw1 : IntKind.u64.wrap (0 + c) = c := by rw [IntKind.wrap_u64]; omega
        go_wp2
        · have hge : c ≤ X[i]?.getD 0 := ‹_›
          go_roundw
          case rel => exact ⟨i + 1, 0, _, CL.out _ (by rw [Hy.out]; simp only [List.getD_eq_getElem?_getD]; omega) (by omega)⟩
          case measure => simp [intOf]; omega
        · have hge : X[i]?.getD 0 < c := ‹_›
          go_roundw
          case rel => exact ⟨i + 1, 1, _, CH.out _ (by rw [Hy.out]; simp only [List.getD_eq_getElem?_getD]; omega) (by omega)⟩
          case measure => simp [intOf]; omega
    · obtain rfl : i = n0 := by omega
      have edr : X.drop i = [] := List.drop_eq_nil_of_le (by rw [Hxl.out]; omega)
      obtain rfl : c = 0 := by
        have q := Heqb.out
        rw [edr, HB0.out] at q
        simpa [subF] using q
      obtain ⟨L, hL⟩ : ∃ L, (subF X Y 0).1 = L := ⟨_, rfl⟩
      have HLL := hide hL
      have hLl : L.length = i := by
        have q := Heq.out
        rw [edr, hL] at q
        have q2 : out = L := by simpa [subF] using q
        rw [← q2, Hol.out]
      have hR : Hid (Blk wr w.heap.size (ints .u64 L) 34) := by
        have h := HB.out
        rw [half_full _ _ (by rw [Hol.out, Hxl.out])] at h
        have q := Heq.out
        rw [edr, hL] at q
        have q2 : out = L := by simpa [subF] using q
        rw [q2] at h
        exact h
      have HLl := hide hLl
      clear hL hLl edr
      go_wp2
      go_loop [12] (fun s => ∃ k : Nat, s = .int .i64 k ∧ k ≤ i ∧ nz L k = nz L i) (fun s => (intOf s).toNat)
      case atStart => exact ⟨i, rfl, Nat.le_refl _, rfl⟩
      case round =>
        obtain ⟨k, rfl, hk, he⟩ := hrel
        have He := hide he
        clear he
        by_cases h0 : k = 0
        · subst h0
          have h0' : decide ((0 : Int) < 0) = false := by simp
          go_wp2
          go_ret2
          have hs := Sl.own hR.out 0 (by omega)
          have e3 : strip L = L.take 0 := by unfold strip; rw [HLl.out, ← He.out]; rfl
          rw [HLL.out, e3]
          exact retsub hs Hb.out
        · obtain ⟨m, rfl⟩ : ∃ m, k = m + 1 := ⟨k - 1, by omega⟩
          have c0 := hR.out.icell m (by have := HLl.out; omega)
          by_cases hz : L.getD m 0 = 0
          · have hz' : (L[m]?.getD 0 == 0) = true := by simpa using hz
            have Hz := hide hz
            clear hz
            go_wp2
            go_round
            case rel => exact ⟨m, rfl, by omega, by rw [← He.out, nz_succ_zero Hz.out]⟩
            case measure => simp [intOf]
          · have hz' : (L[m]?.getD 0 == 0) = false := by simpa using hz
            have Hz := hide hz
            clear hz
            go_wp2
            go_ret2
            have hs := Sl.own hR.out (m + 1) (by have := HLl.out; omega)
            have e3 : strip L = L.take (m + 1) := by unfold strip; rw [HLl.out, ← He.out, nz_succ_ne Hz.out]
            have e4 : (L.take (m + 1)).length = m + 1 := by have := HLl.out; simp; omega
            rw [HLL.out, e3, e4]
            exact retsub hs Hb.out
end Go.Proofs.Qxb6605524a
