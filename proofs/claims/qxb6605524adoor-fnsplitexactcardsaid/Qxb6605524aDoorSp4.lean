import Derived.Test.Qxb6605524aDoorSp3
namespace Go.Proofs.Qxb6605524aDoor
open Go.RowKit
set_option linter.unusedVariables false

/-- Written in hexadecimal. -/
def isHex (t : ByteArray) : Bool := decide (1 < t.size ∧ bt t 0 = 48 ∧ (bt t 1 = 120 ∨ bt t 1 = 88))
/-- m is the place of the first mark, or the end. -/
structure IsM (u : ByteArray) (a b : Int) (m : Nat) : Prop where
  le : m ≤ u.size
  no : ∀ j, j < m → bt u j ≠ a ∧ bt u j ≠ b
  at_ : m < u.size → bt u m = a ∨ bt u m = b
theorem IsM.uniq {u : ByteArray} {a b : Int} {m n : Nat} (h : IsM u a b m) (g : IsM u a b n) : m = n := by
  rcases Nat.lt_trichotomy m n with h1 | h1 | h1
  · have := h.at_ (by have := g.le; omega); have := g.no m h1; omega
  · exact h1
  · have := g.at_ (by have := h.le; omega); have := h.no n h1; omega
theorem IsM.ex (u : ByteArray) (a b : Int) : ∀ k, k ≤ u.size → (∀ j, j < u.size - k → bt u j ≠ a ∧ bt u j ≠ b) → ∃ m, IsM u a b m
  | 0, _, h => ⟨u.size, by omega, fun j hj => h j (by omega), by omega⟩
  | k + 1, hk, h => by
    by_cases e : bt u (u.size - (k + 1)) = a ∨ bt u (u.size - (k + 1)) = b
    · exact ⟨_, by omega, h, fun _ => e⟩
    · refine IsM.ex u a b k (by omega) fun j hj => ?_
      by_cases e2 : j = u.size - (k + 1)
      · subst e2; omega
      · exact h j (by omega)
theorem IsM.some (u : ByteArray) (a b : Int) : ∃ m, IsM u a b m := IsM.ex u a b u.size (Nat.le_refl _) fun j hj => by omega

def zF (s : ByteArray) : Nat → Bool
  | 0 => true
  | k + 1 => zF s k && decide (bt s k = 46 ∨ bt s k = 48)
def tzF (s : ByteArray) : Nat → Nat
  | 0 => 0
  | k + 1 => if bt s k = 46 then tzF s k else if bt s k = 48 then tzF s k + 1 else 0
def apF (s : ByteArray) : Nat → Bool
  | 0 => false
  | k + 1 => if bt s k = 46 then true else apF s k
def frF (s : ByteArray) : Nat → Nat
  | 0 => 0
  | k + 1 => if bt s k = 46 then frF s k else if apF s k then frF s k + 1 else frF s k
theorem tzF_le (s : ByteArray) : ∀ k, tzF s k ≤ k
  | 0 => Nat.le_refl _
  | k + 1 => by have := tzF_le s k; unfold tzF; split; omega; split <;> omega
theorem frF_le (s : ByteArray) : ∀ k, frF s k ≤ k
  | 0 => Nat.le_refl _
  | k + 1 => by have := frF_le s k; unfold frF; split; omega; split <;> omega
theorem bt_pre (t : ByteArray) (m i : Nat) (hm : m ≤ t.size) (h : i < m) : bt (t.extract 0 m) i = bt t i := by
  rw [bt_extract t 0 m i hm (by omega), Nat.zero_add]
theorem zF_pre (t : ByteArray) (m : Nat) (hm : m ≤ t.size) : ∀ k, k ≤ m → zF (t.extract 0 m) k = zF t k
  | 0, _ => rfl
  | k + 1, h => by rw [zF, zF, zF_pre t m hm k (by omega), bt_pre t m k hm (by omega)]
theorem tzF_pre (t : ByteArray) (m : Nat) (hm : m ≤ t.size) : ∀ k, k ≤ m → tzF (t.extract 0 m) k = tzF t k
  | 0, _ => rfl
  | k + 1, h => by rw [tzF, tzF, tzF_pre t m hm k (by omega), bt_pre t m k hm (by omega)]
theorem apF_pre (t : ByteArray) (m : Nat) (hm : m ≤ t.size) : ∀ k, k ≤ m → apF (t.extract 0 m) k = apF t k
  | 0, _ => rfl
  | k + 1, h => by rw [apF, apF, apF_pre t m hm k (by omega), bt_pre t m k hm (by omega)]
theorem frF_pre (t : ByteArray) (m : Nat) (hm : m ≤ t.size) : ∀ k, k ≤ m → frF (t.extract 0 m) k = frF t k
  | 0, _ => rfl
  | k + 1, h => by rw [frF, frF, frF_pre t m hm k (by omega), apF_pre t m hm k (by omega), bt_pre t m k hm (by omega)]
theorem zF_bad {s : ByteArray} {i : Nat} (h : bt s i ≠ 46 ∧ bt s i ≠ 48) : ∀ k, i < k → zF s k = false
  | 0, hk => by omega
  | k + 1, hk => by
    unfold zF
    by_cases e : i = k
    · subst e; simp [h.1, h.2]
    · rw [zF_bad h k (by omega)]; rfl
theorem clear_ap {s : ByteArray} : ∀ p, (∀ j, j < p → bt s j ≠ 46) → apF s p = false ∧ frF s p = 0
  | 0, _ => ⟨rfl, rfl⟩
  | p + 1, h => by
    have ih := clear_ap p fun j hj => h j (by omega)
    have := h p (by omega)
    simp [apF, frF, ih.1, ih.2, this]

set_option maxHeartbeats 400000 in
theorem bytes4 (s : ByteArray) (hs : s.size ≤ 1048576) (w : World) : Calls Tryd.prog 4 #[.string s] w fun e w' => e = .returned (.bool true) ∧ w' = w := by
  go_enter Tryd.func4, Tryd.ntmps4
  go_wp2
  go_ret
  exact ⟨rfl, rfl⟩
set_option maxHeartbeats 400000 in
theorem bytes4_no (s : ByteArray) (hs : 1048576 < s.size) (w : World) : Calls Tryd.prog 4 #[.string s] w fun e w' => e = .returned (.bool false) ∧ w' = w := by
  go_enter Tryd.func4, Tryd.ntmps4
  go_wp2
  go_ret
  exact ⟨rfl, rfl⟩

theorem or_x : ∀ n : Fin 256, (bits BinOp.or IntKind.u8 ((n.val : Nat) : Int) 32 == 120) = decide (n.val = 120 ∨ n.val = 88) := by decide +kernel
theorem or_e : ∀ n : Fin 256, (bits BinOp.or IntKind.u8 ((n.val : Nat) : Int) 32 != 101) = decide (¬ (n.val = 101 ∨ n.val = 69)) := by decide +kernel
theorem or_p : ∀ n : Fin 256, (bits BinOp.or IntKind.u8 ((n.val : Nat) : Int) 32 != 112) = decide (¬ (n.val = 112 ∨ n.val = 80)) := by decide +kernel
theorem fin_of {b : Int} (h : 0 ≤ b ∧ b < 256) : ∃ n : Fin 256, b = ((n.val : Nat) : Int) := ⟨⟨b.toNat, by omega⟩, by simp; omega⟩
theorem orx {b : Int} (h : 0 ≤ b ∧ b < 256) : (bits BinOp.or IntKind.u8 b 32 == 120) = decide (b = 120 ∨ b = 88) := by
  obtain ⟨n, rfl⟩ := fin_of h
  rw [or_x n]; congr 1; apply propext; omega
theorem ore {b : Int} (h : 0 ≤ b ∧ b < 256) : (bits BinOp.or IntKind.u8 b 32 != 101) = decide (¬ (b = 101 ∨ b = 69)) := by
  obtain ⟨n, rfl⟩ := fin_of h
  rw [or_e n]; congr 1; apply propext; omega
theorem orp {b : Int} (h : 0 ≤ b ∧ b < 256) : (bits BinOp.or IntKind.u8 b 32 != 112) = decide (¬ (b = 112 ∨ b = 80)) := by
  obtain ⟨n, rfl⟩ := fin_of h
  rw [or_p n]; congr 1; apply propext; omega
theorem ret_b {x y : Bool} (h : x = y) : Ending.returned (.bool x) = .returned (.bool y) := by rw [h]

set_option maxHeartbeats 400000 in
theorem hex_any (t : ByteArray) (w : World) : Calls Tryd.prog 12 #[.string t] w fun e w' => e = .returned (.bool (isHex t)) ∧ w' = w := by
  by_cases h1 : 1 < t.size
  · have k0 := bt_at t 0 (by omega)
    have k1 := bt_at t 1 h1
    have l1 := bt_lo t 1
    obtain ⟨p, hp⟩ : ∃ p, bt t 0 = p := ⟨_, rfl⟩
    obtain ⟨q, hq⟩ : ∃ q, bt t 1 = q := ⟨_, rfl⟩
    rw [hp] at k0
    rw [hq] at k1 l1
    have Hp := hide hp
    have Hq := hide hq
    have H1 := hide h1
    have o := orx l1
    have O := hide o
    clear hp hq o
    by_cases h48 : p = 48
    · subst h48
      go_enter Tryd.func12, Tryd.ntmps12
      go_wp2
      go_ret
      refine ⟨ret_b ?_, rfl⟩
      rw [O.out]
      unfold isHex
      rw [Hp.out, Hq.out]
      simp [H1.out]
    · have e : (p == 48) = false := by simpa using h48
      go_enter Tryd.func12, Tryd.ntmps12
      go_wp2
      go_ret
      refine ⟨ret_b ?_, rfl⟩
      unfold isHex
      rw [Hp.out]
      simp [h48]
  · have e : decide ((1 : Int) < (t.size : Int)) = false := decide_eq_false (by omega)
    go_enter Tryd.func12, Tryd.ntmps12
    go_wp2
    go_ret
    exact ⟨ret_b (by unfold isHex; simp [h1]), rfl⟩

set_option maxHeartbeats 400000 in
/-- zzIndexMark. -/
theorem index_any (u : ByteArray) (a b : Int) (m : Nat) (hm : IsM u a b m) (hu : u.size ≤ 1048576) (w : World) :
    Calls Tryd.prog 6 #[.string u, .int .u8 a, .int .u8 b] w fun e w' => e = .returned (.int .i64 m) ∧ w' = w := by
  have HM := hide hm
  clear hm
  go_enter Tryd.func6, Tryd.ntmps6
  go_wp2
  go_loop [7] (fun s => ∃ i : Nat, s = .int .i64 i ∧ i ≤ m) (fun s => m - (intOf s).toNat)
  case atStart => exact ⟨0, rfl, by omega⟩
  case round =>
    obtain ⟨i, rfl, hi⟩ := hrel
    have hle := HM.out.le
    by_cases hlt : i < u.size
    · have k0 := bt_at u i hlt
      obtain ⟨q, hq⟩ : ∃ q, bt u i = q := ⟨_, rfl⟩
      rw [hq] at k0
      have Hq := hide hq
      clear hq
      by_cases him : i < m
      · have hn := HM.out.no i him
        rw [Hq.out] at hn
        have e1 : (q == a) = false := by simpa using hn.1
        have e2 : (q == b) = false := by simpa using hn.2
        clear hn
        go_wp2
        go_round
        case rel => exact ⟨i + 1, by go_num, by omega⟩
        case measure => simp [intOf]; omega
      · obtain rfl : i = m := by omega
        have ha := HM.out.at_ hlt
        rw [Hq.out] at ha
        by_cases h1 : q = a
        · have e1 : (q == a) = true := by simpa using h1
          clear ha h1
          go_wp2
          go_ret
          exact ⟨rfl, rfl⟩
        · have e1 : (q == a) = false := by simpa using h1
          have e2 : (q == b) = true := by simp; omega
          clear ha h1
          go_wp2
          go_ret
          exact ⟨rfl, rfl⟩
    · obtain rfl : m = u.size := by omega
      go_wp2
      go_ret
      exact ⟨rfl, rfl⟩

set_option maxHeartbeats 400000 in
/-- zzAllZeroDigits. -/
theorem zero_any (d : ByteArray) (hd : d.size ≤ 1048576) (w : World) :
    Calls Tryd.prog 7 #[.string d] w fun e w' => e = .returned (.bool (zF d d.size)) ∧ w' = w := by
  go_enter Tryd.func7, Tryd.ntmps7
  go_wp2
  go_loop [3] (fun s => ∃ i : Nat, s = .int .i64 i ∧ i ≤ d.size ∧ zF d i = true) (fun s => d.size - (intOf s).toNat)
  case atStart => exact ⟨0, rfl, by omega, rfl⟩
  case round =>
    obtain ⟨i, rfl, hi, hz⟩ := hrel
    have Hz := hide hz
    clear hz
    by_cases hlt : i < d.size
    · have k0 := bt_at d i hlt
      obtain ⟨q, hq⟩ : ∃ q, bt d i = q := ⟨_, rfl⟩
      rw [hq] at k0
      have Hq := hide hq
      clear hq
      by_cases h48 : q = 48
      · subst h48
        go_wp2
        go_round
        case rel => exact ⟨i + 1, by go_num, by omega, by rw [zF, Hz.out, Hq.out]; rfl⟩
        case measure => simp [intOf]; omega
      · have e1 : (q != 48) = true := by simpa using h48
        by_cases h46 : q = 46
        · subst h46
          go_wp2
          go_round
          case rel => exact ⟨i + 1, by go_num, by omega, by rw [zF, Hz.out, Hq.out]; rfl⟩
          case measure => simp [intOf]; omega
        · have e2 : (q != 46) = true := by simpa using h46
          have Hb : Hid (zF d d.size = false) := zF_bad (i := i) (by rw [Hq.out]; exact ⟨h46, h48⟩) d.size hlt
          go_wp2
          go_ret
          exact ⟨ret_b Hb.out.symm, rfl⟩
    · obtain rfl : i = d.size := by omega
      go_wp2
      go_ret
      exact ⟨ret_b Hz.out.symm, rfl⟩

set_option maxHeartbeats 400000 in
/-- zzTrailingZeros. -/
theorem tz_any (d : ByteArray) (hd : d.size ≤ 1048576) (w : World) :
    Calls Tryd.prog 8 #[.string d] w fun e w' => e = .returned (.int .i64 (tzF d d.size : Int)) ∧ w' = w := by
  go_enter Tryd.func8, Tryd.ntmps8
  go_wp2
  go_loop [4, 3] (fun sk sn => ∃ k n : Nat, sk = .int .i64 ((k : Int) - 1) ∧ sn = .int .i64 n ∧ k ≤ d.size ∧ n ≤ 1048576 ∧ n + tzF d k = tzF d d.size) (fun sk _ => (intOf sk + 1).toNat)
  case atStart => exact ⟨d.size, 0, rfl, rfl, by omega, by omega, by omega⟩
  case round =>
    obtain ⟨k, n, rfl, rfl, hk, hn, heq⟩ := hrel
    have Heq := hide heq
    clear heq
    rcases Nat.eq_zero_or_pos k with h0 | h0
    · subst h0
      have e : (((0 : Nat) : Int) - 1) = -1 := by omega
      rw [e]
      clear e
      go_wp2
      go_ret
      rw [← Heq.out]
      exact ⟨rfl, rfl⟩
    · obtain ⟨i, rfl⟩ : ∃ i, k = i + 1 := ⟨k - 1, by omega⟩
      have e : (((i + 1 : Nat) : Int) - 1) = (i : Int) := by omega
      rw [e]
      have He := hide e
      clear e
      have hlt : i < d.size := by omega
      have k0 := bt_at d i hlt
      obtain ⟨q, hq⟩ : ∃ q, bt d i = q := ⟨_, rfl⟩
      rw [hq] at k0
      have Hq := hide hq
      clear hq
      have hle := tzF_le d (i + 1)
      have Hle := hide hle
      have htl := tzF_le d d.size
      have Htl := hide htl
      clear hle htl
      by_cases h46 : q = 46
      · subst h46
        go_wp2
        go_round
        case rel => exact ⟨i, n, by go_num, rfl, by omega, by omega, by rw [← Heq.out, tzF, Hq.out]; rfl⟩
        case measure => simp [intOf]
      · have e1 : (q == 46) = false := by simpa using h46
        by_cases h48 : q = 48
        · subst h48
          have hq2 : Hid (n + 1 + tzF d i = tzF d d.size) := by unfold Hid; rw [← Heq.out, tzF, Hq.out]; simp; omega
          go_wp2
          go_round
          case rel => exact ⟨i, n + 1, by go_num, by go_num, by omega, by have := hq2.out; have := Htl.out; omega, hq2.out⟩
          case measure => simp [intOf]
        · have e2 : (q != 48) = true := by simpa using h48
          have hq2 : Hid (n = tzF d d.size) := by unfold Hid; rw [← Heq.out, tzF, Hq.out]; simp [h46, h48]
          go_wp2
          go_ret
          rw [← hq2.out]
          exact ⟨rfl, rfl⟩

set_option maxHeartbeats 1000000 in
/-- zzFractionDigits. -/
theorem frac_any (d : ByteArray) (hd : d.size ≤ 1048576) (w : World) :
    Calls Tryd.prog 9 #[.string d] w fun e w' => e = .returned (.int .i64 (frF d d.size : Int)) ∧ w' = w := by
  go_enter Tryd.func9, Tryd.ntmps9
  go_wp2
  go_loop [3] (fun s => ∃ p : Nat, s = .int .i64 p ∧ p ≤ d.size ∧ ∀ j, j < p → bt d j ≠ 46) (fun s => d.size - (intOf s).toNat)
  case atStart => exact ⟨0, rfl, by omega, fun j hj => by omega⟩
  case round =>
    obtain ⟨p, rfl, hp, hno⟩ := hrel
    have Hno := hide hno
    clear hno
    by_cases hlt : p < d.size
    · have k0 := bt_at d p hlt
      obtain ⟨q, hq⟩ : ∃ q, bt d p = q := ⟨_, rfl⟩
      rw [hq] at k0
      have Hq := hide hq
      clear hq
      by_cases h46 : q = 46
      · subst h46
        have e0 : ((p : Int) == (d.size : Int)) = false := by simp; omega
        go_wp2
        go_loop [5, 4] (fun sk sp => ∃ k c : Nat, sk = .int .i64 k ∧ sp = .int .i64 c ∧ p + 1 ≤ k ∧ k ≤ d.size ∧ apF d k = true ∧ frF d k + c + p + 1 = k) (fun sk _ => d.size - (intOf sk).toNat)
        case atStart => exact ⟨p + 1, 0, by go_num, rfl, by omega, by omega, by rw [apF, Hq.out]; rfl, by
          have := clear_ap p Hno.out
          rw [frF, Hq.out, this.2]; simp⟩
        case round =>
          obtain ⟨k, c, rfl, rfl, hk0, hk1, hap, hfr⟩ := hrel
          have Hap := hide hap
          have Hfr := hide hfr
          have hc : c ≤ 1048576 := by omega
          clear hap hfr
          by_cases hlt2 : k < d.size
          · have k1 := bt_at d k hlt2
            obtain ⟨r, hr⟩ : ∃ r, bt d k = r := ⟨_, rfl⟩
            rw [hr] at k1
            have Hr := hide hr
            clear hr
            by_cases h46 : r = 46
            · subst h46
              go_wp2
              go_round
              case rel => exact ⟨k + 1, c + 1, by go_num, by go_num, by omega, by omega, by rw [apF, Hr.out]; rfl, by have := Hfr.out; rw [frF, Hr.out]; simp; omega⟩
              case measure => simp [intOf]; omega
            · have e1 : (r == 46) = false := by simpa using h46
              go_wp2
              go_round
              case rel => exact ⟨k + 1, c, by go_num, rfl, by omega, by omega, by rw [apF, Hr.out, if_neg h46]; exact Hap.out, by have := Hfr.out; rw [frF, Hr.out, if_neg h46, Hap.out]; simp; omega⟩
              case measure => simp [intOf]; omega
          · obtain rfl : k = d.size := by omega
            go_wp2
            go_ret
            have e : ((frF d d.size : Nat) : Int) = (d.size : Int) - p - 1 - c := by have := Hfr.out; omega
            rw [e]
            exact ⟨rfl, rfl⟩
      · have e1 : (q != 46) = true := by simpa using h46
        go_wp2
        go_round
        case rel => exact ⟨p + 1, by go_num, by omega, fun j hj => by
          by_cases e : j = p
          · subst e; rw [Hq.out]; exact h46
          · exact Hno.out j (by omega)⟩
        case measure => simp [intOf]; omega
    · obtain rfl : p = d.size := by omega
      have e0 : ((d.size : Int) == (d.size : Int)) = true := by simp
      have e1 : decide ((d.size : Int) < (d.size : Int)) = false := by simp
      have Hz : Hid (frF d d.size = 0) := (clear_ap _ Hno.out).2
      go_wp2
      go_ret
      rw [Hz.out]
      exact ⟨rfl, rfl⟩
end Go.Proofs.Qxb6605524aDoor
