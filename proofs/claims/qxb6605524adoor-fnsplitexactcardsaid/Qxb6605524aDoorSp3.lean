import Derived.Test.Qxb6605524aDoorSp2
import Derived.Test.Qxb6605524aDoorMem
import Derived.Deep.OwnRows
import Derived.Deep.DeepCutAuto
import Derived.Deep.CutBlock
import Derived.Deep.LoopGhost
namespace Go.Proofs.Qxb6605524aDoor
open Go.RowKit
set_option linter.unusedVariables false

theorem drop_bt (s : ByteArray) (i : Nat) (h : i < s.size) : ∃ c : UInt8, s.data.toList.drop i = c :: s.data.toList.drop (i + 1) ∧ (c.toNat : Int) = bt s i := by
  have h' : i < s.data.toList.length := by simpa using h
  refine ⟨s.data.toList[i], List.drop_eq_getElem_cons h', ?_⟩
  unfold bt
  rw [List.getElem?_eq_getElem h']; rfl
theorem toList_nil (s : ByteArray) (h : s.size = 0) : s.data.toList = [] := List.length_eq_zero_iff.1 (by simpa using h)
theorem toList_ext1 (s : ByteArray) (h : 0 < s.size) : ∃ c : UInt8, s.data.toList = c :: (s.extract 1 s.size).data.toList ∧ (c.toNat : Int) = bt s 0 := by
  obtain ⟨c, h1, h2⟩ := drop_bt s 0 h
  refine ⟨c, ?_, h2⟩
  rw [List.drop_zero] at h1
  rw [h1, ByteArray.data_extract]
  congr 1
  have e : s.size = s.data.size := rfl
  rw [e, Array.toList_extract, List.extract_eq_take_drop, Array.length_toList.symm, List.take_of_length_le (by simp)]

/-- The parser's answer. -/
def pdE (o : Option Int) : Ending := .returned (.tuple #[.int .i64 (o.getD 0), .bool o.isSome])
/-- In the parser's loop. -/
structure PR (u : ByteArray) (si sa : Value) (i : Nat) (a : Int) : Prop where
  hi : i ≤ u.size
  si : si = .int .i64 i
  sa : sa = .int .u64 a
  a0 : 0 ≤ a
  a1 : a ≤ 9223372036854775808
  eq : magF a (u.data.toList.drop i) = magF 0 u.data.toList
set_option maxHeartbeats 1000000 in
/-- zzParseDec behind its sign. -/
theorem parse_any (u : ByteArray) (hu : u.size ≤ 1048576) (w : World) :
    Calls Tryd.prog 10 #[.string u] w fun e w' => e = pdE (pd u.data.toList) ∧ w' = w := by
  go_enter Tryd.func10, Tryd.ntmps10
  go_upto_region 1 with fail
  go_cut [4] (fun s wr => s = .bool false ∧ wr = w)
  case first =>
    go_wp2
    go_meet
    case rel => exact ⟨rfl, rfl⟩
  obtain ⟨rfl, rfl⟩ := hcut
  go_step; go_step
  go_cut [0, 4] (fun s0 s4 wr => ∃ (t : ByteArray) (neg : Bool), s0 = .string t ∧ s4 = .bool neg ∧ t.size ≤ 1048576 ∧ pd u.data.toList = pdF neg t.data.toList ∧ wr = wc)
  case first =>
    by_cases h0 : u.size = 0
    · have Hn := hide (toList_nil u h0)
      have h0' : decide ((0 : Int) < (u.size : Int)) = false := by simp [h0]
      go_wp2
      go_meet
      case rel => exact ⟨u, false, rfl, rfl, hu, by rw [Hn.out]; rfl, rfl⟩
    · have hpos : 0 < u.size := by omega
      obtain ⟨c, hc, hc2⟩ := toList_ext1 u hpos
      have Hc := hide hc
      clear hc
      have k0 := bt_at u 0 hpos
      rw [← hc2] at k0
      obtain ⟨b, hb⟩ : ∃ b : Int, (c.toNat : Int) = b := ⟨_, rfl⟩
      rw [hb] at k0
      have Hb := hide hb
      clear hb hc2
      have hsz : (u.extract 1 u.size).size ≤ 1048576 := by rw [ByteArray.size_extract]; omega
      have Hsz := hide hsz
      clear hsz
      by_cases h43 : b = 43
      · subst h43
        have Hpd : Hid (pd u.data.toList = pdF false (u.extract 1 u.size).data.toList) := by
          unfold Hid
          have e : c.toNat = 43 := by have := Hb.out; omega
          have := pd_cons c (u.extract 1 u.size).data.toList
          rw [← Hc.out] at this
          simpa [e] using this
        go_wp2
        go_meet
        case rel => exact ⟨_, false, rfl, rfl, Hsz.out, Hpd.out, rfl⟩
      · by_cases h45 : b = 45
        · subst h45
          have Hpd : Hid (pd u.data.toList = pdF true (u.extract 1 u.size).data.toList) := by
            unfold Hid
            have e : c.toNat = 45 := by have := Hb.out; omega
            have := pd_cons c (u.extract 1 u.size).data.toList
            rw [← Hc.out] at this
            simpa [e] using this
          go_wp2
          go_meet
          case rel => exact ⟨_, true, rfl, rfl, Hsz.out, Hpd.out, rfl⟩
        · have Hpd : Hid (pd u.data.toList = pdF false u.data.toList) := by
            unfold Hid
            have e1 : ¬ c.toNat = 43 := by have := Hb.out; omega
            have e2 : ¬ c.toNat = 45 := by have := Hb.out; omega
            have := pd_cons c (u.extract 1 u.size).data.toList
            rw [← Hc.out] at this
            simp [e1, e2] at this
            exact this
          have e1 : (b == 43) = false := by simpa using h43
          have e2 : (b == 45) = false := by simpa using h45
          go_wp2
          go_meet
          case rel => exact ⟨u, false, rfl, rfl, hu, Hpd.out, rfl⟩
  obtain ⟨t, neg, rfl, rfl, ht, hpd, rfl⟩ := hcut
  have Hpd := hide hpd
  clear hpd
  by_cases h0 : t.size = 0
  · have Hn := hide (toList_nil t h0)
    have h0' : ((t.size : Int) == 0) = true := by simp [h0]
    go_wp2
    go_ret2
    rw [Hpd.out, Hn.out]
    exact ⟨rfl, rfl⟩
  · have h0' : ((t.size : Int) == 0) = false := by simp [h0]
    have Hne : Hid (t.data.toList ≠ []) := fun h => h0 (by have := congrArg List.length h; simpa using this)
    go_wp2
    go_loop [6, 5] (fun si sa => ∃ (i : Nat) (a : Int), PR t si sa i a) (fun si _ => t.size - (intOf si).toNat)
    case atStart => exact ⟨0, 0, by omega, rfl, rfl, by omega, by omega, by simp⟩
    case round =>
      obtain ⟨i, a, hi, rfl, rfl, ha0, ha1, heq⟩ := hrel
      have Heq := hide heq
      clear heq
      by_cases hlt : i < t.size
      · obtain ⟨c, hc, hc2⟩ := drop_bt t i hlt
        have k0 := bt_at t i hlt
        obtain ⟨b, hb⟩ : ∃ b : Int, bt t i = b := ⟨_, rfl⟩
        rw [hb] at k0 hc2
        have hbl := bt_lo t i
        rw [hb] at hbl
        have Hc := hide hc
        have Hc2 := hide hc2
        clear hb hc hc2
        by_cases hd : b < 48 ∨ 57 < b
        · have Hm : Hid (pdF neg t.data.toList = none) := by
            have e : magF 0 t.data.toList = none := by rw [← Heq.out, Hc.out, magF, Hc2.out, if_pos hd]
            unfold Hid pdF; rw [if_neg Hne.out, e]
          rcases hd with hd | hd
          · go_wp2
            go_ret2
            rw [Hpd.out, Hm.out]
            exact ⟨rfl, rfl⟩
          · have hd' : decide (b < 48) = false := decide_eq_false (by omega)
            go_wp2
            go_ret2
            rw [Hpd.out, Hm.out]
            exact ⟨rfl, rfl⟩
        · have hd1 : 48 ≤ b := by omega
          have hd2 : b ≤ 57 := by omega
          have hw1 : IntKind.u8.wrap (b - 48) = b - 48 := by rw [IntKind.wrap_u8]; omega
          have hw2 : IntKind.u64.wrap (b - 48) = b - 48 := by rw [IntKind.wrap_u64]; omega
          have hw3 : IntKind.u64.wrap (9223372036854775808 - (b - 48)) = 9223372036854775808 - (b - 48) := by rw [IntKind.wrap_u64]; omega
          by_cases hov : (9223372036854775808 - (b - 48)) / 10 < a
          · have Hm : Hid (pdF neg t.data.toList = none) := by
              have e : magF 0 t.data.toList = none := by rw [← Heq.out, Hc.out, magF, Hc2.out, if_neg (by omega), if_pos hov]
              unfold Hid pdF; rw [if_neg Hne.out, e]
            go_wp2
            go_ret2
            rw [Hpd.out, Hm.out]
            exact ⟨rfl, rfl⟩
          · have Hm : Hid (magF (a * 10 + (b - 48)) (t.data.toList.drop (i + 1)) = magF 0 t.data.toList) := by
              have e := Heq.out
              rw [Hc.out, magF, Hc2.out, if_neg (by omega), if_neg hov] at e
              exact e
            go_wp2
            go_round
            case rel => exact ⟨i + 1, a * 10 + (b - 48), by omega, by go_num, rfl, by omega, by omega, Hm.out⟩
            case measure => simp [intOf]; omega
      · have Hm : Hid (magF 0 t.data.toList = some a) := by
          unfold Hid
          rw [← Heq.out, List.drop_eq_nil_of_le (by simp; have e : t.size = t.data.size := rfl; omega), magF]
        by_cases ha : a = 9223372036854775808
        · subst ha
          cases neg
          · have Hp : Hid (pdF false t.data.toList = none) := by unfold Hid pdF; rw [if_neg Hne.out, Hm.out]; rfl
            go_wp2
            go_ret2
            rw [Hpd.out, Hp.out]
            exact ⟨rfl, rfl⟩
          · have Hp : Hid (pdF true t.data.toList = some (-9223372036854775808)) := by unfold Hid pdF; rw [if_neg Hne.out, Hm.out]; rfl
            go_wp2
            go_ret2
            rw [Hpd.out, Hp.out]
            exact ⟨rfl, rfl⟩
        · have ha' : (a == 9223372036854775808) = false := by simpa using ha
          have hw1 : wrap64 a = a := by unfold wrap64; omega
          have hw2 : wrap64 (-a) = -a := by unfold wrap64; omega
          cases neg
          · have Hp : Hid (pdF false t.data.toList = some a) := by unfold Hid pdF; rw [if_neg Hne.out, Hm.out]; simp [ha]
            go_wp2
            go_ret2
            rw [Hpd.out, Hp.out]
            exact ⟨rfl, rfl⟩
          · have Hp : Hid (pdF true t.data.toList = some (-a)) := by unfold Hid pdF; rw [if_neg Hne.out, Hm.out]; rfl
            go_wp2
            go_ret2
            rw [Hpd.out, Hp.out]
            exact ⟨rfl, rfl⟩
end Go.Proofs.Qxb6605524aDoor
