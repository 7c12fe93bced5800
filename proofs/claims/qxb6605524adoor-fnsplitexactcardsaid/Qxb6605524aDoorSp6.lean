import Derived.Test.Qxb6605524aDoorSp5a
namespace Go.Proofs.Qxb6605524aDoor
open Go.RowKit
set_option linter.unusedVariables false

theorem zz_left {neg hex : Bool} {u : ByteArray} {m : Nat} (h : (zz neg hex u m).refused = false) : (zz neg hex u m).far = false ∧ (zz neg hex u m).pHex = false ∧ (zz neg hex u m).pExp = 0 ∧ (zz neg hex u m).pFr = 0 := by
  unfold zz at h ⊢
  split at h
  · simp at h
  · split at h
    · next h1 => simp [h1]
    · split at h
      · simp at h
      · next h1 h2 => simp only [h1, h2, if_false]; simp
/-- ZZsplit's answer. -/
def zE (z : Z) : Ending := .returned (.tuple #[.bool z.neg, .bool z.hex, .string z.digits, .int .i64 z.exp, .bool z.zero, .int .i64 z.tz, .bool z.refused, .bool z.far, .bool z.pHex, .int .i64 z.pExp, .int .i64 z.pFr])
theorem six {w : World} {neg hex zero : Bool} {d : ByteArray} {exp tz : Int} {b : Nat} (h : Blk w b (litC neg hex d exp zero tz) 31) : w.cell? ⟨b, 0, none⟩ = some (.bool neg) ∧ w.cell? ⟨b, 1, none⟩ = some (.bool hex) ∧ w.cell? ⟨b, 2, none⟩ = some (.string d) ∧ w.cell? ⟨b, 3, none⟩ = some (.int .i64 exp) ∧ w.cell? ⟨b, 4, none⟩ = some (.bool zero) ∧ w.cell? ⟨b, 5, none⟩ = some (.int .i64 tz) :=
  ⟨h.cell 0, h.cell 1, h.cell 2, h.cell 3, h.cell 4, h.cell 5⟩
set_option maxHeartbeats 2000000 in
set_option maxRecDepth 4000 in
theorem zzsplit_any (s : ByteArray) (z : Z) (hz : z.refused = false → z.far = false ∧ z.pHex = false ∧ z.pExp = 0 ∧ z.pFr = 0) (w : World)
    (hsp : Calls Tryd.prog 11 #[.string s] w fun e w' => SplE w' z e ∧ Below w.heap.size w w') :
    Calls Tryd.prog 5 #[.string s] w fun e w' => e = zE z ∧ Below w.heap.size w w' := by
  have HS := hide hsp
  have HZ := hide hz
  clear hsp hz
  go_enter Tryd.func5, Tryd.ntmps5
  go_wp2_with fail
  refine HS.out.mono ?_
  rintro e w1 ⟨hs, hb⟩
  have HB := hide hb
  clear hb
  rcases hs with ⟨hr, rfl⟩ | ⟨hr, N, rfl, hbl⟩
  · have HR := hide hr
    clear hr
    unfold litZ litC
    go_upto_region 2 with fail
    go_cut [21] (fun c wr => c = .bool true ∧ Blk wr w1.heap.size (litC z.neg z.hex z.digits z.exp z.zero z.tz) 31 ∧ Below w.heap.size w wr)
    case first =>
      go_wp2
      go_meet
      case rel => exact ⟨rfl, Blk.new _ _ _, HB.out.alloc HB.out.size _⟩
    obtain ⟨rfl, hbk, hbl⟩ := hcut
    obtain ⟨c0, c1, c2, c3, c4, c5⟩ := six hbk
    have HBL := hide hbl
    clear hbl hbk
    go_wp2
    go_quiet (fail)
    go_wp2
    refine bodyPost_ret (v := .tuple #[.bool z.neg, .bool z.hex, .string z.digits, .int .i64 z.exp, .bool z.zero, .int .i64 z.tz, .bool false, .bool false, .bool false, .int .i64 0, .int .i64 0]) (by simp [results, Tryd.results5, go_sem]) rfl ⟨?_, below_drewN HBL.out _⟩
    obtain ⟨h1, h2, h3, h4⟩ := HZ.out HR.out
    unfold zE
    rw [HR.out, h1, h2, h3, h4]
  · have HR := hide hr
    have HN := hide hbl
    clear hr hbl
    unfold litZ litC
    go_upto_region 2 with fail
    go_cut [21] (fun c wr => c = .bool false ∧ Blk wr w1.heap.size (litC z.neg z.hex z.digits z.exp z.zero z.tz) 31 ∧ Blk wr N #[.bool z.far, .bool z.pHex, .int .i64 z.pExp, .int .i64 z.pFr] 36 ∧ Below w.heap.size w wr)
    case first =>
      go_wp2
      go_meet
      case rel => exact ⟨rfl, Blk.new _ _ _, HN.out.alloc _, HB.out.alloc HB.out.size _⟩
    obtain ⟨rfl, hbk, hbn, hbl⟩ := hcut
    obtain ⟨c0, c1, c2, c3, c4, c5⟩ := six hbk
    have k0 : wc.cell? ⟨N, 0, none⟩ = some (.bool z.far) := hbn.cell 0
    have k1 : wc.cell? ⟨N, 1, none⟩ = some (.bool z.pHex) := hbn.cell 1
    have k2 : wc.cell? ⟨N, 2, none⟩ = some (.int .i64 z.pExp) := hbn.cell 2
    have k3 : wc.cell? ⟨N, 3, none⟩ = some (.int .i64 z.pFr) := hbn.cell 3
    have HBL := hide hbl
    clear hbl hbk hbn
    go_wp2
    go_quiet (fail)
    go_wp2
    refine bodyPost_ret (v := .tuple #[.bool z.neg, .bool z.hex, .string z.digits, .int .i64 z.exp, .bool z.zero, .int .i64 z.tz, .bool true, .bool z.far, .bool z.pHex, .int .i64 z.pExp, .int .i64 z.pFr]) (by simp [results, Tryd.results5, go_sem]) rfl ⟨?_, below_drewN HBL.out _⟩
    unfold zE
    rw [HR.out]
end Go.Proofs.Qxb6605524aDoor
