import Derived.Test.Qxb6605516aPlanB
namespace Go.Proofs.Qxb6605516a
open Go.RowKit
set_option linter.unusedVariables false

def need (k : Int) : Int := if k = 1 then 1 else if k = 2 then 2 else 0

theorem plannee_any (k : Int) (w : World) : Calls Try.prog 17 #[.int .u8 k] w fun e w' => e = .returned (.int .u8 (need k)) ∧ w' = w := by
  by_cases h1 : k = 1
  · subst h1
    go_enter Try.func17, Try.ntmps17
    go_wp2
    go_ret; exact ⟨rfl, rfl⟩
  have d1 : (k == 1) = false := by simpa using h1
  by_cases h2 : k = 2
  · subst h2
    go_enter Try.func17, Try.ntmps17
    go_wp2
    go_ret; exact ⟨rfl, rfl⟩
  have d2 : (k == 2) = false := by simpa using h2
  have e : need k = 0 := by unfold need; rw [if_neg h1, if_neg h2]
  rw [e]
  clear e
  go_enter Try.func17, Try.ntmps17
  go_wp2
  go_ret; exact ⟨rfl, rfl⟩
theorem neededby_any (k : Int) (w : World) : Calls Try.prog 43 #[.int .u8 k] w fun e w' => e = .returned (.int .u8 (need k)) ∧ w' = w := by
  by_cases h1 : k = 1
  · subst h1
    go_enter Try.func43, Try.ntmps43
    go_wp2
    go_ret; exact ⟨rfl, rfl⟩
  have d1 : (k == 1) = false := by simpa using h1
  by_cases h2 : k = 2
  · subst h2
    go_enter Try.func43, Try.ntmps43
    go_wp2
    go_ret; exact ⟨rfl, rfl⟩
  have d2 : (k == 2) = false := by simpa using h2
  have e : need k = 0 := by unfold need; rw [if_neg h1, if_neg h2]
  rw [e]
  clear e
  go_enter Try.func43, Try.ntmps43
  go_wp2
  go_ret; exact ⟨rfl, rfl⟩

/-- A row of -1. -/
def minus : Nat → Int := fun _ => -1

/-- A new row of n integers behind the call. -/
structure NewRow (w w' : World) (e : Ending) (n : Nat) (F : Nat → Int) : Prop where
  ret : e = .returned (.slice (some ⟨w.heap.size, 0, none⟩) n n)
  blk : Blk w' w.heap.size (irow .i32 n F) 21
  bel : Below w.heap.size w w'
  size : w'.heap.size = w.heap.size + 1

theorem alloc_size (w : World) (o : Obj) : (w.alloc o).heap.size = w.heap.size + 1 := by simp
theorem setCell_size (w : World) (a : Addr) (v : Value) : (w.setCell a v).heap.size = w.heap.size := by simp [World.setCell]

set_option maxHeartbeats 400000 in
theorem filledI32_any (n : Nat) (h : n ≤ 1048577) (w : World) : Calls Try.prog 18 #[.int .i64 n] w fun e w' => NewRow w w' e n minus := by
  have hmk := make_i32 n h
  go_enter Try.func18, Try.ntmps18
  go_wp2
  clear hmk
  go_loopw [4] (fun si wr => ∃ (i : Nat) (F : Nat → Int), si = .int .i64 i ∧ i ≤ n ∧ Blk wr w.heap.size (irow .i32 n F) 21 ∧ (∀ j, j < i → F j = -1) ∧ Below w.heap.size w wr ∧ wr.heap.size = w.heap.size + 1) (fun si _ => n - (intOf si).toNat)
  case atStart => exact ⟨0, _, rfl, by omega, Blk.made w .i32 n 21, fun j hj => by omega, (Below.refl _ _).alloc (Nat.le_refl _) _, alloc_size _ _⟩
  case round =>
    obtain ⟨i, F, rfl, hi, hB, hF, hb, hs⟩ := hrel
    have HB := hide hB
    have HF := hide hF
    have Hb := hide hb
    have Hs := hide hs
    clear hB hF hb hs
    by_cases hlt : i < n
    · have c0 := HB.out.rcell i hlt
      have f0 := HB.out.free
      go_wp2
      go_roundw
      case rel => exact ⟨i + 1, upd F i (-1), by go_num, by omega, HB.out.rset i (-1), fun j hj => by unfold upd; split; rfl; exact HF.out j (by omega), Hb.out.setCell (Nat.le_refl _) _, by rw [setCell_size]; exact Hs.out⟩
      case measure => simp [intOf]; omega
    · go_wp2
      go_ret
      exact ⟨rfl, by rw [irow_congr .i32 n minus F (fun c hc => (HF.out c (by omega)).symm)]; exact HB.out, Hb.out, Hs.out⟩
set_option maxHeartbeats 400000 in
theorem filled_any (n : Nat) (h : n ≤ 1048577) (w : World) : Calls Try.prog 42 #[.int .i64 n] w fun e w' => NewRow w w' e n minus := by
  have hmk := make_i32 n h
  go_enter Try.func42, Try.ntmps42
  go_wp2
  clear hmk
  go_loopw [9] (fun si wr => ∃ (i : Nat) (F : Nat → Int), si = .int .i64 i ∧ i ≤ n ∧ Blk wr w.heap.size (irow .i32 n F) 21 ∧ (∀ j, j < i → F j = -1) ∧ Below w.heap.size w wr ∧ wr.heap.size = w.heap.size + 1) (fun si _ => n - (intOf si).toNat)
  case atStart => exact ⟨0, _, rfl, by omega, Blk.made w .i32 n 21, fun j hj => by omega, (Below.refl _ _).alloc (Nat.le_refl _) _, alloc_size _ _⟩
  case round =>
    obtain ⟨i, F, rfl, hi, hB, hF, hb, hs⟩ := hrel
    have HB := hide hB
    have HF := hide hF
    have Hb := hide hb
    have Hs := hide hs
    clear hB hF hb hs
    by_cases hlt : i < n
    · have c0 := HB.out.rcell i hlt
      have f0 := HB.out.free
      go_wp2
      go_roundw
      case rel => exact ⟨i + 1, upd F i (-1), by go_num, by omega, HB.out.rset i (-1), fun j hj => by unfold upd; split; rfl; exact HF.out j (by omega), Hb.out.setCell (Nat.le_refl _) _, by rw [setCell_size]; exact Hs.out⟩
      case measure => simp [intOf]; omega
    · go_wp2
      go_ret
      exact ⟨rfl, by rw [irow_congr .i32 n minus F (fun c hc => (HF.out c (by omega)).symm)]; exact HB.out, Hb.out, Hs.out⟩

/-- A new row of n operations. -/
theorem made_ops (n : Nat) : madeCells #[.int .u8 0, .int .i32 0, .int .i32 0] (n * 3) = fc (n * 3) (opCell (fun _ => 0) (fun _ => 0) (fun _ => 0)) := by
  apply Array.ext
  · simp [fc, madeCells]
  · intro i h1 h2
    simp only [fc, madeCells, List.getElem_toArray, List.getElem_map, List.getElem_range, Array.getElem_map, Array.getElem_range, opCell]
    rcases (show i % 3 = 0 ∨ i % 3 = 1 ∨ i % 3 = 2 from by omega) with e | e | e <;> simp [e]
theorem make_ops (n : Nat) (h : n ≤ 4096) (w : World) : (Instr.makeSlice 22 (.int .i64 (n : Int)) (.int .i64 (n : Int))).run Try.prog w = .ok (.slice (some ⟨w.heap.size, 0, none⟩) n n) (w.alloc (.cells (fc (n * 3) (opCell (fun _ => 0) (fun _ => 0) (fun _ => 0))) 42)) := by
  have hi : (Try.prog.info? 42).map (fun i => (i.zero, i.size, i.bytes)) = some (some (.agg #[.int .u8 0, .int .i32 0, .int .i32 0]), 3, 12) := by kernel_rfl
  obtain ⟨i, hi, hzz⟩ := Option.map_eq_some_iff.1 hi
  simp only [Prod.mk.injEq] at hzz
  obtain ⟨hz, hs, hb⟩ := hzz
  have hr := run_make (P := Try.prog) w 22 42 i _ Try.underlying22 hi hz .i64 .i64 n n (by omega) (Int.le_refl _) (by rw [hb]; omega) (by omega)
  simp only [Int.toNat_natCast, hs, Value.cells] at hr
  rw [hr, made_ops]
theorem upd3 (K T X : Nat → Int) (i : Nat) (k t x : Int) : upd (upd (upd (opCell K T X) (i * 3) (.int .u8 k)) (i * 3 + 1) (.int .i32 t)) (i * 3 + 2) (.int .i32 x) = opCell (upd K i k) (upd T i t) (upd X i x) := by
  funext c
  unfold upd
  by_cases e2 : c = i * 3 + 2
  · subst e2; simp [opCell2]
  by_cases e1 : c = i * 3 + 1
  · subst e1; simp [opCell1]
  by_cases e0 : c = i * 3
  · subst e0; simp [opCell0]
  · rw [if_neg e2, if_neg e1, if_neg e0]
    unfold opCell
    have : c / 3 ≠ i ∨ c / 3 = i := by omega
    rcases (show c / 3 = i ∨ c / 3 ≠ i from by omega) with e | e
    · omega
    · simp [e]

theorem Blk.set3 {w : World} {b m : Nat} {K T X : Nat → Int} {T0 : TypeId} (h : Blk w b (fc m (opCell K T X)) T0) (i : Nat) (k t x : Int) :
    Blk (((w.setCell ⟨b, i * 3, none⟩ (.int .u8 k)).setCell ⟨b, i * 3 + 1, none⟩ (.int .i32 t)).setCell ⟨b, i * 3 + 2, none⟩ (.int .i32 x)) b (fc m (opCell (upd K i k) (upd T i t) (upd X i x))) T0 := by
  have h1 := ((h.set (i * 3) (.int .u8 k)).set (i * 3 + 1) (.int .i32 t)).set (i * 3 + 2) (.int .i32 x)
  rw [fc_set, fc_set, fc_set, upd3] at h1
  exact h1

set_option maxHeartbeats 400000 in
theorem cloneops_nil (n c : Nat) (w : World) : Calls Try.prog 12 #[.slice none n c] w fun e w' => e = .returned (.slice none 0 0) ∧ w' = w := by
  have hnil := fun w => Lib.run_eql_slice_nil (P := Try.prog) w 22 42 none n c 0 0 Try.underlying22
  go_enter Try.func12, Try.ntmps12
  go_wp2
  go_ret
  exact ⟨rfl, rfl⟩

/-- A new row of operations, as those that came in. -/
structure NewOps (w w' : World) (e : Ending) (n : Nat) (T0 : TypeId) (K T X : Nat → Int) : Prop where
  ret : e = .returned (.slice (some ⟨w.heap.size, 0, none⟩) n n)
  blk : Blk w' w.heap.size (fc (n * 3) (opCell K T X)) T0
  bel : Below w.heap.size w w'
structure COps (w : World) (n : Nat) (K T X : Nat → Int) (si : Value) (wr : World) (i : Nat) (K' T' X' : Nat → Int) : Prop where
  si : si = .int .i64 i
  hi : i ≤ n
  blk : Blk wr w.heap.size (fc (n * 3) (opCell K' T' X')) 42
  same : ∀ j, j < i → K' j = K j ∧ T' j = T j ∧ X' j = X j
  bel : Below w.heap.size w wr
theorem ops_congr (n : Nat) (K T X K' T' X' : Nat → Int) (h : ∀ j, j < n → K' j = K j ∧ T' j = T j ∧ X' j = X j) : fc (n * 3) (opCell K' T' X') = fc (n * 3) (opCell K T X) := by
  apply fc_congr
  intro c hc
  have := h (c / 3) (by omega)
  unfold opCell
  rw [this.1, this.2.1, this.2.2]

set_option maxHeartbeats 400000 in
theorem cloneops_any (x : Addr) (n c : Nat) (K T X : Nat → Int) (hn : n ≤ 4096) (w : World) (h : SlA w (some x) n 3 (opCell K T X)) :
    Calls Try.prog 12 #[.slice (some x) n c] w fun e w' => NewOps w w' e n 42 K T X := by
  have H := hide h
  clear h
  have hmk := make_ops n hn
  have hnil := fun w => Lib.run_eql_slice_nil (P := Try.prog) w 22 42 (some x) n c 0 0 Try.underlying22
  go_enter Try.func12, Try.ntmps12
  go_wp2
  clear hmk hnil
  go_loopw [4] (fun si wr => ∃ (i : Nat) (K' T' X' : Nat → Int), COps w n K T X si wr i K' T' X') (fun si _ => n - (intOf si).toNat)
  case atStart => exact ⟨0, _, _, _, rfl, by omega, Blk.new _ _ _, fun j hj => by omega, (Below.refl _ _).alloc (Nat.le_refl _) _⟩
  case round =>
    obtain ⟨i, K', T', X', rfl, hi, hB, hS, hb⟩ := hrel
    have HB := hide hB
    have HS := hide hS
    have Hb := hide hb
    clear hB hS hb
    by_cases hlt : i < n
    · rcases H.out.below Hb.out with h0 | ⟨b, off, hx, hbl, hc⟩
      · omega
      simp only [Option.some.injEq] at hx
      subst hx
      have c0 := hc (i * 3) (by omega)
      have c1 := hc (i * 3 + 1) (by omega)
      have c2 := hc (i * 3 + 2) (by omega)
      rw [opCell0] at c0
      rw [opCell1, ← Nat.add_assoc] at c1
      rw [opCell2, ← Nat.add_assoc] at c2
      clear hc
      have d0 := HB.out.fcell (i * 3) (by omega)
      have d1 := HB.out.fcell (i * 3 + 1) (by omega)
      have d2 := HB.out.fcell (i * 3 + 2) (by omega)
      have f0 := HB.out.free
      go_wp2
      go_roundw
      case rel => exact ⟨i + 1, _, _, _, by go_num, by omega, HB.out.set3 i (K i) (T i) (X i), fun j hj => by unfold upd; split; (rename_i e; subst e; exact ⟨rfl, rfl, rfl⟩); exact HS.out j (by omega), ((Hb.out.setCell (Nat.le_refl _) _).setCell (Nat.le_refl _) _).setCell (Nat.le_refl _) _⟩
      case measure => simp [intOf]; omega
    · go_wp2
      go_ret
      exact ⟨rfl, by rw [← ops_congr n K T X K' T' X' (fun j hj => HS.out j (by omega))]; exact HB.out, Hb.out⟩

theorem info_str : (Try.prog.info? 9).map (fun i => (i.zero, i.size, i.bytes)) = some (some (.string ByteArray.empty), 1, 16) := by kernel_rfl
theorem make_strs (n : Nat) (h : n ≤ 4096) (w : World) : (Instr.makeSlice 23 (.int .i64 (n : Int)) (.int .i64 (n : Int))).run Try.prog w = .ok (.slice (some ⟨w.heap.size, 0, none⟩) n n) (w.alloc (.cells (madeCells #[.string ByteArray.empty] n) 9)) :=
  run_make_row' 23 9 (.string ByteArray.empty) 16 Try.underlying23 info_str rfl .i64 .i64 n (by omega) (by omega) w

set_option maxHeartbeats 400000 in
theorem clonestrs_nil (n c : Nat) (w : World) : Calls Try.prog 13 #[.slice none n c] w fun e w' => e = .returned (.slice none 0 0) ∧ w' = w := by
  have hnil := fun w => Lib.run_eql_slice_nil (P := Try.prog) w 23 9 none n c 0 0 Try.underlying23
  go_enter Try.func13, Try.ntmps13
  go_wp2
  go_ret
  exact ⟨rfl, rfl⟩
/-- A new row of strings. -/
structure NewStrs (w w' : World) (e : Ending) (n : Nat) : Prop where
  ret : e = .returned (.slice (some ⟨w.heap.size, 0, none⟩) n n)
  blk : ∃ S : Nat → ByteArray, Blk w' w.heap.size (fc n (fun i => .string (S i))) 9
  bel : Below w.heap.size w w'
structure CStrs (w : World) (n : Nat) (si : Value) (wr : World) (i : Nat) (S : Nat → ByteArray) : Prop where
  si : si = .int .i64 i
  hi : i ≤ n
  blk : Blk wr w.heap.size (fc n (fun i => .string (S i))) 9
  bel : Below w.heap.size w wr
theorem strs_set {w : World} {b m : Nat} {S : Nat → ByteArray} {T0 : TypeId} (h : Blk w b (fc m (fun i => .string (S i))) T0) (i : Nat) (s : ByteArray) : Blk (w.setCell ⟨b, i, none⟩ (.string s)) b (fc m (fun j => .string (upd S i s j))) T0 := by
  have h1 := h.set i (.string s)
  rw [fc_set] at h1
  rw [fc_congr m (fun j => .string (upd S i s j)) (upd (fun i => .string (S i)) i (.string s)) (fun c _ => by unfold upd; split <;> rfl)]
  exact h1

set_option maxHeartbeats 400000 in
theorem clonestrs_any (x : Addr) (n c : Nat) (S : Nat → ByteArray) (hn : n ≤ 4096) (w : World) (h : SlA w (some x) n 1 (fun i => .string (S i))) :
    Calls Try.prog 13 #[.slice (some x) n c] w fun e w' => NewStrs w w' e n := by
  have H := hide h
  clear h
  have hmk := make_strs n hn
  have hnil := fun w => Lib.run_eql_slice_nil (P := Try.prog) w 23 9 (some x) n c 0 0 Try.underlying23
  go_enter Try.func13, Try.ntmps13
  go_wp2
  clear hmk hnil
  go_loopw [4] (fun si wr => ∃ (i : Nat) (S' : Nat → ByteArray), CStrs w n si wr i S') (fun si _ => n - (intOf si).toNat)
  case atStart => exact ⟨0, _, rfl, by omega, by rw [made_fc]; exact Blk.new _ _ _, (Below.refl _ _).alloc (Nat.le_refl _) _⟩
  case round =>
    obtain ⟨i, S', rfl, hi, hB, hb⟩ := hrel
    have HB := hide hB
    have Hb := hide hb
    clear hB hb
    by_cases hlt : i < n
    · rcases H.out.below Hb.out with h0 | ⟨b, off, hx, hbl, hc⟩
      · omega
      simp only [Option.some.injEq] at hx
      subst hx
      have c0 := hc i (by omega)
      clear hc
      have d0 := HB.out.fcell i (by omega)
      have f0 := HB.out.free
      go_wp2
      go_roundw
      case rel => exact ⟨i + 1, _, by go_num, by omega, strs_set HB.out i (S i), Hb.out.setCell (Nat.le_refl _) _⟩
      case measure => simp [intOf]; omega
    · go_wp2
      go_ret
      exact ⟨rfl, ⟨_, HB.out⟩, Hb.out⟩
end Go.Proofs.Qxb6605516a
