import Derived.Test.Qxb6605516aHwB
namespace Go.Proofs.Qxb6605516a
open Go.RowKit
set_option linter.unusedVariables false

/-- A row of integers of our own: nil, or a whole block from lo on. -/
def RowA (w : World) (lo : Nat) (a : Option Addr) (len sz : Nat) (F : Nat → Int) (T : TypeId) : Prop :=
  (a = none ∧ len = 0) ∨ ∃ b, a = some ⟨b, 0, none⟩ ∧ lo ≤ b ∧ Blk w b (irow .i32 (len * sz) F) T
section
variable {w w' : World} {lo : Nat} {a : Option Addr} {len sz : Nat} {F : Nat → Int} {T : TypeId}
theorem RowA.irow (h : RowA w lo a len sz F T) : IRow w a len sz F := by
  rcases h with ⟨-, h⟩ | ⟨b, rfl, -, h⟩
  · exact .inl h
  · exact .inr ⟨b, 0, rfl, h.lt, fun c hc => by rw [Nat.zero_add]; exact h.rcell c hc⟩
theorem RowA.zl (h : RowA w lo a len sz F T) (hz : a = none) : len = 0 := by
  rcases h with ⟨-, h⟩ | ⟨b, rfl, -, h⟩
  · exact h
  · cases hz
theorem RowA.below (h : RowA w lo a len sz F T) (hb : Below w.heap.size w w') : RowA w' lo a len sz F T := by
  rcases h with h | ⟨b, rfl, h1, h⟩
  · exact .inl h
  · exact .inr ⟨b, rfl, h1, h.below hb h.lt⟩
theorem RowA.other (h : RowA w lo a len sz F T) {p : Addr} (hp : p.block < lo) (v : Value) : RowA (w.setCell p v) lo a len sz F T := by
  rcases h with h | ⟨b, rfl, h1, h⟩
  · exact .inl h
  · exact .inr ⟨b, rfl, h1, h.setOther (by omega) v⟩
theorem RowA.mono (h : RowA w lo a len sz F T) {lo' : Nat} (hl : lo' ≤ lo) : RowA w lo' a len sz F T := by
  rcases h with h | ⟨b, rfl, h1, h⟩
  · exact .inl h
  · exact .inr ⟨b, rfl, by omega, h⟩
end
theorem IRow.cell {w : World} {b off len sz : Nat} {F : Nat → Int} (hc : ∀ c, c < len * sz → w.cell? ⟨b, off + c, none⟩ = some ((fun c => Value.int .i32 (F c)) c)) (c : Nat) (h : c < len * sz) : w.cell? ⟨b, off + c, none⟩ = some (.int .i32 (F c)) := hc c h

theorem made2 (m : Nat) : madeCells #[.int .i32 0, .int .i32 0] m = irow .i32 m (fun _ => 0) := by
  apply Array.ext
  · simp [irow, fc, madeCells]
  · intro i h1 h2
    simp only [irow, fc, madeCells, List.getElem_toArray, List.getElem_map, Array.getElem_map, Array.getElem_range]
    rcases (show i % 2 = 0 ∨ i % 2 = 1 from by omega) with e | e <;> simp [e]
theorem made3 (m : Nat) : madeCells #[.int .i32 0, .int .i32 0, .int .i32 0] m = irow .i32 m (fun _ => 0) := by
  apply Array.ext
  · simp [irow, fc, madeCells]
  · intro i h1 h2
    simp only [irow, fc, madeCells, List.getElem_toArray, List.getElem_map, Array.getElem_map, Array.getElem_range]
    rcases (show i % 3 = 0 ∨ i % 3 = 1 ∨ i % 3 = 2 from by omega) with e | e | e <;> simp [e]
theorem make_sh (n : Nat) (h : n ≤ 1048576) (w : World) : (Instr.makeSlice 44 (.int .i64 (n : Int)) (.int .i64 (n : Int))).run Try.prog w = .ok (.slice (some ⟨w.heap.size, 0, none⟩) n n) (w.alloc (.cells (irow .i32 (n * 3) (fun _ => 0)) 62)) := by
  have hi : (Try.prog.info? 62).map (fun i => (i.zero, i.size, i.bytes)) = some (some (.agg #[.int .i32 0, .int .i32 0, .int .i32 0]), 3, 12) := by kernel_rfl
  obtain ⟨i, hi, hzz⟩ := Option.map_eq_some_iff.1 hi
  simp only [Prod.mk.injEq] at hzz
  obtain ⟨hz, hs, hb⟩ := hzz
  have hr := run_make (P := Try.prog) w 44 62 i _ Try.underlying44 hi hz .i64 .i64 n n (by omega) (Int.le_refl _) (by rw [hb]; omega) (by omega)
  simp only [Int.toNat_natCast, hs, Value.cells] at hr
  rw [hr, made3]
theorem make_sw (n : Nat) (h : n ≤ 1048576) (w : World) : (Instr.makeSlice 101 (.int .i64 (n : Int)) (.int .i64 (n : Int))).run Try.prog w = .ok (.slice (some ⟨w.heap.size, 0, none⟩) n n) (w.alloc (.cells (irow .i32 (n * 3) (fun _ => 0)) 106)) := by
  have hi : (Try.prog.info? 106).map (fun i => (i.zero, i.size, i.bytes)) = some (some (.agg #[.int .i32 0, .int .i32 0, .int .i32 0]), 3, 12) := by kernel_rfl
  obtain ⟨i, hi, hzz⟩ := Option.map_eq_some_iff.1 hi
  simp only [Prod.mk.injEq] at hzz
  obtain ⟨hz, hs, hb⟩ := hzz
  have hr := run_make (P := Try.prog) w 101 106 i _ Try.underlying101 hi hz .i64 .i64 n n (by omega) (Int.le_refl _) (by rw [hb]; omega) (by omega)
  simp only [Int.toNat_natCast, hs, Value.cells] at hr
  rw [hr, made3]
theorem make_En (n : Nat) (h : n ≤ 1048576) (w : World) : (Instr.makeSlice 64 (.int .i64 (n : Int)) (.int .i64 (n : Int))).run Try.prog w = .ok (.slice (some ⟨w.heap.size, 0, none⟩) n n) (w.alloc (.cells (irow .i32 (n * 2) (fun _ => 0)) 66)) := by
  have hi : (Try.prog.info? 66).map (fun i => (i.zero, i.size, i.bytes)) = some (some (.agg #[.int .i32 0, .int .i32 0]), 2, 8) := by kernel_rfl
  obtain ⟨i, hi, hzz⟩ := Option.map_eq_some_iff.1 hi
  simp only [Prod.mk.injEq] at hzz
  obtain ⟨hz, hs, hb⟩ := hzz
  have hr := run_make (P := Try.prog) w 64 66 i _ Try.underlying64 hi hz .i64 .i64 n n (by omega) (Int.le_refl _) (by rw [hb]; omega) (by omega)
  simp only [Int.toNat_natCast, hs, Value.cells] at hr
  rw [hr, made2]
theorem make_en (n : Nat) (h : n ≤ 1048576) (w : World) : (Instr.makeSlice 107 (.int .i64 (n : Int)) (.int .i64 (n : Int))).run Try.prog w = .ok (.slice (some ⟨w.heap.size, 0, none⟩) n n) (w.alloc (.cells (irow .i32 (n * 2) (fun _ => 0)) 109)) := by
  have hi : (Try.prog.info? 109).map (fun i => (i.zero, i.size, i.bytes)) = some (some (.agg #[.int .i32 0, .int .i32 0]), 2, 8) := by kernel_rfl
  obtain ⟨i, hi, hzz⟩ := Option.map_eq_some_iff.1 hi
  simp only [Prod.mk.injEq] at hzz
  obtain ⟨hz, hs, hb⟩ := hzz
  have hr := run_make (P := Try.prog) w 107 109 i _ Try.underlying107 hi hz .i64 .i64 n n (by omega) (Int.le_refl _) (by rw [hb]; omega) (by omega)
  simp only [Int.toNat_natCast, hs, Value.cells] at hr
  rw [hr, made2]
/-- Headers: a row of nil slices. -/
def nilS : Nat → Value := fun _ => .slice none 0 0
theorem make_hd (t e : TypeId) (ht : Try.prog.underlying t = some (.slice e)) (hi : (Try.prog.info? e).map (fun i => (i.zero, i.size, i.bytes)) = some (some (.slice none 0 0), 1, 24)) (n : Nat) (h : n ≤ 1048576) (w : World) :
    (Instr.makeSlice t (.int .i64 (n : Int)) (.int .i64 (n : Int))).run Try.prog w = .ok (.slice (some ⟨w.heap.size, 0, none⟩) n n) (w.alloc (.cells (fc n nilS) e)) := by
  have := run_make_row' t e (.slice none 0 0) 24 ht hi rfl .i64 .i64 n (by omega) (by omega) w
  rw [this, made_fc]
  rfl
theorem make_h45 (n : Nat) (h : n ≤ 1048576) (w : World) : (Instr.makeSlice 45 (.int .i64 (n : Int)) (.int .i64 (n : Int))).run Try.prog w = .ok (.slice (some ⟨w.heap.size, 0, none⟩) n n) (w.alloc (.cells (fc n nilS) 64)) := make_hd 45 64 Try.underlying45 (by kernel_rfl) n h w
theorem make_h55 (n : Nat) (h : n ≤ 1048576) (w : World) : (Instr.makeSlice 55 (.int .i64 (n : Int)) (.int .i64 (n : Int))).run Try.prog w = .ok (.slice (some ⟨w.heap.size, 0, none⟩) n n) (w.alloc (.cells (fc n nilS) 35)) := make_hd 55 35 Try.underlying55 (by kernel_rfl) n h w
theorem make_h102 (n : Nat) (h : n ≤ 1048576) (w : World) : (Instr.makeSlice 102 (.int .i64 (n : Int)) (.int .i64 (n : Int))).run Try.prog w = .ok (.slice (some ⟨w.heap.size, 0, none⟩) n n) (w.alloc (.cells (fc n nilS) 107)) := make_hd 102 107 Try.underlying102 (by kernel_rfl) n h w

/-- A copy of a row. -/
structure CRow (w w' : World) (e : Ending) (a : Option Addr) (n sz : Nat) (F : Nat → Int) (T : TypeId) (oa : Option Addr) (oc : Nat) : Prop where
  ret : e = .returned (.slice oa n oc)
  nl : oa = none ↔ a = none
  row : RowA w' w.heap.size oa n sz F T
  bel : Below w.heap.size w w'
/-- .. in the making. -/
structure CPart (w : World) (n sz : Nat) (F : Nat → Int) (T : TypeId) (si : Value) (wr : World) (i : Nat) (R : Nat → Int) : Prop where
  si : si = .int .i64 i
  hi : i ≤ n
  blk : Blk wr w.heap.size (irow .i32 (n * sz) R) T
  eq : ∀ c, c < i * sz → R c = F c
  bel : Below w.heap.size w wr
theorem CPart.done {w wr : World} {n sz : Nat} {F R : Nat → Int} {T : TypeId} {si : Value} (h : CPart w n sz F T si wr n R) : RowA wr w.heap.size (some ⟨w.heap.size, 0, none⟩) n sz F T :=
  .inr ⟨_, rfl, Nat.le_refl _, by rw [irow_congr .i32 (n * sz) F R (fun c hc => (h.eq c hc).symm)]; exact h.blk⟩

set_option maxHeartbeats 400000 in
theorem clonei32_any (a : Option Addr) (n c : Nat) (F : Nat → Int) (hn : n ≤ 1048576) (w : World) (z : a = none → n = 0) (h : IRow w a n 1 F) :
    Calls Try.prog 25 #[.slice a n c] w fun e w' => ∃ oa oc, CRow w w' e a n 1 F 21 oa oc := by
  cases a with
  | none =>
    have hnil := fun w => Lib.run_eql_slice_nil (P := Try.prog) w 35 21 none n c 0 0 Try.underlying35
    have hz := z rfl
    subst hz
    go_enter Try.func25, Try.ntmps25
    go_wp2
    go_ret
    exact ⟨_, _, rfl, Iff.rfl, .inl ⟨rfl, rfl⟩, Below.refl _ _⟩
  | some x =>
    have H := hide h
    clear h z
    have hmk := make_i32 n (by omega)
    have hnil := fun w => Lib.run_eql_slice_nil (P := Try.prog) w 35 21 (some x) n c 0 0 Try.underlying35
    go_enter Try.func25, Try.ntmps25
    go_wp2
    clear hmk hnil
    go_loopw [4] (fun si wr => ∃ (i : Nat) (R : Nat → Int), CPart w n 1 F 21 si wr i R) (fun si _ => n - (intOf si).toNat)
    case atStart => exact ⟨0, _, rfl, by omega, by rw [Nat.mul_one]; exact Blk.made _ _ _ _, fun j hj => by omega, (Below.refl _ _).alloc (Nat.le_refl _) _⟩
    case round =>
      obtain ⟨i, R, hR⟩ := hrel
      have HR := hide hR
      obtain rfl := hR.si
      have hi := hR.hi
      clear hR
      by_cases hlt : i < n
      · rcases SlA.below H.out HR.out.bel with h0 | ⟨b, off, hx, hbl, hc⟩
        · omega
        simp only [Option.some.injEq] at hx
        subst hx
        have c0 := IRow.cell hc i (by omega)
        clear hc
        have d0 := HR.out.blk.rcell i (by omega)
        have f0 := HR.out.blk.free
        go_wp2
        go_roundw
        case rel => exact ⟨i + 1, _, by go_num, by omega, HR.out.blk.rset i (F i), fun j hj => by unfold upd; split; (rename_i e; subst e; rfl); exact HR.out.eq j (by omega), HR.out.bel.setCell (Nat.le_refl _) _⟩
        case measure => simp [intOf]; omega
      · obtain rfl : i = n := by omega
        go_wp2
        go_ret
        exact ⟨_, _, rfl, by simp, HR.out.done, HR.out.bel⟩

set_option maxHeartbeats 400000 in
theorem clonesh_any (a : Option Addr) (n c : Nat) (F : Nat → Int) (hn : n ≤ 1048576) (w : World) (z : a = none → n = 0) (h : IRow w a n 3 F) :
    Calls Try.prog 23 #[.slice a n c] w fun e w' => ∃ oa oc, CRow w w' e a n 3 F 62 oa oc := by
  cases a with
  | none =>
    have hnil := fun w => Lib.run_eql_slice_nil (P := Try.prog) w 44 62 none n c 0 0 Try.underlying44
    have hz := z rfl
    subst hz
    go_enter Try.func23, Try.ntmps23
    go_wp2
    go_ret
    exact ⟨_, _, rfl, Iff.rfl, .inl ⟨rfl, rfl⟩, Below.refl _ _⟩
  | some x =>
    have H := hide h
    clear h z
    have hmk := make_sh n hn
    have hnil := fun w => Lib.run_eql_slice_nil (P := Try.prog) w 44 62 (some x) n c 0 0 Try.underlying44
    go_enter Try.func23, Try.ntmps23
    go_wp2
    clear hmk hnil
    go_loopw [4] (fun si wr => ∃ (i : Nat) (R : Nat → Int), CPart w n 3 F 62 si wr i R) (fun si _ => n - (intOf si).toNat)
    case atStart => exact ⟨0, _, rfl, by omega, Blk.new _ _ _, fun j hj => by omega, (Below.refl _ _).alloc (Nat.le_refl _) _⟩
    case round =>
      obtain ⟨i, R, hR⟩ := hrel
      have HR := hide hR
      obtain rfl := hR.si
      have hi := hR.hi
      clear hR
      by_cases hlt : i < n
      · rcases SlA.below H.out HR.out.bel with h0 | ⟨b, off, hx, hbl, hc⟩
        · omega
        simp only [Option.some.injEq] at hx
        subst hx
        have c0 := IRow.cell hc (i * 3) (by omega)
        have c1 := IRow.cell hc (i * 3 + 1) (by omega)
        have c2 := IRow.cell hc (i * 3 + 2) (by omega)
        rw [← Nat.add_assoc] at c1 c2
        clear hc
        have d0 := HR.out.blk.rcell (i * 3) (by omega)
        have d1 := HR.out.blk.rcell (i * 3 + 1) (by omega)
        have d2 := HR.out.blk.rcell (i * 3 + 2) (by omega)
        have f0 := HR.out.blk.free
        go_wp2
        go_roundw
        case rel =>
          refine ⟨i + 1, _, by go_num, by omega, ((HR.out.blk.rset (i * 3) (F (i * 3))).rset (i * 3 + 1) (F (i * 3 + 1))).rset (i * 3 + 2) (F (i * 3 + 2)), fun j hj => ?_, ((HR.out.bel.setCell (Nat.le_refl _) _).setCell (Nat.le_refl _) _).setCell (Nat.le_refl _) _⟩
          unfold upd
          split
          · rename_i e; subst e; rfl
          · split
            · rename_i e; subst e; rfl
            · split
              · rename_i e; subst e; rfl
              · exact HR.out.eq j (by omega)
        case measure => simp [intOf]; omega
      · obtain rfl : i = n := by omega
        go_wp2
        go_ret
        exact ⟨_, _, rfl, by simp, HR.out.done, HR.out.bel⟩
end Go.Proofs.Qxb6605516a
