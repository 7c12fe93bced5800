import Derived.Test.Qxb6605516aPlanC
namespace Go.Proofs.Qxb6605516a
open Go.RowKit
set_option linter.unusedVariables false

theorem make_hops (n : Nat) (h : n ≤ 4096) (w : World) : (Instr.makeSlice 29 (.int .i64 (n : Int)) (.int .i64 (n : Int))).run Try.prog w = .ok (.slice (some ⟨w.heap.size, 0, none⟩) n n) (w.alloc (.cells (fc (n * 3) (opCell (fun _ => 0) (fun _ => 0) (fun _ => 0))) 86)) := by
  have hi : (Try.prog.info? 86).map (fun i => (i.zero, i.size, i.bytes)) = some (some (.agg #[.int .u8 0, .int .i32 0, .int .i32 0]), 3, 12) := by kernel_rfl
  obtain ⟨i, hi, hzz⟩ := Option.map_eq_some_iff.1 hi
  simp only [Prod.mk.injEq] at hzz
  obtain ⟨hz, hs, hb⟩ := hzz
  have hr := run_make (P := Try.prog) w 29 86 i _ Try.underlying29 hi hz .i64 .i64 n n (by omega) (Int.le_refl _) (by rw [hb]; omega) (by omega)
  simp only [Int.toNat_natCast, hs, Value.cells] at hr
  rw [hr, made_ops]
theorem info_txn : (Try.prog.info? 87).map (fun i => (i.zero, i.size, i.bytes)) = some (some (.string ByteArray.empty), 1, 16) := by kernel_rfl
theorem make_txns (n : Nat) (h : n ≤ 4096) (w : World) : (Instr.makeSlice 30 (.int .i64 (n : Int)) (.int .i64 (n : Int))).run Try.prog w = .ok (.slice (some ⟨w.heap.size, 0, none⟩) n n) (w.alloc (.cells (madeCells #[.string ByteArray.empty] n) 87)) :=
  run_make_row' 30 87 (.string ByteArray.empty) 16 Try.underlying30 info_txn rfl .i64 .i64 n (by omega) (by omega) w

def zero4 : Array Value := #[.slice none 0 0, .slice none 0 0, .slice none 0 0, .string ByteArray.empty]
theorem zero4_cells {w : World} {b : Nat} {T : TypeId} (h : Blk w b zero4 T) : w.cell? ⟨b, 0, none⟩ = some (.slice none 0 0) ∧ w.cell? ⟨b, 1, none⟩ = some (.slice none 0 0) ∧ w.cell? ⟨b, 2, none⟩ = some (.slice none 0 0) ∧ w.cell? ⟨b, 3, none⟩ = some (.string ByteArray.empty) :=
  ⟨h.cell 0, h.cell 1, h.cell 2, h.cell 3⟩

/-- What planHistory has made of the operations. -/
structure HOps (w wr : World) (n : Nat) (K T X : Nat → Int) (ha : Option Addr) : Prop where
  sl : SlA wr ha n 3 (opCell K T X)
  res : Blk wr w.heap.size zero4 32
  bel : Below w.heap.size w wr
  ne : ∀ b off, ha = some ⟨b, off, none⟩ → n = 0 ∨ b ≠ w.heap.size
theorem HOps.below {w wr wr' : World} {n : Nat} {K T X : Nat → Int} {ha : Option Addr} (h : HOps w wr n K T X ha) (hb : Below wr.heap.size wr wr') : HOps w wr' n K T X ha :=
  ⟨h.sl.below hb, h.res.below hb h.res.lt, h.bel.trans (hb.mono h.bel.size), h.ne⟩
structure HLoop (w : World) (g n : Nat) (K T X : Nat → Int) (si : Value) (wr : World) (i : Nat) (K' T' X' : Nat → Int) : Prop where
  si : si = .int .i64 i
  hi : i ≤ n
  blk : Blk wr g (fc (n * 3) (opCell K' T' X')) 86
  res : Blk wr w.heap.size zero4 32
  same : ∀ j, j < i → K' j = K j ∧ T' j = T j ∧ X' j = X j
  bel : Below w.heap.size w wr
structure TLoop (w : World) (g n m : Nat) (K T X : Nat → Int) (ha : Option Addr) (si : Value) (wr : World) (i : Nat) (S : Nat → ByteArray) : Prop where
  si : si = .int .i64 i
  hi : i ≤ m
  blk : Blk wr g (fc m (fun i => .string (S i))) 87
  ops : HOps w wr n K T X ha
theorem setOps {w wr : World} {n : Nat} {K T X : Nat → Int} {ha : Option Addr} {g i : Nat} {v : Value} (h : HOps w wr n K T X ha) (h1 : w.heap.size < g) (h2 : ∀ b off, ha = some ⟨b, off, none⟩ → b ≠ g) : HOps w (wr.setCell ⟨g, i, none⟩ v) n K T X ha := by
  refine ⟨?_, h.res.setOther (by simp; omega) _, h.bel.setCell (by simp; omega) _, h.ne⟩
  rcases h.sl with h0 | ⟨b, off, rfl, hb, hc⟩
  · exact .inl h0
  · exact .inr ⟨b, off, rfl, by rw [setCell_size]; exact hb, fun c hcc => by
      rw [World.cell?_of_block (Below.heap_setCell _ _ _ _ (h2 b off rfl))]; exact hc c hcc⟩

set_option maxHeartbeats 1000000 in
theorem planhist_any (a0 : Option Addr) (n c0 : Nat) (a1 : Option Addr) (nt c1 : Nat) (a2 : Option Addr) (ni c2 : Nat) (l : ByteArray) (K T X : Nat → Int) (S : Nat → ByteArray) (hn : n ≤ 4096) (hnt : nt ≤ 4096) (w : World)
    (z0 : a0 = none → n = 0) (z1 : a1 = none → nt = 0) (h0 : SlA w a0 n 3 (opCell K T X)) (h1 : SlA w a1 nt 1 (fun i => .string (S i))) :
    Calls Try.prog 14 #[.slice a0 n c0, .slice a1 nt c1, .slice a2 ni c2, .string l] w fun e w' => ∃ ha hc ta tc, e = .returned (.agg #[.slice ha n hc, .slice ta nt tc, .slice a2 ni c2, .string l]) ∧ SlA w' ha n 3 (opCell K T X) ∧ Below w.heap.size w w' := by
  have H0 := hide h0
  have H1 := hide h1
  have Z0 := hide z0
  have Z1 := hide z1
  clear h0 h1 z0 z1
  have R0 : Hid (Blk (w.alloc (.cells zero4 32)) w.heap.size zero4 32) := Blk.new _ _ _
  have B0 : Hid (Below w.heap.size w (w.alloc (.cells zero4 32))) := (Below.refl _ _).alloc (Nat.le_refl _) _
  have hnil0 := fun w => run_neq_slice_nil_any (P := Try.prog) w 22 42 a0 n c0 0 0 Try.underlying22
  have hnil1 := fun w => run_neq_slice_nil_any (P := Try.prog) w 23 9 a1 nt c1 0 0 Try.underlying23
  go_enter Try.func14, Try.ntmps14
  go_upto_if 14 with fail
  go_cut [9] (fun s w' => ∃ ha hc, s = .slice ha n hc ∧ HOps w w' n K T X ha)
  case first =>
    rcases a0 with _ | x
    · have e0 : n = 0 := Z0.out rfl
      subst e0
      go_wp2
      go_meet
      case rel => exact ⟨none, 0, rfl, .inl rfl, R0.out, B0.out, fun _ _ h => by cases h⟩
    · have hmk := make_hops n hn
      have A0 := H0.out.below B0.out
      have HA0 := hide A0
      clear A0
      go_wp2
      clear hmk hnil0 hnil1
      obtain ⟨g, hg⟩ : ∃ g, g = w.heap.size + 1 := ⟨_, rfl⟩
      rw [← hg]
      have Hg := hide hg
      clear hg
      go_loopw [10] (fun si wr => ∃ (i : Nat) (K' T' X' : Nat → Int), HLoop w g n K T X si wr i K' T' X') (fun si _ => n - (intOf si).toNat)
      case atStart =>
        refine ⟨0, fun _ => 0, fun _ => 0, fun _ => 0, rfl, by omega, ?_, R0.out.alloc _, fun j hj => by omega, B0.out.alloc (by simp) _⟩
        have h := Blk.new (w.alloc (.cells zero4 32)) (fc (n * 3) (opCell (fun _ => 0) (fun _ => 0) (fun _ => 0))) 86
        rw [World.size_alloc, ← Hg.out] at h
        exact h
      case round =>
        obtain ⟨i, K', T', X', rfl, hi, hB, hR, hS, hb⟩ := hrel
        have HB := hide hB
        have HR := hide hR
        have HS := hide hS
        have Hb := hide hb
        clear hB hR hS hb
        by_cases hlt : i < n
        · rcases H0.out.below Hb.out with h0 | ⟨b, off, hx, hbl, hc⟩
          · omega
          simp only [Option.some.injEq] at hx
          subst hx
          have hbw : b < w.heap.size := by
            rcases H0.out with h0 | ⟨b', off', hx, hb', _⟩
            · omega
            · simp only [Option.some.injEq, Addr.mk.injEq] at hx
              omega
          have c0 := hc (i * 3) (by omega)
          have c1 := hc (i * 3 + 1) (by omega)
          have c2 := hc (i * 3 + 2) (by omega)
          rw [opCell0] at c0
          rw [opCell1, ← Nat.add_assoc] at c1
          rw [opCell2, ← Nat.add_assoc] at c2
          clear hc
          have d0 := HB.out.fcell (i * 3) (by omega)
          have d1 := HB.out.fcell (i * 3 + 1) (by omega)
          have d2 := HB.out.fcell (i * 3 + 2) (by omega)
          have f0 := HB.out.free
          have hne : b ≠ g := by have := Hg.out; omega
          go_wp2
          go_region_held3 (fun w' => w'.cell? ⟨b, off + i * 3, none⟩ = some (.int .u8 (K i)) ∧ w'.cell? ⟨b, off + i * 3 + 1, none⟩ = some (.int .i32 (T i)) ∧ w'.cell? ⟨b, off + i * 3 + 2, none⟩ = some (.int .i32 (X i))) (simp [*, go_sem]) (fail)
          go_step
          go_step
          go_wp2
          go_roundw
          case rel => exact ⟨i + 1, _, _, _, by go_num, by omega, HB.out.drew.set3 i (K i) (T i) (X i), ((HR.out.drew.setOther (by have := Hg.out; simp; omega) _).setOther (by have := Hg.out; simp; omega) _).setOther (by have := Hg.out; simp; omega) _, fun j hj => by unfold upd; split; (rename_i e; subst e; exact ⟨rfl, rfl, rfl⟩); exact HS.out j (by omega), ((Hb.out.drew.setCell (by have := Hg.out; simp; omega) _).setCell (by have := Hg.out; simp; omega) _).setCell (by have := Hg.out; simp; omega) _⟩
          case measure => simp [intOf]; omega
        · go_wp2
          go_meet
          case rel => exact ⟨some ⟨g, 0, none⟩, n, rfl, .inr ⟨g, 0, rfl, HB.out.lt, fun c hc => by rw [ops_congr n K T X K' T' X' (fun j hj => HS.out j (by omega))] at HB; rw [Nat.zero_add]; exact HB.out.fcell c hc⟩, HR.out, Hb.out, fun b off h => by simp only [Option.some.injEq, Addr.mk.injEq] at h; have := Hg.out; exact .inr (by omega)⟩
  clear H0 Z0 R0 B0 hnil0
  obtain ⟨ha, hc, rfl, hO⟩ := hcut
  have HO := hide hO
  clear hO
  go_upto_if 44 with fail
  go_cut [11] (fun s w' => ∃ ta tc, s = .slice ta nt tc ∧ HOps w w' n K T X ha)
  case first =>
    rcases a1 with _ | x
    · have e0 : nt = 0 := Z1.out rfl
      subst e0
      go_wp2
      go_meet
      case rel => exact ⟨none, 0, rfl, HO.out⟩
    · have hmk := make_txns nt hnt
      go_wp2
      clear hmk hnil1
      obtain ⟨g, hg⟩ : ∃ g, g = wc.heap.size := ⟨_, rfl⟩
      rw [← hg]
      have Hg := hide hg
      clear hg
      have hgw : w.heap.size < g := by have := Hg.out; have := HO.out.res.lt; omega
      have hga : ∀ b off, ha = some ⟨b, off, none⟩ → nt ≠ 0 → b ≠ g ∨ n = 0 := fun b off hb _ => by
        rcases HO.out.sl with h0 | ⟨b', off', hx, hb', _⟩
        · exact .inr h0
        · rw [hb] at hx
          simp only [Option.some.injEq, Addr.mk.injEq] at hx
          have := Hg.out
          exact .inl (by omega)
      have Hga := hide hga
      clear hga
      go_loopw [12] (fun si wr => ∃ (i : Nat) (S' : Nat → ByteArray), TLoop w g n nt K T X ha si wr i S') (fun si _ => nt - (intOf si).toNat)
      case atStart =>
        refine ⟨0, fun _ => ByteArray.empty, rfl, by omega, ?_, HO.out.below ((Below.refl _ _).alloc (Nat.le_refl _) _)⟩
        rw [made_fc, Hg.out]
        exact Blk.new _ _ _
      case round =>
        obtain ⟨i, S', rfl, hi, hB, hb⟩ := hrel
        have HB := hide hB
        have Hb := hide hb
        clear hB hb
        by_cases hlt : i < nt
        · rcases H1.out.below Hb.out.bel with h0 | ⟨b, off, hx, hbl, hc⟩
          · omega
          simp only [Option.some.injEq] at hx
          subst hx
          have c0 := hc i (by omega)
          clear hc
          have d0 := HB.out.fcell i (by omega)
          have f0 := HB.out.free
          go_wp2
          go_roundw
          case rel =>
            refine ⟨i + 1, _, by go_num, by omega, strs_set HB.out i (S i), ?_⟩
            by_cases n0 : n = 0
            · exact ⟨.inl n0, Hb.out.res.setOther (by simp; omega) _, Hb.out.bel.setCell (by simp; omega) _, fun _ _ _ => .inl n0⟩
            · exact setOps Hb.out hgw (fun b off h => (Hga.out b off h (by omega)).resolve_right n0)
          case measure => simp [intOf]; omega
        · go_wp2
          go_meet
          case rel => exact ⟨_, _, rfl, Hb.out⟩
  clear H1 Z1 HO hnil1
  obtain ⟨ta, tc, rfl, hO⟩ := hcut
  have HO := hide hO
  obtain ⟨q0, q1, q2, q3⟩ := zero4_cells hO.res
  have fq := hO.res.free
  clear hO
  go_wp2
  refine bodyPost_ret (v := .agg #[.slice ha n hc, .slice ta nt tc, .slice a2 ni c2, .string l]) (by simp [results, Try.results14, go_sem, q0, q1, q2, q3]) rfl ⟨ha, hc, ta, tc, rfl, ?_, ?_⟩
  · by_cases n0 : n = 0
    · exact .inl n0
    · rcases HO.out.sl with h0 | ⟨b, off, rfl, hb, hcc⟩
      · exact absurd h0 n0
      · have hne : b ≠ w.heap.size := (HO.out.ne b off rfl).resolve_left n0
        exact .inr ⟨b, off, rfl, by rw [setCell_size, setCell_size, setCell_size, setCell_size]; exact hb, fun c h => by
          rw [World.cell?_of_block (Below.heap_setCell _ _ _ _ hne), World.cell?_of_block (Below.heap_setCell _ _ _ _ hne), World.cell?_of_block (Below.heap_setCell _ _ _ _ hne), World.cell?_of_block (Below.heap_setCell _ _ _ _ hne)]; exact hcc c h⟩
  · exact (((HO.out.bel.setCell (Nat.le_refl _) _).setCell (Nat.le_refl _) _).setCell (Nat.le_refl _) _).setCell (Nat.le_refl _) _
end Go.Proofs.Qxb6605516a
