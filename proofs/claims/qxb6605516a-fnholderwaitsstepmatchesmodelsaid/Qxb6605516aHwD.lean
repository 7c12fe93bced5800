import Derived.Test.Qxb6605516aHwC
namespace Go.Proofs.Qxb6605516a
open Go.RowKit
set_option linter.unusedVariables false

/-- Rows behind headers, the first i of them made. -/
structure NPart (w : World) (bo lo m sz : Nat) (T1 T2 : TypeId) (L : Nat → Nat) (F : Nat → Nat → Int) (zz : Nat → Prop) (i : Nat) (la : Nat → Option Addr) : Prop where
  hd : Blk w bo (fc m (fun j => if j < i then .slice (la j) (L j) (L j) else .slice none 0 0)) T1
  el : ∀ j, j < i → RowA w lo (la j) (L j) sz (F j) T2
  nz : ∀ j, j < i → (la j = none ↔ zz j)
  inj : ∀ j k, j < i → k < i → la j = la k → la j ≠ none → j = k
section
variable {w w' : World} {bo lo m sz i : Nat} {T1 T2 : TypeId} {L : Nat → Nat} {F : Nat → Nat → Int} {zz : Nat → Prop} {la : Nat → Option Addr}
theorem NPart.start (h : Blk w bo (fc m nilS) T1) : NPart w bo lo m sz T1 T2 L F zz 0 (fun _ => none) := by
  refine ⟨?_, fun j h => by omega, fun j h => by omega, fun j k h => by omega⟩
  rw [fc_congr m _ nilS (fun c _ => by rw [if_neg (by omega)]; rfl)]
  exact h
theorem NPart.below (h : NPart w bo lo m sz T1 T2 L F zz i la) (hb : Below w.heap.size w w') : NPart w' bo lo m sz T1 T2 L F zz i la :=
  ⟨h.hd.below hb h.hd.lt, fun j hj => (h.el j hj).below hb, h.nz, h.inj⟩
theorem NPart.other (h : NPart w bo lo m sz T1 T2 L F zz i la) {p : Addr} (hp : p.block < lo) (hne : bo ≠ p.block) (v : Value) : NPart (w.setCell p v) bo lo m sz T1 T2 L F zz i la :=
  ⟨h.hd.setOther hne v, fun j hj => (h.el j hj).other hp v, h.nz, h.inj⟩
theorem NPart.nil (h : NPart w bo lo m sz T1 T2 L F zz i la) (hz : zz i) (hl : L i = 0) : NPart w bo lo m sz T1 T2 L F zz (i + 1) (upd la i none) := by
  refine ⟨?_, fun j hj => ?_, fun j hj => ?_, fun j k hj hk he hn => ?_⟩
  · rw [fc_congr m _ (fun j => if j < i then .slice (la j) (L j) (L j) else .slice none 0 0) (fun c _ => ?_)]
    · exact h.hd
    · by_cases e : c = i
      · subst e
        rw [if_pos (by omega), if_neg (by omega), upd_same, hl]
      · rw [upd_other _ _ _ _ e]
        by_cases e2 : c < i
        · rw [if_pos (by omega), if_pos e2]
        · rw [if_neg (by omega), if_neg e2]
  · by_cases e : j = i
    · subst e; rw [upd_same]; exact .inl ⟨rfl, hl⟩
    · rw [upd_other _ _ _ _ e]; exact h.el j (by omega)
  · by_cases e : j = i
    · subst e; rw [upd_same]; exact ⟨fun _ => hz, fun _ => rfl⟩
    · rw [upd_other _ _ _ _ e]; exact h.nz j (by omega)
  · by_cases e : j = i
    · subst e; rw [upd_same] at hn; exact absurd rfl hn
    · rw [upd_other _ _ _ _ e] at he hn
      by_cases e2 : k = i
      · subst e2; rw [upd_same] at he; exact absurd he hn
      · rw [upd_other _ _ _ _ e2] at he
        exact h.inj j k (by omega) (by omega) he hn
theorem NPart.fresh (h : NPart w bo lo m sz T1 T2 L F zz i la) {bl : Nat} (hb : w.heap.size ≤ bl) : ∀ j, j < i → la j ≠ some ⟨bl, 0, none⟩ := by
  intro j hj he
  rcases h.el j hj with ⟨h1, -⟩ | ⟨b, h1, -, h2⟩
  · rw [h1] at he; cases he
  · rw [h1] at he
    simp only [Option.some.injEq, Addr.mk.injEq] at he
    have := h2.lt
    omega
theorem NPart.set (h : NPart w bo lo m sz T1 T2 L F zz i la) {bl : Nat} (hf : ∀ j, j < i → la j ≠ some ⟨bl, 0, none⟩) (hk : Blk w bl (irow .i32 (L i * sz) (F i)) T2) (hne : bl ≠ bo) (hlo : lo ≤ bl) (hbo : bo < lo) (hz : ¬ zz i) :
    NPart (w.setCell ⟨bo, i, none⟩ (.slice (some ⟨bl, 0, none⟩) (L i) (L i))) bo lo m sz T1 T2 L F zz (i + 1) (upd la i (some ⟨bl, 0, none⟩)) := by
  refine ⟨?_, fun j hj => ?_, fun j hj => ?_, fun j k hj hk he hn => ?_⟩
  · have h1 := h.hd.set i (.slice (some ⟨bl, 0, none⟩) (L i) (L i))
    rw [fc_set] at h1
    rw [fc_congr m _ (upd (fun j => if j < i then .slice (la j) (L j) (L j) else .slice none 0 0) i (.slice (some ⟨bl, 0, none⟩) (L i) (L i))) (fun c _ => ?_)]
    · exact h1
    · by_cases e : c = i
      · subst e
        rw [if_pos (by omega), upd_same, upd_same]
      · rw [upd_other _ _ _ _ e, upd_other _ _ _ _ e]
        by_cases e2 : c < i
        · rw [if_pos (by omega), if_pos e2]
        · rw [if_neg (by omega), if_neg e2]
  · by_cases e : j = i
    · subst e; rw [upd_same]; exact .inr ⟨bl, rfl, hlo, hk.setOther hne _⟩
    · rw [upd_other _ _ _ _ e]; exact (h.el j (by omega)).other hbo _
  · by_cases e : j = i
    · subst e; rw [upd_same]; exact ⟨fun h => (by cases h), fun h => absurd h hz⟩
    · rw [upd_other _ _ _ _ e]; exact h.nz j (by omega)
  · by_cases e : j = i
    · subst e
      rw [upd_same] at he
      by_cases e2 : k = j
      · exact e2.symm
      · rw [upd_other _ _ _ _ e2] at he
        exact absurd he.symm (hf k (by omega))
    · rw [upd_other _ _ _ _ e] at he hn
      by_cases e2 : k = i
      · subst e2; rw [upd_same] at he; exact absurd he (hf j (by omega))
      · rw [upd_other _ _ _ _ e2] at he
        exact h.inj j k (by omega) (by omega) he hn
theorem NPart.whole (h : NPart w bo lo m sz T1 T2 L F zz m la) : Blk w bo (fc m (fun j => .slice (la j) (L j) (L j))) T1 := by
  rw [fc_congr m _ (fun j => if j < m then .slice (la j) (L j) (L j) else .slice none 0 0) (fun c hc => by rw [if_pos hc])]
  exact h.hd
theorem NPart.nst (h : NPart w bo lo m sz T1 T2 L F zz m la) : Nst w (some ⟨bo, 0, none⟩) m sz L F la L :=
  ⟨.inr ⟨bo, 0, rfl, h.hd.lt, fun c hc => by rw [Nat.zero_add]; exact h.whole.fcell c (by omega)⟩, fun i hi => (h.el i hi).irow, fun i hi hz => (h.el i hi).zl hz⟩
end
theorem CPart.whole {w wr : World} {n sz : Nat} {F R : Nat → Int} {T : TypeId} {si : Value} (h : CPart w n sz F T si wr n R) : Blk wr w.heap.size (irow .i32 (n * sz) F) T := by
  rw [irow_congr .i32 (n * sz) F R (fun c hc => (h.eq c hc).symm)]
  exact h.blk
/-- A copy of slices of rows. -/
structure CNst (w w' : World) (e : Ending) (a : Option Addr) (m sz : Nat) (L : Nat → Nat) (F : Nat → Nat → Int) (la : Nat → Option Addr) (oa : Option Addr) (oc : Nat) (la' : Nat → Option Addr) (lc' : Nat → Nat) : Prop where
  ret : e = .returned (.slice oa m oc)
  nl : oa = none ↔ a = none
  nst : Nst w' oa m sz L F la' lc'
  nz : ∀ i, i < m → (la' i = none ↔ la i = none)
  bel : Below w.heap.size w w'
structure CLs (w : World) (m : Nat) (L : Nat → Nat) (F : Nat → Nat → Int) (la : Nat → Option Addr) (s : Value) (wr : World) (i : Nat) (la' : Nat → Option Addr) : Prop where
  s : s = .int .i64 i
  hi : i ≤ m
  np : NPart wr w.heap.size (w.heap.size + 1) m 2 64 66 L F (fun i => la i = none) i la'
  bel : Below w.heap.size w wr

set_option maxHeartbeats 1000000 in
theorem clonelists_any (a : Option Addr) (m c : Nat) (L : Nat → Nat) (F : Nat → Nat → Int) (la : Nat → Option Addr) (lc : Nat → Nat) (hm : m ≤ 1048576) (hL : ∀ i, i < m → L i ≤ 1048576) (w : World) (z : a = none → m = 0) (h : Nst w a m 2 L F la lc) :
    Calls Try.prog 24 #[.slice a m c] w fun e w' => ∃ oa oc la' lc', CNst w w' e a m 2 L F la oa oc la' lc' := by
  cases a with
  | none =>
    have hnil := fun w => Lib.run_eql_slice_nil (P := Try.prog) w 45 64 none m c 0 0 Try.underlying45
    have hz := z rfl
    subst hz
    go_enter Try.func24, Try.ntmps24
    go_wp2
    go_ret
    exact ⟨_, _, la, lc, rfl, Iff.rfl, ⟨.inl rfl, fun i hi => by omega, fun i hi => by omega⟩, fun i hi => by omega, Below.refl _ _⟩
  | some x =>
    have H := hide h
    have HL := hide hL
    clear h z hL
    have hmk := make_h45 m hm
    have hnil := fun w => Lib.run_eql_slice_nil (P := Try.prog) w 45 64 (some x) m c 0 0 Try.underlying45
    go_enter Try.func24, Try.ntmps24
    go_wp2
    clear hmk hnil
    go_loopw [4] (fun s wr => ∃ (i : Nat) (la' : Nat → Option Addr), CLs w m L F la s wr i la') (fun s _ => m - (intOf s).toNat)
    case atStart => exact ⟨0, _, rfl, by omega, NPart.start (Blk.new _ _ _), (Below.refl _ _).alloc (Nat.le_refl _) _⟩
    case round =>
      obtain ⟨i, la', hR⟩ := hrel
      have HR := hide hR
      obtain rfl := hR.s
      have hi := hR.hi
      clear hR
      by_cases hlt : i < m
      · have H2 := hide (H.out.below HR.out.bel)
        rcases H2.out.hd with h0 | ⟨b, off, hx, hbl, hc⟩
        · omega
        simp only [Option.some.injEq] at hx
        subst hx
        have c0 : wr.cell? ⟨b, off + i, none⟩ = some (.slice (la i) (L i) (lc i)) := hc i (by omega)
        clear hc
        by_cases hz : la i = none
        · have hl0 := H.out.zl i hlt hz
          rw [hz, hl0] at c0
          have HZ := hide hz
          have HL0 := hide hl0
          clear hz hl0
          have hnil := fun w => Lib.run_eql_slice_nil (P := Try.prog) w 64 66 none 0 (lc i) 0 0 Try.underlying64
          go_wp2
          go_roundw
          case rel => exact ⟨i + 1, _, by go_num, by omega, HR.out.np.nil HZ.out HL0.out, HR.out.bel⟩
          case measure => simp [intOf]; omega
        · obtain ⟨y, hy⟩ : ∃ y, la i = some y := Option.ne_none_iff_exists'.1 hz
          have HE := hide (H2.out.el i hlt)
          rw [hy] at c0 HE
          have HZ := hide hz
          clear hz hy
          have hLi := HL.out i hlt
          have hnil := fun w => Lib.run_eql_slice_nil (P := Try.prog) w 64 66 (some y) (L i) (lc i) 0 0 Try.underlying64
          have hmk := make_En (L i) hLi
          go_wp2
          clear hmk hnil
          have hbr := H2.out.hd
          go_loopw [6] (fun s wi => ∃ (j : Nat) (R : Nat → Int), CPart wr (L i) 2 (F i) 66 s wi j R) (fun s _ => L i - (intOf s).toNat)
          case atStart => exact ⟨0, _, rfl, by omega, Blk.new _ _ _, fun j hj => by omega, (Below.refl _ _).alloc (Nat.le_refl _) _⟩
          case round =>
            obtain ⟨j, R, hR⟩ := hrel
            have HJ := hide hR
            obtain rfl := hR.si
            have hj := hR.hi
            clear hR
            have c1 := (HJ.out.bel.cell (p := ⟨b, off + i, none⟩) hbl).trans c0
            by_cases hjl : j < L i
            · rcases SlA.below HE.out HJ.out.bel with h0 | ⟨b2, off2, hx, hbl2, hc⟩
              · omega
              simp only [Option.some.injEq] at hx
              subst hx
              have e0 := IRow.cell hc (j * 2) (by omega)
              have e1 := IRow.cell hc (j * 2 + 1) (by omega)
              rw [← Nat.add_assoc] at e1
              clear hc c0
              have d0 := HJ.out.blk.rcell (j * 2) (by omega)
              have d1 := HJ.out.blk.rcell (j * 2 + 1) (by omega)
              have f0 := HJ.out.blk.free
              go_wp2
              go_roundw
              case rel =>
                refine ⟨j + 1, _, by go_num, by omega, (HJ.out.blk.rset (j * 2) (F i (j * 2))).rset (j * 2 + 1) (F i (j * 2 + 1)), fun k hk => ?_, (HJ.out.bel.setCell (Nat.le_refl _) _).setCell (Nat.le_refl _) _⟩
                unfold upd
                split
                · rename_i e; subst e; rfl
                · split
                  · rename_i e; subst e; rfl
                  · exact HJ.out.eq k (by omega)
              case measure => simp [intOf]; omega
            · obtain rfl : j = L i := by omega
              clear c0
              have HN := hide (HR.out.np.below HJ.out.bel)
              have hdl := HN.out.hd.fcell i hlt
              rw [if_neg (by omega)] at hdl
              have hdf := HN.out.hd.free
              have hlt0 := HR.out.np.hd.lt
              have HFr := hide (HR.out.np.fresh (Nat.le_refl _))
              go_wp2
              go_roundw
              case rel => exact ⟨i + 1, _, by go_num, by omega, HN.out.set HFr.out HJ.out.whole (by omega) (by omega) (by omega) HZ.out, (HR.out.bel.trans (HJ.out.bel.mono HR.out.bel.size)).setCell (Nat.le_refl _) _⟩
              case measure => simp [intOf]; omega
      · obtain rfl : i = m := by omega
        go_wp2
        go_ret
        exact ⟨_, _, _, _, rfl, by simp, HR.out.np.nst, HR.out.np.nz, HR.out.bel⟩
end Go.Proofs.Qxb6605516a
