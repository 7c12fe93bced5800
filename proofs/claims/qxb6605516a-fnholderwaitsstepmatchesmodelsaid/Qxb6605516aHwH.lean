import Derived.Test.Qxb6605516aHwF
import Derived.Deep.RegionLaw
import Derived.ArgAppend
import Derived.OwnWalk
namespace Go.Proofs.Qxb6605516a
open Go.RowKit
set_option linter.unusedVariables false

/-- What step leaves: the items, the list of t; all else as it was. -/
structure Stp (w w' : World) (bh : Nat) (ia : Option Addr) (ni : Nat) (G : Nat → Int) (ha : Option Addr) (m : Nat) (L : Nat → Nat) (F : Nat → Nat → Int) (la : Nat → Option Addr) (d : Int) (p : Int) (H : Nat → Int) (L' : Nat → Nat) (F' : Nat → Nat → Int) (lc' : Nat → Nat) : Prop where
  it : IRow w' ia ni 3 H
  ls : Nst w' ha m 2 L' F' la lc'
  bel : Below (bh + 1) w w'
  neg : p < 0 → H = G
  oth : ∀ i : Nat, (i : Int) ≠ p → L' i = L i ∧ F' i = F i
  hit : ∀ q : Nat, p = (q : Int) → ItInv d (F q) G ni (L q) H ∧ L' q = kn (F q) G (L q) ∧ (∀ i, i < L q → kpt (F q) G i → F' q (kn (F q) G i * 2) = F q (i * 2) ∧ F' q (kn (F q) G i * 2 + 1) = F q (i * 2 + 1))
theorem Hold.irow {w : World} {bh : Nat} {ask keep ep : Int} {ia : Option Addr} {ni : Nat} {G : Nat → Int} {ha : Option Addr} {m : Nat} {L : Nat → Nat} {F : Nat → Nat → Int} {zz : Nat → Prop} {la : Nat → Option Addr} {lv fv : Value} (h : Hold w bh ask keep ep ia ni G ha m L F zz la lv fv) : IRow w ia ni 3 G := by
  rcases h.it with ⟨-, h1⟩ | ⟨bi, h1, -, h2⟩
  · exact .inl h1
  · exact .inr ⟨bi, 0, h1, h2.lt, fun c hc => by rw [Nat.zero_add]; exact h2.rcell c hc⟩
theorem Hold.nst {w : World} {bh : Nat} {ask keep ep : Int} {ia : Option Addr} {ni : Nat} {G : Nat → Int} {ha : Option Addr} {m : Nat} {L : Nat → Nat} {F : Nat → Nat → Int} {zz : Nat → Prop} {la : Nat → Option Addr} {lv fv : Value} (h : Hold w bh ask keep ep ia ni G ha m L F zz la lv fv) : Nst w ha m 2 L F la L := by
  rcases h.ls with ⟨-, rfl⟩ | ⟨bo, rfl, -, -, h2⟩
  · exact ⟨.inl rfl, fun i hi => by omega, fun i hi => by omega⟩
  · exact h2.nst
/-- The loop of step. -/
structure StL (w : World) (bi bl ni Lq : Nat) (G Fq : Nat → Int) (d : Int) (s8 s32 : Value) (wr : World) (j : Nat) (H R : Nat → Int) : Prop where
  s8 : s8 = .slice (some ⟨bl, 0, none⟩) (kn Fq G j) Lq
  s32 : s32 = .int .i64 j
  hj : j ≤ Lq
  it : Blk wr bi (irow .i32 (ni * 3) H) 106
  row : Blk wr bl (irow .i32 (Lq * 2) R) 109
  inv : ItInv d Fq G ni j H
  kr : KRow Fq G j R
  kept : Kept (fun k => k = bi ∨ k = bl) w wr
theorem app2_news (W : World) (x m : Int) : ∀ (j : Nat) (u : Value), ([.int .i32 x, .int .i32 m] : List Value)[j]? = some u → (W.alloc (.cells #[.int .i32 x, .int .i32 m] 109)).cell? ((⟨W.heap.size, 0, none⟩ : Addr).add j) = some u := by
  intro j u h
  have hb := Blk.new W #[.int .i32 x, .int .i32 m] 109
  rcases j with _ | _ | j
  · have e : (⟨W.heap.size, 0, none⟩ : Addr).add 0 = ⟨W.heap.size, 0, none⟩ := by simp [Addr.add]
    rw [e, hb.cell]; simpa using h
  · have e : (⟨W.heap.size, 0, none⟩ : Addr).add 1 = ⟨W.heap.size, 1, none⟩ := by simp [Addr.add]
    simp only [Nat.zero_add]
    rw [e, hb.cell]; simpa using h
  · simp at h
theorem app2_one (x m : Int) : ∀ u ∈ ([.int .i32 x, .int .i32 m] : List Value), u.oneCell' = true := by
  intro u hu
  simp at hu
  rcases hu with rfl | rfl <;> rfl
theorem app2_spare {W : World} {bl n len : Nat} {R : Nat → Int} (h : Blk W bl (irow .i32 (n * 2) R) 109) (hl : len < n) (o : Obj) : ∀ j, j < 2 → ((W.alloc o).cell? ⟨bl, 0 + len * 2 + j, none⟩).isSome = true ∧ (W.alloc o).frozen? ⟨bl, 0 + len * 2 + j, none⟩ = false := by
  intro j hj
  have hb := h.alloc o
  refine ⟨?_, hb.free _⟩
  rw [hb.rcell _ (by omega)]
  rfl
theorem up5_0 (H : Nat → Int) (x : Nat) (a b : Int) : (upd (upd (upd (upd (upd H (x * 3 + 1) a) (x * 3 + 2) b) (x * 3) 0) (x * 3 + 1) 0) (x * 3 + 2) 0) (x * 3) = 0 ∧ (upd (upd (upd (upd (upd H (x * 3 + 1) a) (x * 3 + 2) b) (x * 3) 0) (x * 3 + 1) 0) (x * 3 + 2) 0) (x * 3 + 1) = 0 ∧ (upd (upd (upd (upd (upd H (x * 3 + 1) a) (x * 3 + 2) b) (x * 3) 0) (x * 3 + 1) 0) (x * 3 + 2) 0) (x * 3 + 2) = 0 := by
  refine ⟨?_, ?_, ?_⟩
  · rw [upd_other _ _ _ _ (by omega), upd_other _ _ _ _ (by omega), upd_same]
  · rw [upd_other _ _ _ _ (by omega), upd_same]
  · rw [upd_same]
theorem up5_o (H : Nat → Int) (x : Nat) (a b : Int) (c : Nat) (h : c / 3 ≠ x) : (upd (upd (upd (upd (upd H (x * 3 + 1) a) (x * 3 + 2) b) (x * 3) 0) (x * 3 + 1) 0) (x * 3 + 2) 0) c = H c := by
  rw [upd_other _ _ _ _ (by omega), upd_other _ _ _ _ (by omega), upd_other _ _ _ _ (by omega), upd_other _ _ _ _ (by omega), upd_other _ _ _ _ (by omega)]
theorem up2_0 (H : Nat → Int) (x : Nat) (a b : Int) : (upd (upd H (x * 3 + 1) a) (x * 3 + 2) b) (x * 3) = H (x * 3) ∧ (upd (upd H (x * 3 + 1) a) (x * 3 + 2) b) (x * 3 + 1) = a ∧ (upd (upd H (x * 3 + 1) a) (x * 3 + 2) b) (x * 3 + 2) = b := by
  refine ⟨?_, ?_, ?_⟩
  · rw [upd_other _ _ _ _ (by omega), upd_other _ _ _ _ (by omega)]
  · rw [upd_other _ _ _ _ (by omega), upd_same]
  · rw [upd_same]
theorem up2_o (H : Nat → Int) (x : Nat) (a b : Int) (c : Nat) (h : c / 3 ≠ x) : (upd (upd H (x * 3 + 1) a) (x * 3 + 2) b) c = H c := by
  rw [upd_other _ _ _ _ (by omega), upd_other _ _ _ _ (by omega)]
theorem info109 : (Try.prog.info? 109).map (fun i => i.size) = some 2 := by kernel_rfl

theorem stp_mk {w w1 : World} {bh bo bl m ni q : Nat} {L : Nat → Nat} {F : Nat → Nat → Int} {zz : Nat → Prop} {la : Nat → Option Addr} {G H R : Nat → Int} {d : Int} {ia : Option Addr} {v : Value} (h : NPart w bo (bo + 1) m 2 107 109 L F zz m la) (hbo : bh < bo) (hqm : q < m) (hla : la q = some ⟨bl, 0, none⟩) (hbl : bo + 1 ≤ bl)
    (hk : Kept (fun k => (bh < k ∧ k < bo) ∨ k = bl) w w1) (hrow : Blk w1 bl (irow .i32 (L q * 2) R) 109) (hit : IRow (w1.setCell ⟨bo, q, none⟩ v) ia ni 3 H) (hinv : ItInv d (F q) G ni (L q) H) (hkr : KRow (F q) G (L q) R) (hv : v = .slice (some ⟨bl, 0, none⟩) (kn (F q) G (L q)) (L q) := by rfl) :
    Stp w (w1.setCell ⟨bo, q, none⟩ v) bh ia ni G (some ⟨bo, 0, none⟩) m L F la d (q : Int) H (upd L q (kn (F q) G (L q))) (upd F q R) L := by
  subst hv
  have hkl := kn_le (F q) G (L q)
  refine ⟨hit, ⟨?_, fun i hi => ?_, fun i hi hz => ?_⟩, ?_, fun hn => by omega, fun i hi => ?_, fun q' hq' => ?_⟩
  · have h1 := (h.whole.kept hk (by omega)).set q (.slice (some ⟨bl, 0, none⟩) (kn (F q) G (L q)) (L q))
    rw [fc_set] at h1
    refine .inr ⟨bo, 0, rfl, h1.lt, fun c hc => ?_⟩
    rw [Nat.zero_add, h1.fcell c (by omega)]
    by_cases e : c = q
    · subst e; rw [upd_same]; show _ = some (Value.slice (la c) (upd L c (kn (F c) G (L c)) c) (L c)); rw [upd_same, hla]
    · rw [upd_other _ _ _ _ e]; show _ = some (Value.slice (la c) (upd L q (kn (F q) G (L q)) c) (L c)); rw [upd_other _ _ _ _ e]
  · by_cases e : i = q
    · subst e
      rw [upd_same, upd_same, hla]
      have h1 := hrow.setOther (a := ⟨bo, i, none⟩) (show bl ≠ bo by omega) (.slice (some ⟨bl, 0, none⟩) (kn (F i) G (L i)) (L i))
      exact .inr ⟨bl, 0, rfl, h1.lt, fun c hc => by rw [Nat.zero_add]; exact h1.rcell c (by omega)⟩
    · rw [upd_other _ _ _ _ e, upd_other _ _ _ _ e]
      rcases h.el i hi with ⟨h1, h2⟩ | ⟨b, h1, h2, h3⟩
      · exact .inl h2
      · have hne : b ≠ bl := by
          rintro rfl
          exact e (h.inj i q hi hqm (h1.trans hla.symm) (by rw [h1]; simp))
        have h4 := (h3.kept hk (by omega)).setOther (a := ⟨bo, q, none⟩) (show b ≠ bo by omega) (.slice (some ⟨bl, 0, none⟩) (kn (F q) G (L q)) (L q))
        exact .inr ⟨b, 0, h1, h4.lt, fun c hc => by rw [Nat.zero_add]; exact h4.rcell c hc⟩
  · by_cases e : i = q
    · subst e; rw [hla] at hz; cases hz
    · rw [upd_other _ _ _ _ e]
      exact (h.el i hi).zl hz
  · have hlt := h.hd.lt
    exact (hk.below (B := bh + 1) (by omega) (by omega)).setCell (by show bh + 1 ≤ bo; omega) _
  · have e : i ≠ q := by omega
    rw [upd_other _ _ _ _ e, upd_other _ _ _ _ e]
    exact ⟨rfl, rfl⟩
  · obtain rfl : q' = q := by omega
    rw [upd_same, upd_same]
    exact ⟨hinv, rfl, hkr.1⟩
theorem hold_it {w : World} {bh bo : Nat} {ask keep ep : Int} {ia : Option Addr} {ni : Nat} {G : Nat → Int} {ha : Option Addr} {m : Nat} {L : Nat → Nat} {F : Nat → Nat → Int} {zz : Nat → Prop} {la : Nat → Option Addr} {lv fv : Value} (h : Hold w bh ask keep ep ia ni G ha m L F zz la lv fv) (hbo : bh < bo) (hs : ∀ bi, ia = some ⟨bi, 0, none⟩ → bi < bo) (q : Nat) (v : Value) : IRow (w.setCell ⟨bo, q, none⟩ v) ia ni 3 G := by
  rcases h.it with ⟨-, h1⟩ | ⟨bi, h1, -, h2⟩
  · exact .inl h1
  · have := hs bi h1
    have h3 := h2.setOther (a := ⟨bo, q, none⟩) (show bi ≠ bo by omega) v
    exact .inr ⟨bi, 0, h1, h3.lt, fun c hc => by rw [Nat.zero_add]; exact h3.rcell c hc⟩
theorem stp_nil {w : World} {bh bo : Nat} {ask keep ep : Int} {ia : Option Addr} {ni : Nat} {G : Nat → Int} {m q : Nat} {L : Nat → Nat} {F : Nat → Nat → Int} {zz : Nat → Prop} {la : Nat → Option Addr} {lv fv : Value} {d : Int} (hH : Hold w bh ask keep ep ia ni G (some ⟨bo, 0, none⟩) m L F zz la lv fv) (h : NPart w bo (bo + 1) m 2 107 109 L F zz m la) (hbo : bh < bo) (hs : ∀ bi, ia = some ⟨bi, 0, none⟩ → bi < bo) (hqm : q < m) (hla : la q = none) (hl0 : L q = 0) :
    Stp w (w.setCell ⟨bo, q, none⟩ (.slice none 0 0)) bh ia ni G (some ⟨bo, 0, none⟩) m L F la d (q : Int) G L F L := by
  refine ⟨hold_it hH hbo hs _ _, ⟨?_, fun i hi => ?_, fun i hi hz => (h.el i hi).zl hz⟩, ?_, fun _ => rfl, fun i hi => ⟨rfl, rfl⟩, fun q' hq' => ?_⟩
  · have h1 := h.whole.set q (.slice none 0 0)
    rw [fc_set] at h1
    refine .inr ⟨bo, 0, rfl, h1.lt, fun c hc => ?_⟩
    rw [Nat.zero_add, h1.fcell c (by omega)]
    by_cases e : c = q
    · subst e; rw [upd_same]; show _ = some (Value.slice (la c) (L c) (L c)); rw [hla, hl0]
    · rw [upd_other _ _ _ _ e]
  · rcases h.el i hi with ⟨h1, h2⟩ | ⟨b, h1, h2, h3⟩
    · exact .inl h2
    · have h4 := h3.setOther (a := ⟨bo, q, none⟩) (show b ≠ bo by omega) (.slice none 0 0)
      exact .inr ⟨b, 0, h1, h4.lt, fun c hc => by rw [Nat.zero_add]; exact h4.rcell c hc⟩
  · exact (Below.refl _ _).setCell (by show bh + 1 ≤ bo; omega) _
  · obtain rfl : q' = q := by omega
    rw [hl0]
    exact ⟨ItInv.start, by simp [kn], fun i hi => by omega⟩

set_option maxRecDepth 8000 in
set_option maxHeartbeats 2000000 in
theorem step_any (bh : Nat) (ask keep ep : Int) (ia : Option Addr) (ni : Nat) (ha : Option Addr) (m : Nat) (o4 : Option Addr) (n4 c4 : Nat) (o5 : Option Addr) (n5 c5 : Nat) (G : Nat → Int) (L : Nat → Nat) (F : Nat → Nat → Int) (zz : Nat → Prop) (la : Nat → Option Addr) (LO : Nat → Int) (t d : Int) (w : World)
    (hni : ni ≤ 65536) (hm : m ≤ 65536) (hL : ∀ i, i < m → L i ≤ 1048576) (hG : ∀ c, -2147483648 ≤ G c ∧ G c ≤ 2147483647) (hD : StepDom ni m n4 LO L F t)
    (hH : Hold w bh ask keep ep ia ni G ha m L F zz la (.slice o4 n4 c4) (.slice o5 n5 c5)) (h4 : IRowB w bh o4 n4 1 LO) :
    Calls Try.prog 40 #[.pointer (some ⟨bh, 0, none⟩), .int .i32 t, .int .i32 d] w fun e w' => e = .returned (.tuple #[]) ∧ ∃ tn : Nat, t = (tn : Int) ∧ ∃ H L' F' lc', Stp w w' bh ia ni G ha m L F la d (LO tn) H L' F' lc' := by
  obtain ⟨tn, rfl, htn, hP⟩ := hD
  have HL := hide hL
  have HG := hide hG
  have HH := hide hH
  have HP := hide hP
  have x4 : w.cell? ⟨bh, 4, none⟩ = some (.slice o4 n4 c4) := hH.blk.cell 4
  have x3 : w.cell? ⟨bh, 3, none⟩ = some (.slice ha m m) := hH.blk.cell 3
  have x2 : w.cell? ⟨bh, 2, none⟩ = some (.slice ia ni ni) := hH.blk.cell 2
  have hbh := hH.blk.lt
  rcases h4 with h0 | ⟨b4, off4, rfl, hb4, hb4', hc4⟩
  · omega
  have e4 := IRow.cell hc4 tn (by omega)
  clear hL hG hH hP hc4
  obtain ⟨p, hp⟩ : ∃ p, LO tn = p := ⟨_, rfl⟩
  rw [hp] at e4 HP
  have HPn := hide hp
  clear hp
  by_cases hp0 : p < 0
  · go_enter Try.func40, Try.ntmps40
    go_wp2
    first | go_end0 | ((try simp only [Exit.inBlock, Exit.then]); refine bodyPost_ret (results_none rfl _ _ _) rfl ?_)
    refine ⟨rfl, tn, rfl, G, L, F, L, ?_⟩
    rw [HPn.out]
    exact ⟨HH.out.irow, HH.out.nst, Below.refl _ _, fun _ => rfl, fun i _ => ⟨rfl, rfl⟩, fun q hq => by omega⟩
  · obtain ⟨q, hq, hqm, hok⟩ := HP.out.resolve_left hp0
    subst hq
    have HOK := hide hok
    clear hok hp0
    rcases HH.out.ls with ⟨-, h0⟩ | ⟨bo, hha, hbo, hsep, hnp⟩
    · omega
    subst hha
    have HNP := hide hnp
    have HSep := hide hsep
    have g3 : w.cell? ⟨bo, q, none⟩ = some (.slice (la q) (L q) (L q)) := hnp.whole.fcell q hqm
    have gf := hnp.hd.free
    have gl := hnp.hd.lt
    have hLq := HL.out q hqm
    clear hnp hsep
    have y5 := HNP.out.whole.free
    rcases HNP.out.el q hqm with ⟨hla, hl0⟩ | ⟨bl, hla, hbl, hrow⟩
    · rw [hla, hl0] at g3
      have HLa := hide hla
      have HL0 := hide hl0
      clear hla hl0
      go_enter Try.func40, Try.ntmps40
      go_wp2
      go_loopw [8, 32] (fun s8 s32 wr => s8 = .slice none 0 0 ∧ s32 = .int .i64 0 ∧ wr = w) (fun _ _ _ => 0)
      case atStart => exact ⟨rfl, rfl, rfl⟩
      case round =>
        obtain ⟨rfl, rfl, rfl⟩ := hrel
        go_wp2
        first | go_end0 | ((try simp only [Exit.inBlock, Exit.then]); refine bodyPost_ret (results_none rfl _ _ _) rfl ?_)
        refine ⟨rfl, tn, rfl, G, L, F, L, ?_⟩
        rw [HPn.out]
        exact stp_nil HH.out HNP.out hbo HSep.out hqm HLa.out HL0.out
    · rw [hla] at g3
      have HLa := hide hla
      have HRow := hide hrow
      have hlbl := hrow.lt
      clear hla hrow
      by_cases hl0 : L q = 0
      · rw [hl0] at g3
        have HL0 := hide hl0
        clear hl0
        go_enter Try.func40, Try.ntmps40
        go_wp2
        go_loopw [8, 32] (fun s8 s32 wr => s8 = .slice (some ⟨bl, 0, none⟩) 0 0 ∧ s32 = .int .i64 0 ∧ wr = w) (fun _ _ _ => 0)
        case atStart => exact ⟨rfl, rfl, rfl⟩
        case round =>
          obtain ⟨rfl, rfl, rfl⟩ := hrel
          go_wp2
          first | go_end0 | ((try simp only [Exit.inBlock, Exit.then]); refine bodyPost_ret (results_none rfl _ _ _) rfl ?_)
          refine ⟨rfl, tn, rfl, G, upd L q (kn (F q) G (L q)), upd F q (F q), L, ?_⟩
          rw [HPn.out]
          have hw := stp_mk (d := d) (v := .slice (some ⟨bl, 0, none⟩) (kn (F q) G (L q)) (L q)) HNP.out hbo hqm HLa.out hbl (Kept.refl _ _) HRow.out (hold_it HH.out hbo HSep.out _ _) (by rw [HL0.out]; exact ItInv.start) (by rw [HL0.out]; exact KRow.start)
          rw [HL0.out] at hw ⊢
          exact hw
      · obtain ⟨bi, hia, hbi, hit⟩ : ∃ bi, ia = some ⟨bi, 0, none⟩ ∧ bh < bi ∧ Blk w bi (irow .i32 (ni * 3) G) 106 := by
          rcases HH.out.it with ⟨-, h1⟩ | h1
          · have := (HOK.out 0 (by omega)).1
            omega
          · exact h1
        have hbib := HSep.out bi hia
        subst hia
        have HIt := hide hit
        have hlbi := hit.lt
        clear hit
        go_enter Try.func40, Try.ntmps40
        go_wp2
        go_loopw [8, 32] (fun s8 s32 wr => ∃ (j : Nat) (H R : Nat → Int), StL w bi bl ni (L q) G (F q) d s8 s32 wr j H R) (fun _ s _ => L q - (intOf s).toNat)
        case atStart => exact ⟨0, G, F q, rfl, rfl, by omega, HIt.out, HRow.out, ItInv.start, KRow.start, Kept.refl _ _⟩
        case round =>
          obtain ⟨j, H, R, hR⟩ := hrel
          have HR := hide hR
          obtain rfl := hR.s8
          obtain rfl := hR.s32
          have hj := hR.hj
          clear hR
          have hbB := HH.out.blk.kept HR.out.kept (by omega)
          have y2 : wr.cell? ⟨bh, 2, none⟩ = some (.slice (some ⟨bi, 0, none⟩) ni ni) := hbB.cell 2
          have l1 := hbB.lt
          have l2 := HR.out.it.lt
          have l3 := HR.out.row.lt
          have HbB := hide hbB
          clear hbB
          by_cases hlt : j < L q
          · have hok := HOK.out j hlt
            obtain ⟨x, hx⟩ := Int.eq_ofNat_of_zero_le hok.1.1
            have hxn : x < ni := by omega
            have r0 := HR.out.row.rcell (j * 2) (by omega)
            have r1 := HR.out.row.rcell (j * 2 + 1) (by omega)
            rw [HR.out.kr.2 (j * 2) (Nat.le_refl _), hx] at r0
            rw [HR.out.kr.2 (j * 2 + 1) (by omega)] at r1
            have HX := hide hx
            have HU := hide hok.2
            obtain ⟨u, hu⟩ : ∃ u, F q (j * 2 + 1) = u := ⟨_, rfl⟩
            rw [hu] at r1
            have HUu := hide hu
            have rf := HR.out.row.free
            have i0 := HR.out.it.rcell (x * 3) (by omega)
            have i1 := HR.out.it.rcell (x * 3 + 1) (by omega)
            have i2 := HR.out.it.rcell (x * 3 + 2) (by omega)
            have if0 := HR.out.it.free
            have n1 : bi ≠ bl := by omega
            have n2 : bl ≠ bi := by omega
            clear hok hx hu
            by_cases he : H (x * 3) = u
            · have hhit := HR.out.inv.hit HG.out (by omega) HX.out hxn HU.out (by rw [HUu.out]; exact he)
              have HHit := hide hhit
              rw [he] at i0
              have e1 : (u != u) = false := by simp
              obtain ⟨z1, hz1⟩ : ∃ z1, H (x * 3 + 1) = z1 := ⟨_, rfl⟩
              obtain ⟨z2, hz2⟩ : ∃ z2, H (x * 3 + 2) = z2 := ⟨_, rfl⟩
              rw [hz1] at i1 HHit
              rw [hz2] at i2 HHit
              clear hhit he hz1 hz2
              by_cases hn : wrap32 (z2 - 1) < 0
              · go_wp2
                go_quiet (fail)
                go_wp2
                go_quiet (fail)
                go_wp2
                go_roundw
                case rel =>
                  have hze := HR.out.inv.zero HX.out HHit.out.1 (HHit.out.2.1.1 hn) (up5_0 H x (wrap32 (z1 + d)) (wrap32 (z2 - 1))) (up5_o H x (wrap32 (z1 + d)) (wrap32 (z2 - 1)))
                  exact ⟨j + 1, _, R, by rw [kn_skip hze.2], by go_num, by omega, (((((((HR.out.it.alloc _).drewN _).rset (x * 3 + 1) _).rset (x * 3 + 2) _).rset (x * 3) 0).rset (x * 3 + 1) 0).rset (x * 3 + 2) 0),
                    (((((((HR.out.row.alloc _).drewN _).setOther n2 _).setOther n2 _).setOther n2 _).setOther n2 _).setOther n2 _), hze.1, HR.out.kr.skip hze.2,
                    (((((((HR.out.kept.alloc _).drewN _).set (.inl (.inl rfl)) _).set (.inl (.inl rfl)) _).set (.inl (.inl rfl)) _).set (.inl (.inl rfl)) _).set (.inl (.inl rfl)) _)⟩
                case measure => simp [intOf]; omega
              · have hkl : kn (F q) G j < L q := Nat.lt_of_le_of_lt (kn_le _ _ _) hlt
                have k0 := HR.out.row.rcell (kn (F q) G j * 2) (by omega)
                have k1 := HR.out.row.rcell (kn (F q) G j * 2 + 1) (by omega)
                go_wp2
                go_quiet (fail)
                go_wp2
                go_quiet (fail)
                go_wp2
                go_roundw
                case rel =>
                  have hu2 := up2_0 H x (wrap32 (z1 + d)) (wrap32 (z2 - 1))
                  have hke := HR.out.inv.keep HX.out HHit.out.1 (fun h => by have := HHit.out.2.1.2 h; omega) ⟨hu2.1.trans HHit.out.2.2.1, hu2.2.1.trans HHit.out.2.2.2.1, hu2.2.2.trans HHit.out.2.2.2.2⟩ (up2_o H x (wrap32 (z1 + d)) (wrap32 (z2 - 1)))
                  have hkr := HR.out.kr.keep hke.2
                  rw [HX.out, HUu.out] at hkr
                  exact ⟨j + 1, _, _, by rw [kn_keep hke.2], by go_num, by omega, (((((((HR.out.it.alloc _).drewN _).rset (x * 3 + 1) _).rset (x * 3 + 2) _).setOther n1 _).setOther n1 _).alloc _),
                    (((((((HR.out.row.alloc _).drewN _).setOther n2 _).setOther n2 _).rset (kn (F q) G j * 2) x).rset (kn (F q) G j * 2 + 1) u).alloc _), hke.1, hkr,
                    (((((((HR.out.kept.alloc _).drewN _).set (.inl (.inl rfl)) _).set (.inl (.inl rfl)) _).set (.inl (.inr rfl)) _).set (.inl (.inr rfl)) _).alloc _)⟩
                case measure => simp [intOf]; omega
            · obtain ⟨z0, hz0⟩ : ∃ z0, H (x * 3) = z0 := ⟨_, rfl⟩
              have HE := hide he
              rw [hz0] at i0 he
              have e1 : (z0 != u) = true := by simpa using he
              clear he hz0
              go_wp2
              go_quiet (fail)
              go_wp2
              go_quiet (fail)
              go_wp2
              go_roundw
              case rel =>
                have hsk := HR.out.inv.skip HX.out hxn HU.out (by rw [HUu.out]; exact HE.out)
                exact ⟨j + 1, H, R, by rw [kn_skip hsk.2], by go_num, by omega, (HR.out.it.alloc _).drewN _, (HR.out.row.alloc _).drewN _, hsk.1, HR.out.kr.skip hsk.2, (HR.out.kept.alloc _).drewN _⟩
              case measure => simp [intOf]; omega
          · obtain rfl : j = L q := by omega
            have hwB := HNP.out.whole.kept HR.out.kept (by omega)
            have y3 : wr.cell? ⟨bh, 3, none⟩ = some (.slice (some ⟨bo, 0, none⟩) m m) := HbB.out.cell 3
            have y4 := hwB.fcell q hqm
            have y5 := hwB.free
            clear hwB
            go_wp2
            first | go_end0 | ((try simp only [Exit.inBlock, Exit.then]); refine bodyPost_ret (results_none rfl _ _ _) rfl ?_)
            refine ⟨rfl, tn, rfl, H, upd L q (kn (F q) G (L q)), upd F q R, L, ?_⟩
            rw [HPn.out]
            have hib := HR.out.it.setOther (a := ⟨bo, q, none⟩) (show bi ≠ bo by omega) (.slice (some ⟨bl, 0, none⟩) (kn (F q) G (L q)) (L q))
            exact stp_mk HNP.out hbo hqm HLa.out hbl (HR.out.kept.mono fun k _ hk => by omega) HR.out.row (.inr ⟨bi, 0, rfl, hib.lt, fun c hc => by rw [Nat.zero_add]; exact hib.rcell c hc⟩) HR.out.inv HR.out.kr
end Go.Proofs.Qxb6605516a
