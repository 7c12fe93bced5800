import Derived.Test.Qxb6605516aHwE
namespace Go.Proofs.Qxb6605516a
open Go.RowKit
set_option linter.unusedVariables false

/-- Integers that lie below block B. -/
def IRowB (w : World) (B : Nat) (a : Option Addr) (len sz : Nat) (F : Nat → Int) : Prop :=
  len = 0 ∨ ∃ b off, a = some ⟨b, off, none⟩ ∧ b < B ∧ b < w.heap.size ∧ ∀ c, c < len * sz → w.cell? ⟨b, off + c, none⟩ = some (.int .i32 (F c))
theorem IRow.b {w w' : World} {a : Option Addr} {len sz : Nat} {F : Nat → Int} (h : IRow w a len sz F) (hb : Below w.heap.size w w') : IRowB w' w.heap.size a len sz F := by
  rcases h with h | ⟨b, off, rfl, hlt, hc⟩
  · exact .inl h
  · exact .inr ⟨b, off, rfl, hlt, Nat.lt_of_lt_of_le hlt hb.size, fun c hcl => by rw [hb.cell hlt]; exact hc c hcl⟩
theorem IRowB.below {w w' : World} {B : Nat} {a : Option Addr} {len sz : Nat} {F : Nat → Int} (h : IRowB w B a len sz F) (hb : Below B w w') : IRowB w' B a len sz F := by
  rcases h with h | ⟨b, off, rfl, hlt, hl2, hc⟩
  · exact .inl h
  · exact .inr ⟨b, off, rfl, hlt, Nat.lt_of_lt_of_le hl2 hb.size, fun c hcl => by rw [hb.cell hlt]; exact hc c hcl⟩
theorem IRowB.irow {w : World} {B : Nat} {a : Option Addr} {len sz : Nat} {F : Nat → Int} (h : IRowB w B a len sz F) : IRow w a len sz F := by
  rcases h with h | ⟨b, off, rfl, hlt, hl2, hc⟩
  · exact .inl h
  · exact .inr ⟨b, off, rfl, hl2, hc⟩
/-- Three rows behind the first if. -/
structure Sm1 (w w' : World) (s1 s2 s3 : Value) (a : Option Addr) (n : Nat) (F : Nat → Int) (p1 p2 p3 : Option Addr) : Prop where
  s1 : s1 = .slice p1 n n
  s2 : s2 = .slice p2 n n
  s3 : s3 = .slice p3 n n
  n1 : p1 = none ↔ a = none
  r1 : IRow w' p1 n 1 (fun i => F (i * 3))
  r2 : IRow w' p2 n 1 (fun i => F (i * 3 + 1))
  r3 : IRow w' p3 n 1 (fun i => F (i * 3 + 2))
  bel : Below w.heap.size w w'
/-- .. in the making. -/
structure Sm1p (w : World) (n : Nat) (F : Nat → Int) (s : Value) (wr : World) (i : Nat) (R1 R2 R3 : Nat → Int) : Prop where
  s : s = .int .i64 i
  hi : i ≤ n
  b1 : Blk wr w.heap.size (irow .i32 n R1) 21
  b2 : Blk wr (w.heap.size + 1) (irow .i32 n R2) 21
  b3 : Blk wr (w.heap.size + 2) (irow .i32 n R3) 21
  eq : ∀ c, c < i → R1 c = F (c * 3) ∧ R2 c = F (c * 3 + 1) ∧ R3 c = F (c * 3 + 2)
  bel : Below w.heap.size w wr
theorem irow_of {w : World} {b n : Nat} {F R : Nat → Int} {T : TypeId} (h : Blk w b (irow .i32 n R) T) (e : ∀ c, c < n → R c = F c) : IRow w (some ⟨b, 0, none⟩) n 1 F :=
  .inr ⟨b, 0, rfl, h.lt, fun c hc => by rw [Nat.zero_add, h.rcell c (by omega), e c (by omega)]⟩
theorem Sm1p.done {w wr : World} {n : Nat} {F R1 R2 R3 : Nat → Int} {s : Value} (h : Sm1p w n F s wr n R1 R2 R3) (x : Addr) : Sm1 w wr (.slice (some ⟨w.heap.size, 0, none⟩) n n) (.slice (some ⟨w.heap.size + 1, 0, none⟩) n n) (.slice (some ⟨w.heap.size + 2, 0, none⟩) n n) (some x) n F (some ⟨w.heap.size, 0, none⟩) (some ⟨w.heap.size + 1, 0, none⟩) (some ⟨w.heap.size + 2, 0, none⟩) :=
  ⟨rfl, rfl, rfl, by simp, irow_of h.b1 fun c hc => (h.eq c hc).1, irow_of h.b2 fun c hc => (h.eq c hc).2.1, irow_of h.b3 fun c hc => (h.eq c hc).2.2, h.bel⟩
theorem made3rows (w : World) (n : Nat) : Blk (((w.alloc (.cells (madeCells #[.int .i32 0] n) 21)).alloc (.cells (madeCells #[.int .i32 0] n) 21)).alloc (.cells (madeCells #[.int .i32 0] n) 21)) w.heap.size (irow .i32 n (fun _ => 0)) 21 ∧
    Blk (((w.alloc (.cells (madeCells #[.int .i32 0] n) 21)).alloc (.cells (madeCells #[.int .i32 0] n) 21)).alloc (.cells (madeCells #[.int .i32 0] n) 21)) (w.heap.size + 1) (irow .i32 n (fun _ => 0)) 21 ∧
    Blk (((w.alloc (.cells (madeCells #[.int .i32 0] n) 21)).alloc (.cells (madeCells #[.int .i32 0] n) 21)).alloc (.cells (madeCells #[.int .i32 0] n) 21)) (w.heap.size + 2) (irow .i32 n (fun _ => 0)) 21 := by
  refine ⟨((Blk.made w .i32 n 21).alloc _).alloc _, ?_, ?_⟩
  · have := (Blk.made (w.alloc (.cells (madeCells #[.int .i32 0] n) 21)) .i32 n 21).alloc (.cells (madeCells #[.int .i32 0] n) 21)
    rwa [alloc_size] at this
  · have := Blk.made ((w.alloc (.cells (madeCells #[.int .i32 0] n) 21)).alloc (.cells (madeCells #[.int .i32 0] n) 21)) .i32 n 21
    rwa [alloc_size, alloc_size] at this
/-- Two slices of rows behind the second if. -/
structure Sm2 (w w' : World) (s1 s2 : Value) (a : Option Addr) (m : Nat) (L : Nat → Nat) (F : Nat → Nat → Int) (la : Nat → Option Addr) (p1 p2 : Option Addr) (l1 l2 : Nat → Option Addr) (k1 k2 : Nat → Nat) : Prop where
  s1 : s1 = .slice p1 m m
  s2 : s2 = .slice p2 m m
  n1 : p1 = none ↔ a = none
  r1 : Nst w' p1 m 1 L (fun i j => F i (j * 2)) l1 k1
  r2 : Nst w' p2 m 1 L (fun i j => F i (j * 2 + 1)) l2 k2
  z1 : ∀ i, i < m → (l1 i = none ↔ la i = none)
  bel : Below w.heap.size w w'
structure Sm2p (w : World) (m : Nat) (L : Nat → Nat) (F : Nat → Nat → Int) (la : Nat → Option Addr) (s : Value) (wr : World) (i : Nat) (l1 l2 : Nat → Option Addr) : Prop where
  s : s = .int .i64 i
  hi : i ≤ m
  n1 : NPart wr w.heap.size (w.heap.size + 2) m 1 35 21 L (fun i j => F i (j * 2)) (fun i => la i = none) i l1
  n2 : NPart wr (w.heap.size + 1) (w.heap.size + 2) m 1 35 21 L (fun i j => F i (j * 2 + 1)) (fun i => la i = none) i l2
  bel : Below w.heap.size w wr
/-- Two rows in the making. -/
structure CP2 (w : World) (n : Nat) (F : Nat → Int) (s : Value) (wr : World) (i : Nat) (R1 R2 : Nat → Int) : Prop where
  s : s = .int .i64 i
  hi : i ≤ n
  b1 : Blk wr w.heap.size (irow .i32 (n * 1) R1) 21
  b2 : Blk wr (w.heap.size + 1) (irow .i32 (n * 1) R2) 21
  eq : ∀ c, c < i → R1 c = F (c * 2) ∧ R2 c = F (c * 2 + 1)
  bel : Below w.heap.size w wr
theorem CP2.start (w : World) (n : Nat) (F : Nat → Int) : CP2 w n F (.int .i64 0) ((w.alloc (.cells (madeCells #[.int .i32 0] n) 21)).alloc (.cells (madeCells #[.int .i32 0] n) 21)) 0 (fun _ => 0) (fun _ => 0) := by
  refine ⟨rfl, by omega, ?_, ?_, fun c hc => by omega, ((Below.refl _ _).alloc (Nat.le_refl _) _).alloc (by simp) _⟩
  · rw [Nat.mul_one]; exact (Blk.made w .i32 n 21).alloc _
  · rw [Nat.mul_one]
    have := Blk.made (w.alloc (.cells (madeCells #[.int .i32 0] n) 21)) .i32 n 21
    rwa [alloc_size] at this
theorem CP2.w1 {w wr : World} {n : Nat} {F R1 R2 : Nat → Int} {s : Value} (h : CP2 w n F s wr n R1 R2) : Blk wr w.heap.size (irow .i32 (n * 1) (fun j => F (j * 2))) 21 := by
  rw [irow_congr .i32 (n * 1) (fun j => F (j * 2)) R1 (fun c hc => (h.eq c (by omega)).1.symm)]; exact h.b1
theorem CP2.w2 {w wr : World} {n : Nat} {F R1 R2 : Nat → Int} {s : Value} (h : CP2 w n F s wr n R1 R2) : Blk wr (w.heap.size + 1) (irow .i32 (n * 1) (fun j => F (j * 2 + 1))) 21 := by
  rw [irow_congr .i32 (n * 1) (fun j => F (j * 2 + 1)) R2 (fun c hc => (h.eq c (by omega)).2.symm)]; exact h.b2
theorem NPart.zcongr {w : World} {bo lo m sz : Nat} {T1 T2 : TypeId} {L : Nat → Nat} {F : Nat → Nat → Int} {zz zz' : Nat → Prop} {i : Nat} {la : Nat → Option Addr} (h : NPart w bo lo m sz T1 T2 L F zz i la) (e : ∀ j, j < i → (zz j ↔ zz' j)) : NPart w bo lo m sz T1 T2 L F zz' i la :=
  ⟨h.hd, h.el, fun j hj => (h.nz j hj).trans (e j hj), h.inj⟩
theorem Hold.zcongr {w : World} {bh : Nat} {ask keep ep : Int} {ia : Option Addr} {ni : Nat} {G : Nat → Int} {ha : Option Addr} {m : Nat} {L : Nat → Nat} {F : Nat → Nat → Int} {zz zz' : Nat → Prop} {la : Nat → Option Addr} {lv fv : Value} (h : Hold w bh ask keep ep ia ni G ha m L F zz la lv fv) (e : ∀ j, j < m → (zz j ↔ zz' j)) : Hold w bh ask keep ep ia ni G ha m L F zz' la lv fv := by
  refine ⟨h.blk, h.it, ?_⟩
  rcases h.ls with h1 | ⟨bo, h1, h2, h3, h4⟩
  · exact .inl h1
  · exact .inr ⟨bo, h1, h2, h3, h4.zcongr e⟩
/-- What stepMake hands back. -/
structure SMade (w w' : World) (e : Ending) (ask keep ep : Int) (a2 : Option Addr) (ni : Nat) (G : Nat → Int) (a3 : Option Addr) (m : Nat) (L : Nat → Nat) (F : Nat → Nat → Int) (la : Nat → Option Addr) (a4 : Option Addr) (n4 : Nat) (LO : Nat → Int) (a5 : Option Addr) (n5 : Nat) (FF : Nat → Int) (bh : Nat) (ia ha : Option Addr) (la' : Nat → Option Addr) (o4 : Option Addr) (c4 : Nat) (o5 : Option Addr) (c5 : Nat) : Prop where
  ret : e = .returned (.pointer (some ⟨bh, 0, none⟩))
  hold : Hold w' bh ask keep ep ia ni G ha m L F (fun i => la i = none) la' (.slice o4 n4 c4) (.slice o5 n5 c5)
  y2 : ia = none ↔ a2 = none
  y3 : ha = none ↔ a3 = none
  y4 : o4 = none ↔ a4 = none
  y5 : o5 = none ↔ a5 = none
  r4 : IRowB w' bh o4 n4 1 LO
  r5 : IRowB w' bh o5 n5 1 FF
  hb : w.heap.size ≤ bh
  bel : Below w.heap.size w w'

set_option maxRecDepth 8000 in
set_option maxHeartbeats 2000000 in
theorem stepmake_any (ask keep ep : Int) (a2 : Option Addr) (ni c2 : Nat) (a3 : Option Addr) (m c3 : Nat) (a4 : Option Addr) (n4 c4 : Nat) (a5 : Option Addr) (n5 c5 : Nat) (G : Nat → Int) (L : Nat → Nat) (F : Nat → Nat → Int) (la : Nat → Option Addr) (lc : Nat → Nat) (LO FF : Nat → Int) (w : World)
    (hni : ni ≤ 65536) (hm : m ≤ 65536) (h4n : n4 ≤ 65536) (h5n : n5 ≤ 65536) (hL : ∀ i, i < m → L i ≤ 1048576) (z2 : a2 = none → ni = 0) (z3 : a3 = none → m = 0) (z4 : a4 = none → n4 = 0) (z5 : a5 = none → n5 = 0)
    (h2 : IRow w a2 ni 3 G) (h3 : Nst w a3 m 2 L F la lc) (h4 : IRow w a4 n4 1 LO) (h5 : IRow w a5 n5 1 FF) :
    Calls Try.prog 26 #[.int .i32 ask, .int .i32 keep, .slice a2 ni c2, .slice a3 m c3, .slice a4 n4 c4, .slice a5 n5 c5, .int .i32 ep] w fun e w' => ∃ bh ia ha la' o4 c4' o5 c5', SMade w w' e ask keep ep a2 ni G a3 m L F la a4 n4 LO a5 n5 FF bh ia ha la' o4 c4' o5 c5' := by
  have H2 := hide h2
  have H3 := hide h3
  have H4 := hide h4
  have H5 := hide h5
  have HL := hide hL
  have Z2 := hide z2
  have Z3 := hide z3
  have Z4 := hide z4
  have Z5 := hide z5
  clear h2 h3 h4 h5 hL z2 z3 z4 z5
  go_enter Try.func26, Try.ntmps26
  go_upto_region 2 with fail
  go_cut [26] (fun c w' => (∃ b : Bool, c = .bool b ∧ (b = false ↔ a2 = none)) ∧ w' = w)
  case first =>
    cases a2 with
    | none =>
      have hnil := neq_nil 44 62 none ni c2 Try.underlying44
      go_wp2
      go_meet
      case rel => exact ⟨⟨_, rfl, by simp⟩, rfl⟩
    | some x =>
      have hnil := neq_nil 44 62 (some x) ni c2 Try.underlying44
      go_wp2
      go_meet
      case rel => exact ⟨⟨_, rfl, by simp⟩, rfl⟩
  obtain ⟨⟨b, rfl, hb⟩, rfl⟩ := hcut
  rename World => w
  have Hb := hide hb
  clear hb
  go_step
  go_cut [15, 16, 17] (fun s1 s2 s3 w' => ∃ p1 p2 p3, Sm1 w w' s1 s2 s3 a2 ni G p1 p2 p3)
  case first =>
    cases b
    · have h2n : a2 = none := Hb.out.1 rfl
      have hz := Z2.out h2n
      have HN := hide h2n
      clear h2n
      subst hz
      go_wp2
      go_meet
      case rel => exact ⟨none, none, none, rfl, rfl, rfl, by simp [HN.out], .inl rfl, .inl rfl, .inl rfl, Below.refl _ _⟩
    · obtain ⟨x, rfl⟩ : ∃ x, a2 = some x := by
        cases a2 with
        | none => have := Hb.out.2 rfl; simp at this
        | some x => exact ⟨x, rfl⟩
      have hmk := make_i32 ni (by omega)
      go_wp2
      clear hmk
      go_loopw [18] (fun s wr => ∃ (i : Nat) (R1 R2 R3 : Nat → Int), Sm1p w ni G s wr i R1 R2 R3) (fun s _ => ni - (intOf s).toNat)
      case atStart => exact ⟨0, _, _, _, rfl, by omega, (made3rows _ _).1, (made3rows _ _).2.1, (made3rows _ _).2.2, fun c hc => by omega, (((Below.refl _ _).alloc (Nat.le_refl _) _).alloc (by simp) _).alloc (by simp; omega) _⟩
      case round =>
        obtain ⟨i, R1, R2, R3, hR⟩ := hrel
        have HR := hide hR
        obtain rfl := hR.s
        have hi := hR.hi
        clear hR
        by_cases hlt : i < ni
        · rcases H2.out with h0 | ⟨b2, o2, hx, hbl2, hc2⟩
          · omega
          simp only [Option.some.injEq] at hx
          subst hx
          have e0 := (HR.out.bel.cell (p := ⟨b2, o2 + i * 3, none⟩) hbl2).trans (IRow.cell hc2 (i * 3) (by omega))
          have e1 := (HR.out.bel.cell (p := ⟨b2, o2 + (i * 3 + 1), none⟩) hbl2).trans (IRow.cell hc2 (i * 3 + 1) (by omega))
          have e2 := (HR.out.bel.cell (p := ⟨b2, o2 + (i * 3 + 2), none⟩) hbl2).trans (IRow.cell hc2 (i * 3 + 2) (by omega))
          rw [← Nat.add_assoc] at e1 e2
          clear hc2
          have d1 := HR.out.b1.rcell i hlt
          have d2 := HR.out.b2.rcell i hlt
          have d3 := HR.out.b3.rcell i hlt
          have f1 := HR.out.b1.free
          have f2 := HR.out.b2.free
          have f3 := HR.out.b3.free
          have n1 : b2 ≠ w.heap.size := by omega
          have n2 : b2 ≠ w.heap.size + 1 := by omega
          have n3 : b2 ≠ w.heap.size + 2 := by omega
          have m01 : w.heap.size ≠ w.heap.size + 1 := by omega
          have m02 : w.heap.size ≠ w.heap.size + 2 := by omega
          have m12 : w.heap.size + 1 ≠ w.heap.size + 2 := by omega
          go_wp2
          go_roundw
          case rel =>
            refine ⟨i + 1, _, _, _, by go_num, by omega, ((HR.out.b1.rset i (G (i * 3))).setOther m01 _).setOther m02 _, ((HR.out.b2.setOther m01.symm _).rset i (G (i * 3 + 1))).setOther m12 _, ((HR.out.b3.setOther m02.symm _).setOther m12.symm _).rset i (G (i * 3 + 2)), fun c hc => ?_, ((HR.out.bel.setCell (Nat.le_refl _) _).setCell (Nat.le_add_right _ 1) _).setCell (Nat.le_add_right _ 2) _⟩
            unfold upd
            by_cases e : c = i
            · subst e; simp
            · rw [if_neg e, if_neg e, if_neg e]; exact HR.out.eq c (by omega)
          case measure => simp [intOf]; omega
        · obtain rfl : i = ni := by omega
          go_wp2
          go_meet
          case rel => exact ⟨_, _, _, HR.out.done x⟩
  obtain ⟨p1, p2, p3, hS1⟩ := hcut
  rename World => w1
  obtain rfl := hS1.s1
  obtain rfl := hS1.s2
  obtain rfl := hS1.s3
  have HS1 := hide hS1
  clear hS1 Hb
  go_upto_region 13 with fail
  go_cut [67] (fun c w' => (∃ b : Bool, c = .bool b ∧ (b = false ↔ a3 = none)) ∧ w' = w1)
  case first =>
    cases a3 with
    | none =>
      have hnil := neq_nil 45 64 none m c3 Try.underlying45
      go_wp2
      go_meet
      case rel => exact ⟨⟨_, rfl, by simp⟩, rfl⟩
    | some x =>
      have hnil := neq_nil 45 64 (some x) m c3 Try.underlying45
      go_wp2
      go_meet
      case rel => exact ⟨⟨_, rfl, by simp⟩, rfl⟩
  obtain ⟨⟨b, rfl, hb⟩, rfl⟩ := hcut
  rename World => w1
  have Hb := hide hb
  clear hb
  go_step
  go_cut [19, 20] (fun s1 s2 w' => ∃ q1 q2 l1 l2 k1 k2, Sm2 w1 w' s1 s2 a3 m L F la q1 q2 l1 l2 k1 k2)
  case first =>
    cases b
    · have h3n : a3 = none := Hb.out.1 rfl
      have hz := Z3.out h3n
      have HN := hide h3n
      clear h3n
      subst hz
      go_wp2
      go_meet
      case rel => exact ⟨none, none, fun _ => none, fun _ => none, fun _ => 0, fun _ => 0, rfl, rfl, by simp [HN.out], ⟨.inl rfl, fun i hi => by omega, fun i hi => by omega⟩, ⟨.inl rfl, fun i hi => by omega, fun i hi => by omega⟩, fun i hi => by omega, Below.refl _ _⟩
    · obtain ⟨x, rfl⟩ : ∃ x, a3 = some x := by
        cases a3 with
        | none => have := Hb.out.2 rfl; simp at this
        | some x => exact ⟨x, rfl⟩
      have hmk := make_h55 m (by omega)
      have H3c := hide (H3.out.below HS1.out.bel)
      go_wp2
      clear hmk
      go_loopw [21] (fun s wr => ∃ (i : Nat) (l1 l2 : Nat → Option Addr), Sm2p w1 m L F la s wr i l1 l2) (fun s _ => m - (intOf s).toNat)
      case atStart =>
        refine ⟨0, _, _, rfl, by omega, NPart.start ((Blk.new _ _ _).alloc _), NPart.start ?_, ((Below.refl _ _).alloc (Nat.le_refl _) _).alloc (by simp) _⟩
        have := Blk.new (w1.alloc (.cells (fc m nilS) 35)) (fc m nilS) 35
        rwa [alloc_size] at this
      case round =>
        obtain ⟨i, l1, l2, hR⟩ := hrel
        rename World => wo
        have HR := hide hR
        obtain rfl := hR.s
        have hi := hR.hi
        clear hR
        by_cases hlt : i < m
        · rcases H3c.out.hd with h0 | ⟨b3, o3, hx, hbl3, hc3⟩
          · omega
          simp only [Option.some.injEq] at hx
          subst hx
          have g3 : wo.cell? ⟨b3, o3 + i, none⟩ = some (.slice (la i) (L i) (lc i)) := (HR.out.bel.cell (p := ⟨b3, o3 + i, none⟩) hbl3).trans (hc3 i (by omega))
          have hl3 : b3 < wo.heap.size := Nat.lt_of_lt_of_le hbl3 HR.out.bel.size
          clear hc3
          by_cases hz : la i = none
          · have hl0 := H3.out.zl i hlt hz
            rw [hz, hl0] at g3
            have HZ := hide hz
            have HL0 := hide hl0
            clear hz hl0
            have hnil := fun w => Lib.run_eql_slice_nil (P := Try.prog) w 64 66 none 0 (lc i) 0 0 Try.underlying64
            go_wp2
            go_roundw
            case rel => exact ⟨i + 1, _, _, by go_num, by omega, HR.out.n1.nil HZ.out HL0.out, HR.out.n2.nil HZ.out HL0.out, HR.out.bel⟩
            case measure => simp [intOf]; omega
          · obtain ⟨y, hy⟩ : ∃ y, la i = some y := Option.ne_none_iff_exists'.1 hz
            have HE := hide (SlA.below (H3c.out.el i hlt) HR.out.bel)
            rw [hy] at g3 HE
            have HZ := hide hz
            clear hz hy
            have hLi := HL.out i hlt
            have hnil := fun w => Lib.run_eql_slice_nil (P := Try.prog) w 64 66 (some y) (L i) (lc i) 0 0 Try.underlying64
            have hmk := make_i32 (L i) (by omega)
            go_wp2
            clear hmk hnil
            go_loopw [24] (fun s wi => ∃ (j : Nat) (R1 R2 : Nat → Int), CP2 wo (L i) (F i) s wi j R1 R2) (fun s _ => L i - (intOf s).toNat)
            case atStart => exact ⟨0, _, _, CP2.start _ _ _⟩
            case round =>
              obtain ⟨j, R1, R2, hR⟩ := hrel
              have HJ := hide hR
              obtain rfl := hR.s
              have hj := hR.hi
              clear hR
              have k3 := (HJ.out.bel.cell (p := ⟨b3, o3 + i, none⟩) hl3).trans g3
              clear g3
              by_cases hjl : j < L i
              · rcases HE.out with h0 | ⟨b2, off2, hx, hbl2, hc⟩
                · omega
                simp only [Option.some.injEq] at hx
                subst hx
                have e0 := (HJ.out.bel.cell (p := ⟨b2, off2 + j * 2, none⟩) hbl2).trans (IRow.cell hc (j * 2) (by omega))
                have e1 := (HJ.out.bel.cell (p := ⟨b2, off2 + (j * 2 + 1), none⟩) hbl2).trans (IRow.cell hc (j * 2 + 1) (by omega))
                rw [← Nat.add_assoc] at e1
                clear hc
                have d0 := HJ.out.b1.rcell j (by omega)
                have d1 := HJ.out.b2.rcell j (by omega)
                have f0 := HJ.out.b1.free
                have f1 := HJ.out.b2.free
                have n1 : b2 ≠ wo.heap.size := by omega
                have n2 : b3 ≠ wo.heap.size := by omega
                have m01 : wo.heap.size ≠ wo.heap.size + 1 := by omega
                go_wp2
                go_roundw
                case rel =>
                  refine ⟨j + 1, _, _, by go_num, by omega, (HJ.out.b1.rset j (F i (j * 2))).setOther m01 _, (HJ.out.b2.setOther m01.symm _).rset j (F i (j * 2 + 1)), fun c hc => ?_, (HJ.out.bel.setCell (Nat.le_refl _) _).setCell (Nat.le_add_right _ 1) _⟩
                  unfold upd
                  by_cases e : c = j
                  · subst e; simp
                  · rw [if_neg e, if_neg e]; exact HJ.out.eq c (by omega)
                case measure => simp [intOf]; omega
              · obtain rfl : j = L i := by omega
                have hlt0 := HR.out.n2.hd.lt
                have HN1 := hide (HR.out.n1.below HJ.out.bel)
                have HN2 := hide (HR.out.n2.below HJ.out.bel)
                have hd1 := HN1.out.hd.fcell i hlt
                have hd2 := HN2.out.hd.fcell i hlt
                rw [if_neg (by omega)] at hd1 hd2
                have hf1 := HN1.out.hd.free
                have hf2 := HN2.out.hd.free
                have m01 : w1.heap.size ≠ w1.heap.size + 1 := by omega
                have m0 : w1.heap.size < w1.heap.size + 2 := by omega
                have m1 : w1.heap.size + 1 < w1.heap.size + 2 := by omega
                have m3 : wo.heap.size + 1 ≠ w1.heap.size := by omega
                have HFr1 := hide (HR.out.n1.fresh (bl := wo.heap.size) (Nat.le_refl _))
                have HFr2 := hide (HR.out.n2.fresh (bl := wo.heap.size + 1) (by omega))
                go_wp2
                go_roundw
                case rel =>
                  refine ⟨i + 1, _, _, by go_num, by omega, (HN1.out.set HFr1.out HJ.out.w1 (by omega) (by omega) (by omega) HZ.out).other (p := ⟨w1.heap.size + 1, i, none⟩) m1 m01 _, (HN2.out.other (p := ⟨w1.heap.size, i, none⟩) m0 m01.symm _).set HFr2.out (HJ.out.w2.setOther (a := ⟨w1.heap.size, i, none⟩) m3 _) (by omega) (by omega) (by omega) HZ.out, ((HR.out.bel.trans (HJ.out.bel.mono HR.out.bel.size)).setCell (Nat.le_refl _) _).setCell (Nat.le_add_right _ 1) _⟩
                case measure => simp [intOf]; omega
        · obtain rfl : i = m := by omega
          go_wp2
          go_meet
          case rel => exact ⟨_, _, _, _, _, _, rfl, rfl, by simp, HR.out.n1.nst, HR.out.n2.nst, HR.out.n1.nz, HR.out.bel⟩
  obtain ⟨q1, q2, l1, l2, k1, k2, hS2⟩ := hcut
  rename World => w2
  obtain rfl := hS2.s1
  obtain rfl := hS2.s2
  have HS2 := hide hS2
  have HB2 := hide (HS1.out.bel.trans (hS2.bel.mono HS1.out.bel.size))
  clear hS2 Hb
  go_step
  go_wp2_with fail
  refine (clonei32_any a4 n4 c4 LO (by omega) w2 Z4.out (SlA.below H4.out HB2.out)).mono ?_
  rintro e w3 ⟨o4, d4, hC4⟩
  have HC4 := hide hC4
  obtain rfl := hC4.ret
  clear hC4
  go_wp2_with fail
  refine (clonei32_any a5 n5 c5 FF (by omega) w3 Z5.out (SlA.below H5.out (HB2.out.trans (HC4.out.bel.mono HB2.out.size)))).mono ?_
  rintro e w4 ⟨o5, d5, hC5⟩
  have HC5 := hide hC5
  obtain rfl := hC5.ret
  clear hC5
  have HB24 := hide (HC4.out.bel.trans (HC5.out.bel.mono HC4.out.bel.size))
  have HB14 := hide (HS2.out.bel.trans (HB24.out.mono HS2.out.bel.size))
  have Z1' : p1 = none → ni = 0 := fun e => Z2.out (HS1.out.n1.1 e)
  have Z2' : q1 = none → m = 0 := fun e => Z3.out (HS2.out.n1.1 e)
  go_wp2_with fail
  refine (hwmake_any ask keep ep p1 ni ni p2 ni p3 ni q1 m m q2 m o4 n4 d4 o5 n5 d5 (fun i => G (i * 3)) (fun i => G (i * 3 + 1)) (fun i => G (i * 3 + 2)) L (fun i j => F i (j * 2)) (fun i j => F i (j * 2 + 1)) l1 l2 k1 k2 w4 hni hm HL.out Z1' Z2'
    (SlA.below HS1.out.r1 HB14.out) (SlA.below HS1.out.r2 HB14.out) (SlA.below HS1.out.r3 HB14.out) (HS2.out.r1.below HB24.out) (HS2.out.r2.below HB24.out)).mono ?_
  rintro e w5 ⟨ia, ha, la', hM⟩
  have HM := hide hM
  obtain rfl := hM.ret
  clear hM
  go_wp2
  go_ret
  refine ⟨w4.heap.size, ia, ha, la', o4, d4, o5, d5, rfl, ?_, HM.out.n1.trans HS1.out.n1, HM.out.n2.trans HS2.out.n1, HC4.out.nl, HC5.out.nl, ?_, ?_, ?_, ?_⟩
  · have h := HM.out.hold
    rw [sh3_flat] at h
    have e : (fun i => en2 (fun j => F i (j * 2)) (fun j => F i (j * 2 + 1))) = F := by funext i; exact en2_flat (F i)
    rw [e] at h
    exact h.zcongr HS2.out.z1
  · exact IRow.b (SlA.below HC4.out.row.irow HC5.out.bel) HM.out.bel
  · exact IRow.b HC5.out.row.irow HM.out.bel
  · exact Nat.le_trans HB2.out.size HB24.out.size
  · exact (HB2.out.trans (HB24.out.mono HB2.out.size)).trans (HM.out.bel.mono (Nat.le_trans HB2.out.size HB24.out.size))
end Go.Proofs.Qxb6605516a
