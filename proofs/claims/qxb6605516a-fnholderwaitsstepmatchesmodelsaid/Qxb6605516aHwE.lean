import Derived.Test.Qxb6605516aHwD
import Derived.StillTailTactics
import Derived.Deep.RegionHeld3
namespace Go.Proofs.Qxb6605516a
open Go.RowKit
set_option linter.unusedVariables false

/-- Three rows as one. -/
def sh3 (E W S : Nat → Int) (c : Nat) : Int := if c % 3 = 0 then E (c / 3) else if c % 3 = 1 then W (c / 3) else S (c / 3)
theorem sh3_0 (E W S : Nat → Int) (i : Nat) : sh3 E W S (i * 3) = E i := by unfold sh3; rw [if_pos (by omega), show i * 3 / 3 = i from by omega]
theorem sh3_1 (E W S : Nat → Int) (i : Nat) : sh3 E W S (i * 3 + 1) = W i := by unfold sh3; rw [if_neg (by omega), if_pos (by omega), show (i * 3 + 1) / 3 = i from by omega]
theorem sh3_2 (E W S : Nat → Int) (i : Nat) : sh3 E W S (i * 3 + 2) = S i := by unfold sh3; rw [if_neg (by omega), if_neg (by omega), show (i * 3 + 2) / 3 = i from by omega]
theorem sh3_flat (F : Nat → Int) : sh3 (fun i => F (i * 3)) (fun i => F (i * 3 + 1)) (fun i => F (i * 3 + 2)) = F := by
  funext c
  unfold sh3
  rcases (show c % 3 = 0 ∨ c % 3 = 1 ∨ c % 3 = 2 from by omega) with e | e | e
  · rw [if_pos e]; exact congrArg F (by omega)
  · rw [if_neg (by omega), if_pos e]; exact congrArg F (by omega)
  · rw [if_neg (by omega), if_neg (by omega)]; exact congrArg F (by omega)
def en2 (I E : Nat → Int) (c : Nat) : Int := if c % 2 = 0 then I (c / 2) else E (c / 2)
theorem en2_0 (I E : Nat → Int) (i : Nat) : en2 I E (i * 2) = I i := by unfold en2; rw [if_pos (by omega), show i * 2 / 2 = i from by omega]
theorem en2_1 (I E : Nat → Int) (i : Nat) : en2 I E (i * 2 + 1) = E i := by unfold en2; rw [if_neg (by omega), show (i * 2 + 1) / 2 = i from by omega]
theorem en2_flat (F : Nat → Int) : en2 (fun i => F (i * 2)) (fun i => F (i * 2 + 1)) = F := by
  funext c
  unfold en2
  rcases (show c % 2 = 0 ∨ c % 2 = 1 from by omega) with e | e
  · rw [if_pos e]; exact congrArg F (by omega)
  · rw [if_neg (by omega)]; exact congrArg F (by omega)

def hCells (ask keep ep : Int) (iv hv lv fv : Value) : Array Value := #[.int .i32 ask, .int .i32 keep, iv, hv, lv, fv, .int .i32 ep]
/-- The holder waits in memory, as made. -/
structure Hold (w : World) (bh : Nat) (ask keep ep : Int) (ia : Option Addr) (ni : Nat) (G : Nat → Int) (ha : Option Addr) (m : Nat) (L : Nat → Nat) (F : Nat → Nat → Int) (zz : Nat → Prop) (la : Nat → Option Addr) (lv fv : Value) : Prop where
  blk : Blk w bh (hCells ask keep ep (.slice ia ni ni) (.slice ha m m) lv fv) 104
  it : (ia = none ∧ ni = 0) ∨ ∃ bi, ia = some ⟨bi, 0, none⟩ ∧ bh < bi ∧ Blk w bi (irow .i32 (ni * 3) G) 106
  ls : (ha = none ∧ m = 0) ∨ ∃ bo, ha = some ⟨bo, 0, none⟩ ∧ bh < bo ∧ (∀ bi, ia = some ⟨bi, 0, none⟩ → bi < bo) ∧ NPart w bo (bo + 1) m 2 107 109 L F zz m la
/-- Behind the first if. -/
structure Mk1 (w wr : World) (ask keep ep : Int) (ia : Option Addr) (ni : Nat) (G : Nat → Int) (lv fv : Value) : Prop where
  blk : Blk wr w.heap.size (hCells ask keep ep (.slice ia ni ni) (.slice none 0 0) lv fv) 104
  it : (ia = none ∧ ni = 0) ∨ ∃ bi, ia = some ⟨bi, 0, none⟩ ∧ w.heap.size < bi ∧ Blk wr bi (irow .i32 (ni * 3) G) 106
  bel : Below w.heap.size w wr
structure Mk0 (w wr : World) (ask keep ep : Int) (lv fv : Value) : Prop where
  blk : Blk wr w.heap.size (hCells ask keep ep (.slice none 0 0) (.slice none 0 0) lv fv) 104
  size : wr.heap.size = w.heap.size + 1
  bel : Below w.heap.size w wr
theorem neq_nil (t e : TypeId) (a : Option Addr) (n c : Nat) (h : Try.prog.underlying t = some (.slice e)) (w : World) : (binOp .neq t (.slice a n c) (.slice none 0 0)).run Try.prog w = .ok (.bool (!a.isNone)) w := by
  simp only [binOp]
  simp [Op.equal, Op.maxDepth, Lib.run_equalIn_slice_nil w 9999 t e a n c 0 0 h]
theorem Blk.newS (w : World) (p : Addr) (v : Value) (cs : Array Value) (t : TypeId) : Blk ((w.setCell p v).alloc (.cells cs t)) w.heap.size cs t := by
  have := Blk.new (w.setCell p v) cs t
  rwa [setCell_size] at this
/-- The items in the making. -/
structure MkI (w : World) (bi : Nat) (ask keep ep : Int) (ni : Nat) (G : Nat → Int) (lv fv : Value) (s : Value) (wr : World) (i : Nat) (R : Nat → Int) : Prop where
  s : s = .int .i64 i
  hi : i ≤ ni
  blk : Blk wr w.heap.size (hCells ask keep ep (.slice (some ⟨bi, 0, none⟩) ni ni) (.slice none 0 0) lv fv) 104
  row : Blk wr bi (irow .i32 (ni * 3) R) 106
  eq : ∀ c, c < i * 3 → R c = G c
  bel : Below w.heap.size w wr
/-- The lists in the making. -/
structure MkL (w w1 : World) (ask keep ep : Int) (ia : Option Addr) (ni : Nat) (G : Nat → Int) (m : Nat) (L : Nat → Nat) (F : Nat → Nat → Int) (zz : Nat → Prop) (lv fv : Value) (s : Value) (wr : World) (i : Nat) (la : Nat → Option Addr) : Prop where
  s : s = .int .i64 i
  hi : i ≤ m
  blk : Blk wr w.heap.size (hCells ask keep ep (.slice ia ni ni) (.slice (some ⟨w1.heap.size, 0, none⟩) m m) lv fv) 104
  it : (ia = none ∧ ni = 0) ∨ ∃ bi, ia = some ⟨bi, 0, none⟩ ∧ w.heap.size < bi ∧ bi < w1.heap.size ∧ Blk wr bi (irow .i32 (ni * 3) G) 106
  np : NPart wr w1.heap.size (w1.heap.size + 1) m 2 107 109 L F zz i la
  bel : Below w.heap.size w wr
theorem Mk1.it' {w wr : World} {ask keep ep : Int} {ia : Option Addr} {ni : Nat} {G : Nat → Int} {lv fv : Value} (h : Mk1 w wr ask keep ep ia ni G lv fv) (v : Value) (o : Obj) :
    (ia = none ∧ ni = 0) ∨ ∃ bi, ia = some ⟨bi, 0, none⟩ ∧ w.heap.size < bi ∧ bi < wr.heap.size ∧ Blk ((wr.setCell ⟨w.heap.size, 3, none⟩ v).alloc o) bi (irow .i32 (ni * 3) G) 106 := by
  rcases h.it with h1 | ⟨bi, h1, h2, h3⟩
  · exact .inl h1
  · exact .inr ⟨bi, h1, h2, h3.lt, (h3.setOther (by simp; omega) v).alloc o⟩
theorem MkL.it' {w w1 wr w2 : World} {ask keep ep : Int} {ia : Option Addr} {ni : Nat} {G : Nat → Int} {m : Nat} {L : Nat → Nat} {F : Nat → Nat → Int} {zz : Nat → Prop} {lv fv s : Value} {i : Nat} {la : Nat → Option Addr} (h : MkL w w1 ask keep ep ia ni G m L F zz lv fv s wr i la) (hb : Below wr.heap.size wr w2) (k : Nat) (v : Value) :
    (ia = none ∧ ni = 0) ∨ ∃ bi, ia = some ⟨bi, 0, none⟩ ∧ w.heap.size < bi ∧ bi < w1.heap.size ∧ Blk (w2.setCell ⟨w1.heap.size, k, none⟩ v) bi (irow .i32 (ni * 3) G) 106 := by
  rcases h.it with h1 | ⟨bi, h1, h2, h3, h4⟩
  · exact .inl h1
  · exact .inr ⟨bi, h1, h2, h3, (h4.below hb h4.lt).setOther (by simp; omega) v⟩
theorem MkL.hold {w w1 wr : World} {ask keep ep : Int} {ia : Option Addr} {ni : Nat} {G : Nat → Int} {m : Nat} {L : Nat → Nat} {F : Nat → Nat → Int} {zz : Nat → Prop} {lv fv s : Value} {la : Nat → Option Addr} (h : MkL w w1 ask keep ep ia ni G m L F zz lv fv s wr m la) (hw : w.heap.size < w1.heap.size) :
    Hold wr w.heap.size ask keep ep ia ni G (some ⟨w1.heap.size, 0, none⟩) m L F zz la lv fv := by
  refine ⟨h.blk, ?_, .inr ⟨_, rfl, hw, fun bi e => ?_, h.np⟩⟩
  · rcases h.it with h1 | ⟨bi, h1, h2, h3, h4⟩
    · exact .inl h1
    · exact .inr ⟨bi, h1, h2, h4⟩
  · rcases h.it with ⟨h1, -⟩ | ⟨bj, h1, h2, h3, h4⟩
    · rw [h1] at e; cases e
    · rw [h1] at e
      simp only [Option.some.injEq, Addr.mk.injEq] at e
      omega
/-- What Make hands back. -/
structure MadeH (w w' : World) (e : Ending) (ask keep ep : Int) (a2 : Option Addr) (ni : Nat) (G : Nat → Int) (a5 : Option Addr) (m : Nat) (L : Nat → Nat) (F : Nat → Nat → Int) (zz : Nat → Prop) (lv fv : Value) (ia ha : Option Addr) (la : Nat → Option Addr) : Prop where
  ret : e = .returned (.pointer (some ⟨w.heap.size, 0, none⟩))
  hold : Hold w' w.heap.size ask keep ep ia ni G ha m L F zz la lv fv
  n1 : ia = none ↔ a2 = none
  n2 : ha = none ↔ a5 = none
  bel : Below w.heap.size w w'
theorem Blk.h2 {w : World} {b : Nat} {ask keep ep : Int} {iv hv lv fv : Value} {T : TypeId} (h : Blk w b (hCells ask keep ep iv hv lv fv) T) (v : Value) : Blk (w.setCell ⟨b, 2, none⟩ v) b (hCells ask keep ep v hv lv fv) T := by
  have := h.set 2 v
  exact this
theorem Blk.h3 {w : World} {b : Nat} {ask keep ep : Int} {iv hv lv fv : Value} {T : TypeId} (h : Blk w b (hCells ask keep ep iv hv lv fv) T) (v : Value) : Blk (w.setCell ⟨b, 3, none⟩ v) b (hCells ask keep ep iv v lv fv) T := by
  have := h.set 3 v
  exact this

set_option maxRecDepth 8000 in
set_option maxHeartbeats 2000000 in
theorem hwmake_any (ask keep ep : Int) (a2 : Option Addr) (ni c2 : Nat) (a3 : Option Addr) (c3 : Nat) (a4 : Option Addr) (c4 : Nat) (a5 : Option Addr) (m c5 : Nat) (a6 : Option Addr) (c6 : Nat) (a7 : Option Addr) (n7 c7 : Nat) (a8 : Option Addr) (n8 c8 : Nat) (E W S : Nat → Int) (L : Nat → Nat) (FI FE : Nat → Nat → Int) (la5 la6 : Nat → Option Addr) (lc5 lc6 : Nat → Nat) (w : World)
    (hni : ni ≤ 65536) (hm : m ≤ 65536) (hL : ∀ i, i < m → L i ≤ 1048576) (z2 : a2 = none → ni = 0) (z5 : a5 = none → m = 0)
    (h2 : IRow w a2 ni 1 E) (h3 : IRow w a3 ni 1 W) (h4 : IRow w a4 ni 1 S) (h5 : Nst w a5 m 1 L FI la5 lc5) (h6 : Nst w a6 m 1 L FE la6 lc6) :
    Calls Try.prog 39 #[.int .i32 ask, .int .i32 keep, .slice a2 ni c2, .slice a3 ni c3, .slice a4 ni c4, .slice a5 m c5, .slice a6 m c6, .slice a7 n7 c7, .slice a8 n8 c8, .int .i32 ep] w fun e w' => ∃ ia ha la, MadeH w w' e ask keep ep a2 ni (sh3 E W S) a5 m L (fun i => en2 (FI i) (FE i)) (fun i => la5 i = none) (.slice a7 n7 c7) (.slice a8 n8 c8) ia ha la := by
  have H2 := hide h2
  have H3 := hide h3
  have H4 := hide h4
  have H5 := hide h5
  have H6 := hide h6
  have HL := hide hL
  have Z2 := hide z2
  have Z5 := hide z5
  clear h2 h3 h4 h5 h6 hL z2 z5
  go_enter Try.func39, Try.ntmps39
  go_upto_region 2 with fail
  go_cut [34] (fun c w' => (∃ b : Bool, c = .bool b ∧ (b = false ↔ a2 = none)) ∧ Mk0 w w' ask keep ep (.slice a7 n7 c7) (.slice a8 n8 c8))
  case first =>
    cases a2 with
    | none =>
      have hnil := neq_nil 35 21 none ni c2 Try.underlying35
      go_wp2
      go_meet
      case rel => exact ⟨⟨_, rfl, by simp⟩, Blk.new _ _ _, by simp, (Below.refl _ _).alloc (Nat.le_refl _) _⟩
    | some x =>
      have hnil := neq_nil 35 21 (some x) ni c2 Try.underlying35
      go_wp2
      go_meet
      case rel => exact ⟨⟨_, rfl, by simp⟩, Blk.new _ _ _, by simp, (Below.refl _ _).alloc (Nat.le_refl _) _⟩
  obtain ⟨⟨b, rfl, hb⟩, hM0⟩ := hcut
  have Hb := hide hb
  have HM0 := hide hM0
  clear hb hM0
  go_step
  go_cut [] (fun w' => ∃ ia, (ia = none ↔ a2 = none) ∧ Mk1 w w' ask keep ep ia ni (sh3 E W S) (.slice a7 n7 c7) (.slice a8 n8 c8))
  case first =>
    cases b
    · have h2n : a2 = none := Hb.out.1 rfl
      have hz := Z2.out h2n
      have HN := hide h2n
      clear h2n
      subst hz
      go_wp2
      go_meet
      case rel => exact ⟨none, by simp [HN.out], HM0.out.blk, .inl ⟨rfl, rfl⟩, HM0.out.bel⟩
    · obtain ⟨x, rfl⟩ : ∃ x, a2 = some x := by
        cases a2 with
        | none => have := Hb.out.2 rfl; simp at this
        | some x => exact ⟨x, rfl⟩
      have q2 : wc.cell? ⟨w.heap.size, 2, none⟩ = some (.slice none 0 0) := HM0.out.blk.cell 2
      have qf := HM0.out.blk.free
      have ql := HM0.out.blk.lt
      have hmk := make_sw ni (by omega)
      go_wp2
      clear hmk q2 qf
      go_loopw [46] (fun s wr => ∃ (i : Nat) (R : Nat → Int), MkI w wc.heap.size ask keep ep ni (sh3 E W S) (.slice a7 n7 c7) (.slice a8 n8 c8) s wr i R) (fun s _ => ni - (intOf s).toNat)
      case atStart => exact ⟨0, _, rfl, by omega, (HM0.out.blk.h2 _).alloc _, Blk.newS _ _ _ _ _, fun c hc => by omega, (HM0.out.bel.setCell (Nat.le_refl _) _).alloc (by rw [setCell_size]; exact HM0.out.bel.size) _⟩
      case round =>
        obtain ⟨i, R, hR⟩ := hrel
        have HR := hide hR
        obtain rfl := hR.s
        have hi := hR.hi
        clear hR
        by_cases hlt : i < ni
        · have q2 : wr.cell? ⟨w.heap.size, 2, none⟩ = some (.slice (some ⟨wc.heap.size, 0, none⟩) ni ni) := HR.out.blk.cell 2
          rcases SlA.below H2.out HR.out.bel with h0 | ⟨b2, o2, hx, hbl2, hc2⟩
          · omega
          simp only [Option.some.injEq] at hx
          subst hx
          rcases SlA.below H3.out HR.out.bel with h0 | ⟨b3, o3, rfl, hbl3, hc3⟩
          · omega
          rcases SlA.below H4.out HR.out.bel with h0 | ⟨b4, o4, rfl, hbl4, hc4⟩
          · omega
          have e0 := IRow.cell hc2 i (by omega)
          have e1 := IRow.cell hc3 i (by omega)
          have e2 := IRow.cell hc4 i (by omega)
          clear hc2 hc3 hc4
          have d0 := HR.out.row.rcell (i * 3) (by omega)
          have d1 := HR.out.row.rcell (i * 3 + 1) (by omega)
          have d2 := HR.out.row.rcell (i * 3 + 2) (by omega)
          have f0 := HR.out.row.free
          have hle : w.heap.size ≤ wc.heap.size := by omega
          go_wp2
          go_still_tail 19, (by kernel_rfl)
          go_wp2
          go_roundw
          case rel =>
            refine ⟨i + 1, _, by go_num, by omega, ((HR.out.blk.setOther (by simp; omega) _).setOther (by simp; omega) _).setOther (by simp; omega) _, ((HR.out.row.rset (i * 3) (E i)).rset (i * 3 + 1) (W i)).rset (i * 3 + 2) (S i), fun c hc => ?_, (((HR.out.bel.setCell hle _).setCell hle _).setCell hle _).drew⟩
            unfold upd
            split
            · rename_i e; subst e; rw [sh3_2]
            · split
              · rename_i e; subst e; rw [sh3_1]
              · split
                · rename_i e; subst e; rw [sh3_0]
                · exact HR.out.eq c (by omega)
          case measure => simp [intOf]; omega
        · obtain rfl : i = ni := by omega
          go_wp2
          go_meet
          case rel => exact ⟨_, by simp, HR.out.blk, .inr ⟨_, rfl, by omega, by rw [irow_congr .i32 (i * 3) (sh3 E W S) R (fun c hc => (HR.out.eq c hc).symm)]; exact HR.out.row⟩, HR.out.bel⟩
  obtain ⟨ia, hia, hM1⟩ := hcut
  have HM1 := hide hM1
  have HIA := hide hia
  clear hM1 hia HM0 Hb
  go_upto_region 9 with fail
  go_cut [70] (fun c w' => (∃ b : Bool, c = .bool b ∧ (b = false ↔ a5 = none)) ∧ w' = wc)
  case first =>
    cases a5 with
    | none =>
      have hnil := neq_nil 55 35 none m c5 Try.underlying55
      go_wp2
      go_meet
      case rel => exact ⟨⟨_, rfl, by simp⟩, rfl⟩
    | some x =>
      have hnil := neq_nil 55 35 (some x) m c5 Try.underlying55
      go_wp2
      go_meet
      case rel => exact ⟨⟨_, rfl, by simp⟩, rfl⟩
  obtain ⟨⟨b, rfl, hb⟩, rfl⟩ := hcut
  have Hb := hide hb
  clear hb
  go_step
  go_cut [] (fun w' => ∃ ha la, (ha = none ↔ a5 = none) ∧ Hold w' w.heap.size ask keep ep ia ni (sh3 E W S) ha m L (fun i => en2 (FI i) (FE i)) (fun i => la5 i = none) la (.slice a7 n7 c7) (.slice a8 n8 c8) ∧ Below w.heap.size w w')
  case first =>
    cases b
    · have h5n : a5 = none := Hb.out.1 rfl
      have hz := Z5.out h5n
      have HN := hide h5n
      clear h5n
      subst hz
      go_wp2
      go_meet
      case rel => exact ⟨none, fun _ => none, by simp [HN.out], ⟨HM1.out.blk, HM1.out.it, .inl ⟨rfl, rfl⟩⟩, HM1.out.bel⟩
    · obtain ⟨x, rfl⟩ : ∃ x, a5 = some x := by
        cases a5 with
        | none => have := Hb.out.2 rfl; simp at this
        | some x => exact ⟨x, rfl⟩
      have q3 : wc.cell? ⟨w.heap.size, 3, none⟩ = some (.slice none 0 0) := HM1.out.blk.cell 3
      have qf := HM1.out.blk.free
      have ql := HM1.out.blk.lt
      have hmk := make_h102 m (by omega)
      go_wp2
      clear hmk q3 qf
      go_loopw [79] (fun s wr => ∃ (i : Nat) (la : Nat → Option Addr), MkL w wc ask keep ep ia ni (sh3 E W S) m L (fun i => en2 (FI i) (FE i)) (fun i => la5 i = none) (.slice a7 n7 c7) (.slice a8 n8 c8) s wr i la) (fun s _ => m - (intOf s).toNat)
      case atStart => exact ⟨0, _, rfl, by omega, (HM1.out.blk.h3 _).alloc _, HM1.out.it' _ _, NPart.start (Blk.newS _ _ _ _ _), (HM1.out.bel.setCell (Nat.le_refl _) _).alloc (by rw [setCell_size]; exact HM1.out.bel.size) _⟩
      case round =>
        obtain ⟨i, la, hR⟩ := hrel
        have HR := hide hR
        obtain rfl := hR.s
        have hi := hR.hi
        clear hR
        by_cases hlt : i < m
        · have H5r := hide (H5.out.below HR.out.bel)
          have H6r := hide (H6.out.below HR.out.bel)
          rcases H5r.out.hd with h0 | ⟨b5, o5, hx, hbl5, hc5⟩
          · omega
          simp only [Option.some.injEq] at hx
          subst hx
          rcases H6r.out.hd with h0 | ⟨b6, o6, rfl, hbl6, hc6⟩
          · omega
          have g5 : wr.cell? ⟨b5, o5 + i, none⟩ = some (.slice (la5 i) (L i) (lc5 i)) := hc5 i (by omega)
          have g6 : wr.cell? ⟨b6, o6 + i, none⟩ = some (.slice (la6 i) (L i) (lc6 i)) := hc6 i (by omega)
          clear hc5 hc6
          by_cases hz : la5 i = none
          · have hl0 := H5.out.zl i hlt hz
            rw [hz, hl0] at g5
            have HZ := hide hz
            have HL0 := hide hl0
            clear hz hl0 g6
            have hnil := neq_nil 35 21 none 0 (lc5 i) Try.underlying35
            go_wp2
            go_roundw
            case rel => exact ⟨i + 1, _, by go_num, by omega, HR.out.blk, HR.out.it, HR.out.np.nil HZ.out HL0.out, HR.out.bel⟩
            case measure => simp [intOf]; omega
          · obtain ⟨y, hy⟩ : ∃ y, la5 i = some y := Option.ne_none_iff_exists'.1 hz
            have HE5 := hide (H5r.out.el i hlt)
            have HE6 := hide (H6r.out.el i hlt)
            rw [hy] at g5 HE5
            have HZ := hide hz
            clear hz hy
            have hLi := HL.out i hlt
            have hnil := neq_nil 35 21 (some y) (L i) (lc5 i) Try.underlying35
            have hmk := make_en (L i) hLi
            go_wp2
            clear hmk hnil
            go_loopw [95] (fun s wi => ∃ (j : Nat) (R : Nat → Int), CPart wr (L i) 2 (en2 (FI i) (FE i)) 109 s wi j R) (fun s _ => L i - (intOf s).toNat)
            case atStart => exact ⟨0, _, rfl, by omega, Blk.new _ _ _, fun j hj => by omega, (Below.refl _ _).alloc (Nat.le_refl _) _⟩
            case round =>
              obtain ⟨j, R, hR⟩ := hrel
              have HJ := hide hR
              obtain rfl := hR.si
              have hj := hR.hi
              clear hR
              by_cases hjl : j < L i
              · have k5 := (HJ.out.bel.cell (p := ⟨b5, o5 + i, none⟩) hbl5).trans g5
                have k6 := (HJ.out.bel.cell (p := ⟨b6, o6 + i, none⟩) hbl6).trans g6
                clear g5 g6
                rcases SlA.below HE5.out HJ.out.bel with h0 | ⟨b2, off2, hx, hbl2, hc⟩
                · omega
                simp only [Option.some.injEq] at hx
                subst hx
                have e0 := IRow.cell hc j (by omega)
                clear hc
                rcases SlA.below HE6.out HJ.out.bel with h0 | ⟨b3, off3, hx, hbl3, hc⟩
                · omega
                rw [hx] at k6
                have e1 := IRow.cell hc j (by omega)
                clear hc hx
                have d0 := HJ.out.blk.rcell (j * 2) (by omega)
                have d1 := HJ.out.blk.rcell (j * 2 + 1) (by omega)
                have f0 := HJ.out.blk.free
                go_wp2
                go_still_tail 18, (by kernel_rfl)
                go_wp2
                go_roundw
                case rel =>
                  refine ⟨j + 1, _, by go_num, by omega, (HJ.out.blk.rset (j * 2) (FI i j)).rset (j * 2 + 1) (FE i j), fun k hk => ?_, ((HJ.out.bel.setCell (Nat.le_refl _) _).setCell (Nat.le_refl _) _).drew⟩
                  unfold upd
                  split
                  · rename_i e; subst e; rw [en2_1]
                  · split
                    · rename_i e; subst e; rw [en2_0]
                    · exact HJ.out.eq k (by omega)
                case measure => simp [intOf]; omega
              · obtain rfl : j = L i := by omega
                clear g5 g6
                have HN := hide (HR.out.np.below HJ.out.bel)
                have hdl := HN.out.hd.fcell i hlt
                rw [if_neg (by omega)] at hdl
                have hdf := HN.out.hd.free
                have hlt0 := HR.out.np.hd.lt
                have hbB := HR.out.blk.below HJ.out.bel HR.out.blk.lt
                have HbB := hide hbB
                have q3 := hbB.cell 3
                simp only [hCells] at q3
                clear hbB
                have HFr := hide (HR.out.np.fresh (Nat.le_refl _))
                go_wp2
                go_roundw
                case rel => exact ⟨i + 1, _, by go_num, by omega, HbB.out.setOther (by simp; omega) _, HR.out.it' HJ.out.bel _ _, HN.out.set HFr.out HJ.out.whole (by omega) (by omega) (by omega) HZ.out, (HR.out.bel.trans (HJ.out.bel.mono HR.out.bel.size)).setCell (by simp; omega) _⟩
                case measure => simp [intOf]; omega
        · obtain rfl : i = m := by omega
          go_wp2
          go_meet
          case rel => exact ⟨_, _, by simp, HR.out.hold ql, HR.out.bel⟩
  obtain ⟨ha, la, hha, hH, hB⟩ := hcut
  have HA := hide hha
  have HH := hide hH
  have HB := hide hB
  clear hha hH hB HM1 Hb
  go_step
  go_wp2
  go_ret
  exact ⟨_, _, _, rfl, HH.out, HIA.out, HA.out, HB.out⟩
end Go.Proofs.Qxb6605516a
