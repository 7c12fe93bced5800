import Derived.Test.Qxb6605524aDoorSp4
namespace Go.Proofs.Qxb6605524aDoor
open Go.RowKit
set_option linter.unusedVariables false

/-- The sign, and what follows it. -/
inductive SG (s : ByteArray) : Bool → ByteArray → Prop
  | minus : bt s 0 = 45 → SG s true (s.extract 1 s.size)
  | plus : bt s 0 = 43 → SG s false (s.extract 1 s.size)
  | none : bt s 0 ≠ 43 → bt s 0 ≠ 45 → SG s false s
/-- The mark (small, great), the unit and the limit. -/
def em (hex : Bool) : Int := if hex then 112 else 101
def eM (hex : Bool) : Int := if hex then 80 else 69
def un (hex : Bool) : Int := if hex then 4 else 1
def mx (hex : Bool) : Int := if hex then 10000000 else 1000000
/-- A literal's cells. -/
def litC (neg hex : Bool) (d : ByteArray) (exp : Int) (zero : Bool) (tz : Int) : Array Value := #[.bool neg, .bool hex, .string d, .int .i64 exp, .bool zero, .int .i64 tz]
/-- In split: the literal's block and the result's. -/
structure SW (w wr : World) (c : Array Value) : Prop where
  res : Blk wr w.heap.size (litC false false ⟨#[]⟩ 0 false 0) 31
  lit : Blk wr (w.heap.size + 1) c 31
  bel : Below w.heap.size w wr
theorem SW.set {w wr : World} {c : Array Value} (h : SW w wr c) (i : Nat) (v : Value) : SW w (wr.setCell ⟨w.heap.size + 1, i, none⟩ v) (c.setIfInBounds i v) :=
  ⟨h.res.setOther (show w.heap.size ≠ w.heap.size + 1 by omega) _, h.lit.set i v, h.bel.setCell (show w.heap.size ≤ w.heap.size + 1 by omega) _⟩
theorem SW.below {w wr w' : World} {c : Array Value} (h : SW w wr c) (hb : Below wr.heap.size wr w') : SW w w' c :=
  ⟨h.res.below hb h.res.lt, h.lit.below hb h.lit.lt, h.bel.trans (hb.mono h.bel.size)⟩
/-- What ParseInt hands back. -/
def PIE (o : Option Int) (e : Ending) : Prop := match o with
  | some v => e = .returned (.tuple #[.int .i64 v, .nilIface])
  | none => ∃ k T a, e = .returned (.tuple #[.int .i64 k, .iface T a])
/-- A variable that holds some interface value. -/
def Var (w : World) (g : Nat) : Prop := ∃ tp p, w.cell? ⟨g, 0, none⟩ = some (.iface tp p)
theorem pint (x : ByteArray) (hx : x.size ≤ 1048576) (w : World) (h0 : Var w 0) (h1 : Var w 1) :
    Calls Tryd.prog 13 #[.string x, .int .i64 10, .int .i64 64] w fun e w' => PIE (pd x.data.toList) e ∧ Below w.heap.size w w' := by
  obtain ⟨t0, p0, h0⟩ := h0
  obtain ⟨t1, p1, h1⟩ := h1
  cases h : Lib.parseIntB 64 x.data.toList with
  | ok v =>
    refine (Any.strconv_ParseInt_10_at64_ok Tryd.laysPI x (by omega) v h w).mono ?_
    rintro e w' ⟨rfl, hw⟩
    refine ⟨by unfold pd; rw [h]; rfl, ?_⟩
    rcases hw with rfl | ⟨t, rfl⟩
    · exact Below.refl _ _
    · exact Lib.bytesWorld_below _ _ _
  | «syntax» =>
    refine (Any.strconv_ParseInt_10_at64_syntax Tryd.laysPI x (by omega) h _ w h0 (Or.inr ⟨_, _, rfl⟩)).mono ?_
    rintro e w' ⟨N, rfl, -, -, hb⟩
    exact ⟨by unfold pd; rw [h]; exact ⟨_, _, _, rfl⟩, hb⟩
  | range =>
    refine (Any.strconv_ParseInt_10_at64_range Tryd.laysPI x (by omega) h _ w h1 (Or.inr ⟨_, _, rfl⟩)).mono ?_
    rintro e w' ⟨N, rfl, -, -, hb⟩
    exact ⟨by unfold pd; rw [h]; exact ⟨_, _, _, rfl⟩, hb⟩
theorem ormark {b : Int} (h : 0 ≤ b ∧ b < 256) (hex : Bool) : (bits BinOp.or IntKind.u8 b 32 != em hex) = decide (¬ (b = em hex ∨ b = eM hex)) := by
  cases hex
  · exact ore h
  · exact orp h
/-- The exponent behind the mark. -/
def ex (u : ByteArray) (m : Nat) : Option Int := if m < u.size then pd (u.extract (m + 1) u.size).data.toList else some 0
/-- All that split tells. -/
structure Z where
  neg : Bool
  hex : Bool
  digits : ByteArray
  exp : Int
  zero : Bool
  tz : Int
  refused : Bool
  far : Bool
  pHex : Bool
  pExp : Int
  pFr : Int
def zz (neg hex : Bool) (u : ByteArray) (m : Nat) : Z := match ex u m with
  | none => ⟨false, false, ⟨#[]⟩, 0, false, 0, true, true, false, 0, 0⟩
  | some v =>
    if zF u m = true then ⟨neg, hex, u.extract 0 m, 0, true, tzF u m, false, false, false, 0, 0⟩
    else if v < -mx hex ∨ v - un hex * frF u m < -mx hex ∨ mx hex < v - un hex * frF u m then ⟨false, false, ⟨#[]⟩, 0, false, 0, true, false, hex, v, frF u m⟩
    else ⟨neg, hex, u.extract 0 m, v - un hex * frF u m, false, tzF u m, false, false, false, 0, 0⟩
def litZ (z : Z) : Array Value := litC z.neg z.hex z.digits z.exp z.zero z.tz
def SplE (w' : World) (z : Z) (e : Ending) : Prop :=
  (z.refused = false ∧ e = .returned (.tuple #[.agg (litZ z), .pointer none])) ∨
  (z.refused = true ∧ ∃ N, e = .returned (.tuple #[.agg (litZ z), .pointer (some ⟨N, 0, none⟩)]) ∧ Blk w' N #[.bool z.far, .bool z.pHex, .int .i64 z.pExp, .int .i64 z.pFr] 36)
theorem cell_lt {w : World} {a : Addr} {v : Value} (h : w.cell? a = some v) : a.block < w.heap.size := by
  unfold World.cell? at h
  split at h
  · next c e f hb => exact Array.getElem?_eq_some_iff.1 hb |>.1
  · simp at h
theorem Var.below {w w' : World} {g : Nat} (h : Var w g) (hb : Below w.heap.size w w') : Var w' g := by
  obtain ⟨tp, p, h⟩ := h
  exact ⟨tp, p, by rw [hb.cell (p := ⟨g, 0, none⟩) (cell_lt h)]; exact h⟩
/-- In split's loop. -/
structure RL (w : World) (u : ByteArray) (m : Nat) (neg hex : Bool) (si sa sf : Value) (wr : World) (i : Nat) : Prop where
  hi : i ≤ m
  si : si = .int .i64 i
  sa : sa = .bool (apF u i)
  sf : sf = .int .i64 (frF u i)
  sw : SW w wr (litC neg hex ⟨#[]⟩ 0 (zF u i) (tzF u i))

set_option maxRecDepth 4000 in
/-- How split ends. -/
theorem retS {R : Ending → World → Prop} {a : Act} {W : World} {r : Nat} {p : Option Addr} {neg hex zero : Bool} {d : ByteArray} {exp tz : Int}
    (h2 : a.tmps[2]? = some (.pointer (some ⟨r, 0, none⟩))) (h3 : a.tmps[3]? = some (.pointer p)) (hd : a.defers = []) (hB : Blk W r (litC neg hex d exp zero tz) 31)
    (hR : R (.returned (.tuple #[.agg (litC neg hex d exp zero tz), .pointer p])) W) : bodyPost Tryd.prog Tryd.f11 R .ret a W := by
  refine bodyPost_ret ?_ hd hR
  have c0 : W.cell? ⟨r, 0, none⟩ = some (.bool neg) := hB.cell 0
  have c1 : W.cell? ⟨r, 1, none⟩ = some (.bool hex) := hB.cell 1
  have c2 : W.cell? ⟨r, 2, none⟩ = some (.string d) := hB.cell 2
  have c3 : W.cell? ⟨r, 3, none⟩ = some (.int .i64 exp) := hB.cell 3
  have c4 : W.cell? ⟨r, 4, none⟩ = some (.bool zero) := hB.cell 4
  have c5 : W.cell? ⟨r, 5, none⟩ = some (.int .i64 tz) := hB.cell 5
  simp [results, Tryd.results11, go_sem, litC, h2, h3, c0, c1, c2, c3, c4, c5]
/-- The world behind a refusal. -/
theorem pastW {w wd : World} {c : Array Value} (h : SW w wd c) (pc : Array Value) (x0 x1 x2 x3 x4 x5 : Value) :
    Blk (((((((wd.alloc (.cells pc 36)).setCell ⟨w.heap.size, 0, none⟩ x0).setCell ⟨w.heap.size, 1, none⟩ x1).setCell ⟨w.heap.size, 2, none⟩ x2).setCell ⟨w.heap.size, 3, none⟩ x3).setCell ⟨w.heap.size, 4, none⟩ x4).setCell ⟨w.heap.size, 5, none⟩ x5) w.heap.size #[x0, x1, x2, x3, x4, x5] 31 ∧
    Blk (((((((wd.alloc (.cells pc 36)).setCell ⟨w.heap.size, 0, none⟩ x0).setCell ⟨w.heap.size, 1, none⟩ x1).setCell ⟨w.heap.size, 2, none⟩ x2).setCell ⟨w.heap.size, 3, none⟩ x3).setCell ⟨w.heap.size, 4, none⟩ x4).setCell ⟨w.heap.size, 5, none⟩ x5) wd.heap.size pc 36 ∧
    Below w.heap.size w (((((((wd.alloc (.cells pc 36)).setCell ⟨w.heap.size, 0, none⟩ x0).setCell ⟨w.heap.size, 1, none⟩ x1).setCell ⟨w.heap.size, 2, none⟩ x2).setCell ⟨w.heap.size, 3, none⟩ x3).setCell ⟨w.heap.size, 4, none⟩ x4).setCell ⟨w.heap.size, 5, none⟩ x5) := by
  have hn : wd.heap.size ≠ w.heap.size := by have := h.res.lt; omega
  refine ⟨((((((h.res.alloc _).set 0 x0).set 1 x1).set 2 x2).set 3 x3).set 4 x4).set 5 x5, ?_, ?_⟩
  · exact ((((((Blk.new wd pc 36).setOther hn _).setOther hn _).setOther hn _).setOther hn _).setOther hn _).setOther hn _
  · exact ((((((h.bel.alloc h.bel.size _).setCell (Nat.le_refl _) _).setCell (Nat.le_refl _) _).setCell (Nat.le_refl _) _).setCell (Nat.le_refl _) _).setCell (Nat.le_refl _) _).setCell (Nat.le_refl _) _
theorem pastV {w wd : World} {c : Array Value} (h : SW w wd c) (pc : Array Value) (x0 x1 x2 x3 x4 x5 : Value) :
    Blk (((((((wd.setCell ⟨w.heap.size, 0, none⟩ x0).setCell ⟨w.heap.size, 1, none⟩ x1).setCell ⟨w.heap.size, 2, none⟩ x2).setCell ⟨w.heap.size, 3, none⟩ x3).setCell ⟨w.heap.size, 4, none⟩ x4).setCell ⟨w.heap.size, 5, none⟩ x5).alloc (.cells pc 36)) w.heap.size #[x0, x1, x2, x3, x4, x5] 31 ∧
    Blk (((((((wd.setCell ⟨w.heap.size, 0, none⟩ x0).setCell ⟨w.heap.size, 1, none⟩ x1).setCell ⟨w.heap.size, 2, none⟩ x2).setCell ⟨w.heap.size, 3, none⟩ x3).setCell ⟨w.heap.size, 4, none⟩ x4).setCell ⟨w.heap.size, 5, none⟩ x5).alloc (.cells pc 36)) wd.heap.size pc 36 ∧
    Below w.heap.size w (((((((wd.setCell ⟨w.heap.size, 0, none⟩ x0).setCell ⟨w.heap.size, 1, none⟩ x1).setCell ⟨w.heap.size, 2, none⟩ x2).setCell ⟨w.heap.size, 3, none⟩ x3).setCell ⟨w.heap.size, 4, none⟩ x4).setCell ⟨w.heap.size, 5, none⟩ x5).alloc (.cells pc 36)) := by
  refine ⟨((((((h.res.set 0 x0).set 1 x1).set 2 x2).set 3 x3).set 4 x4).set 5 x5).alloc _, ?_, ?_⟩
  · have q := Blk.new ((((((wd.setCell ⟨w.heap.size, 0, none⟩ x0).setCell ⟨w.heap.size, 1, none⟩ x1).setCell ⟨w.heap.size, 2, none⟩ x2).setCell ⟨w.heap.size, 3, none⟩ x3).setCell ⟨w.heap.size, 4, none⟩ x4).setCell ⟨w.heap.size, 5, none⟩ x5) pc 36
    have e : ((((((wd.setCell ⟨w.heap.size, 0, none⟩ x0).setCell ⟨w.heap.size, 1, none⟩ x1).setCell ⟨w.heap.size, 2, none⟩ x2).setCell ⟨w.heap.size, 3, none⟩ x3).setCell ⟨w.heap.size, 4, none⟩ x4).setCell ⟨w.heap.size, 5, none⟩ x5).heap.size = wd.heap.size := by simp [World.setCell]
    rw [e] at q
    exact q
  · have b := (((((h.bel.setCell (p := ⟨w.heap.size, 0, none⟩) (Nat.le_refl _) x0).setCell (p := ⟨w.heap.size, 1, none⟩) (Nat.le_refl _) x1).setCell (p := ⟨w.heap.size, 2, none⟩) (Nat.le_refl _) x2).setCell (p := ⟨w.heap.size, 3, none⟩) (Nat.le_refl _) x3).setCell (p := ⟨w.heap.size, 4, none⟩) (Nat.le_refl _) x4).setCell (p := ⟨w.heap.size, 5, none⟩) (Nat.le_refl _) x5
    exact b.alloc b.size _
theorem pd_bounds {l : List UInt8} {v : Int} (h : pd l = some v) : -9223372036854775808 ≤ v ∧ v < 9223372036854775808 := by
  unfold pd at h
  split at h
  · next v' h' =>
    have := Lib.parseIntB_bounds h'
    simp at h
    subst h
    exact this
  · simp at h
theorem zz_far {neg hex : Bool} {u : ByteArray} {i : Nat} (hE : ex u i = none) : zz neg hex u i = ⟨false, false, ⟨#[]⟩, 0, false, 0, true, true, false, 0, 0⟩ := by
  unfold zz; rw [hE]
theorem zz_zero {neg hex : Bool} {u : ByteArray} {i tz : Nat} {v : Int} (hE : ex u i = some v) (hz : zF u i = true) (htz : tzF u i = tz) : zz neg hex u i = ⟨neg, hex, u.extract 0 i, 0, true, tz, false, false, false, 0, 0⟩ := by
  unfold zz; rw [hE]; exact (if_pos hz).trans (by rw [htz])
theorem zz_past {neg hex : Bool} {u : ByteArray} {i fr : Nat} {v P M : Int} (hE : ex u i = some v) (hz : zF u i = false) (hfr : frF u i = fr) (hP : un hex * (fr : Int) = P) (hM : mx hex = M) (d : v < -M ∨ v - P < -M ∨ M < v - P) :
    zz neg hex u i = ⟨false, false, ⟨#[]⟩, 0, false, 0, true, false, hex, v, fr⟩ := by
  unfold zz; rw [hE, hz, hfr, hP, hM]; exact (if_neg Bool.false_ne_true).trans (if_pos d)
theorem zz_ok {neg hex : Bool} {u : ByteArray} {i fr tz : Nat} {v P M sc : Int} (hE : ex u i = some v) (hz : zF u i = false) (hfr : frF u i = fr) (htz : tzF u i = tz) (hP : un hex * (fr : Int) = P) (hM : mx hex = M) (d : ¬ (v < -M ∨ v - P < -M ∨ M < v - P)) (hs : sc = v - P) :
    zz neg hex u i = ⟨neg, hex, u.extract 0 i, sc, false, tz, false, false, false, 0, 0⟩ := by
  subst hs; unfold zz; rw [hE, hz, hfr, hP, hM, htz]; exact (if_neg Bool.false_ne_true).trans (if_neg d)
end Go.Proofs.Qxb6605524aDoor
