import Derived.Test.Qxb6605516aPlanE
namespace Go.Proofs.Qxb6605516a
open Go.RowKit
set_option linter.unusedVariables false

/-- The cells of claims: item, mode. -/
def clCell (CI CM : Nat → Int) (c : Nat) : Value := if c % 2 = 0 then .int .i32 (CI (c / 2)) else .int .u8 (CM (c / 2))
theorem clCell0 (CI CM : Nat → Int) (i : Nat) : clCell CI CM (i * 2) = .int .i32 (CI i) := by
  unfold clCell; rw [if_pos (by omega), show i * 2 / 2 = i from by omega]
theorem clCell1 (CI CM : Nat → Int) (i : Nat) : clCell CI CM (i * 2 + 1) = .int .u8 (CM i) := by
  unfold clCell; rw [if_neg (by omega), show (i * 2 + 1) / 2 = i from by omega]
theorem upd2 (CI CM : Nat → Int) (i : Nat) (x m : Int) : upd (upd (clCell CI CM) (i * 2) (.int .i32 x)) (i * 2 + 1) (.int .u8 m) = clCell (upd CI i x) (upd CM i m) := by
  funext c
  unfold upd
  by_cases e1 : c = i * 2 + 1
  · subst e1; simp [clCell1]
  by_cases e0 : c = i * 2
  · subst e0; simp [clCell0]
  · rw [if_neg e1, if_neg e0]
    unfold clCell
    rcases (show c / 2 = i ∨ c / 2 ≠ i from by omega) with e | e
    · omega
    · simp [e]
def csV (v : Int) (cl len n : Nat) : Value := if v = 3 then .slice (some ⟨cl, 0, none⟩) len n else .slice none 0 0
def cfV (v : Int) (cf nt : Nat) : Value := if v = 3 then .slice (some ⟨cf, 0, none⟩) (nt + 1) (nt + 1) else .slice none 0 0

/-- The call's own memory while it plans. -/
structure NP (w wr : World) (v : Int) (n nt ni : Nat) (pl md af nx fi la fo lo cl cf : Nat) (M A N F L FO LO CI CM CF : Nat → Int) (len : Nat) : Prop where
  bpl : Blk wr pl (plCells md af nx n (csV v cl len n) (cfV v cf nt)) 94
  bmd : Blk wr md (irow .u8 n M) 95
  baf : Blk wr af (irow .i32 n A) 21
  bnx : Blk wr nx (irow .i32 n N) 21
  bfi : Blk wr fi (irow .i32 nt F) 21
  bla : Blk wr la (irow .i32 n L) 21
  bfo : Blk wr fo (irow .i32 ni FO) 21
  blo : Blk wr lo (irow .i32 ni LO) 21
  bcl : v = 3 → Blk wr cl (fc (n * 2) (clCell CI CM)) 97
  bcf : v = 3 → Blk wr cf (irow .i32 (nt + 1) CF) 21
  new : w.heap.size ≤ pl ∧ w.heap.size ≤ md ∧ w.heap.size ≤ af ∧ w.heap.size ≤ nx ∧ w.heap.size ≤ fi ∧ w.heap.size ≤ la ∧ w.heap.size ≤ fo ∧ w.heap.size ≤ lo ∧ w.heap.size ≤ cl ∧ w.heap.size ≤ cf
  nd : [pl, md, af, nx, fi, la, fo, lo, cl, cf].Nodup
  bel : Below w.heap.size w wr
section
variable {w wr : World} {v : Int} {n nt ni : Nat} {pl md af nx fi la fo lo cl cf : Nat} {M A N F L FO LO CI CM CF : Nat → Int} {len : Nat}
theorem NP.drew (h : NP w wr v n nt ni pl md af nx fi la fo lo cl cf M A N F L FO LO CI CM CF len) : NP w wr.drew v n nt ni pl md af nx fi la fo lo cl cf M A N F L FO LO CI CM CF len :=
  ⟨h.bpl, h.bmd, h.baf, h.bnx, h.bfi, h.bla, h.bfo, h.blo, h.bcl, h.bcf, h.new, h.nd, h.bel.drew⟩
theorem NP.drewN (h : NP w wr v n nt ni pl md af nx fi la fo lo cl cf M A N F L FO LO CI CM CF len) (q : Nat) : NP w (wr.drewN q) v n nt ni pl md af nx fi la fo lo cl cf M A N F L FO LO CI CM CF len :=
  ⟨h.bpl, h.bmd, h.baf, h.bnx, h.bfi, h.bla, h.bfo, h.blo, h.bcl, h.bcf, h.new, h.nd, below_drewN h.bel q⟩
theorem NP.alloc (h : NP w wr v n nt ni pl md af nx fi la fo lo cl cf M A N F L FO LO CI CM CF len) (o : Obj) : NP w (wr.alloc o) v n nt ni pl md af nx fi la fo lo cl cf M A N F L FO LO CI CM CF len :=
  ⟨h.bpl.alloc o, h.bmd.alloc o, h.baf.alloc o, h.bnx.alloc o, h.bfi.alloc o, h.bla.alloc o, h.bfo.alloc o, h.blo.alloc o, fun e => (h.bcl e).alloc o, fun e => (h.bcf e).alloc o, h.new, h.nd, h.bel.alloc h.bel.size o⟩
theorem nd_ne {a b : Nat} {l : List Nat} {i j : Nat} (h : l.Nodup) (hi : l[i]? = some a) (hj : l[j]? = some b) (hij : i ≠ j) : a ≠ b := by
  obtain ⟨h1, e1⟩ := List.getElem?_eq_some_iff.1 hi
  obtain ⟨h2, e2⟩ := List.getElem?_eq_some_iff.1 hj
  have hp := List.pairwise_iff_getElem.1 h
  rcases Nat.lt_or_gt_of_ne hij with g | g
  · have := hp i j h1 h2 g; rw [e1, e2] at this; exact this
  · have := hp j i h2 h1 g; rw [e1, e2] at this; exact fun e => this e.symm
theorem NP.set_md (h : NP w wr v n nt ni pl md af nx fi la fo lo cl cf M A N F L FO LO CI CM CF len) (c : Nat) (x : Int) : NP w (wr.setCell ⟨md, c, none⟩ (.int .u8 x)) v n nt ni pl md af nx fi la fo lo cl cf (upd M c x) A N F L FO LO CI CM CF len :=
  ⟨h.bpl.setOther (nd_ne (i := 0) (j := 1) h.nd rfl rfl (by decide)) _, h.bmd.rset c x, h.baf.setOther (nd_ne (i := 2) (j := 1) h.nd rfl rfl (by decide)) _, h.bnx.setOther (nd_ne (i := 3) (j := 1) h.nd rfl rfl (by decide)) _, h.bfi.setOther (nd_ne (i := 4) (j := 1) h.nd rfl rfl (by decide)) _, h.bla.setOther (nd_ne (i := 5) (j := 1) h.nd rfl rfl (by decide)) _, h.bfo.setOther (nd_ne (i := 6) (j := 1) h.nd rfl rfl (by decide)) _, h.blo.setOther (nd_ne (i := 7) (j := 1) h.nd rfl rfl (by decide)) _, fun e => (h.bcl e).setOther (nd_ne (i := 8) (j := 1) h.nd rfl rfl (by decide)) _, fun e => (h.bcf e).setOther (nd_ne (i := 9) (j := 1) h.nd rfl rfl (by decide)) _, h.new, h.nd, h.bel.setCell (by have := h.new; simp; omega) _⟩
theorem NP.set_af (h : NP w wr v n nt ni pl md af nx fi la fo lo cl cf M A N F L FO LO CI CM CF len) (c : Nat) (x : Int) : NP w (wr.setCell ⟨af, c, none⟩ (.int .i32 x)) v n nt ni pl md af nx fi la fo lo cl cf M (upd A c x) N F L FO LO CI CM CF len :=
  ⟨h.bpl.setOther (nd_ne (i := 0) (j := 2) h.nd rfl rfl (by decide)) _, h.bmd.setOther (nd_ne (i := 1) (j := 2) h.nd rfl rfl (by decide)) _, h.baf.rset c x, h.bnx.setOther (nd_ne (i := 3) (j := 2) h.nd rfl rfl (by decide)) _, h.bfi.setOther (nd_ne (i := 4) (j := 2) h.nd rfl rfl (by decide)) _, h.bla.setOther (nd_ne (i := 5) (j := 2) h.nd rfl rfl (by decide)) _, h.bfo.setOther (nd_ne (i := 6) (j := 2) h.nd rfl rfl (by decide)) _, h.blo.setOther (nd_ne (i := 7) (j := 2) h.nd rfl rfl (by decide)) _, fun e => (h.bcl e).setOther (nd_ne (i := 8) (j := 2) h.nd rfl rfl (by decide)) _, fun e => (h.bcf e).setOther (nd_ne (i := 9) (j := 2) h.nd rfl rfl (by decide)) _, h.new, h.nd, h.bel.setCell (by have := h.new; simp; omega) _⟩
theorem NP.set_nx (h : NP w wr v n nt ni pl md af nx fi la fo lo cl cf M A N F L FO LO CI CM CF len) (c : Nat) (x : Int) : NP w (wr.setCell ⟨nx, c, none⟩ (.int .i32 x)) v n nt ni pl md af nx fi la fo lo cl cf M A (upd N c x) F L FO LO CI CM CF len :=
  ⟨h.bpl.setOther (nd_ne (i := 0) (j := 3) h.nd rfl rfl (by decide)) _, h.bmd.setOther (nd_ne (i := 1) (j := 3) h.nd rfl rfl (by decide)) _, h.baf.setOther (nd_ne (i := 2) (j := 3) h.nd rfl rfl (by decide)) _, h.bnx.rset c x, h.bfi.setOther (nd_ne (i := 4) (j := 3) h.nd rfl rfl (by decide)) _, h.bla.setOther (nd_ne (i := 5) (j := 3) h.nd rfl rfl (by decide)) _, h.bfo.setOther (nd_ne (i := 6) (j := 3) h.nd rfl rfl (by decide)) _, h.blo.setOther (nd_ne (i := 7) (j := 3) h.nd rfl rfl (by decide)) _, fun e => (h.bcl e).setOther (nd_ne (i := 8) (j := 3) h.nd rfl rfl (by decide)) _, fun e => (h.bcf e).setOther (nd_ne (i := 9) (j := 3) h.nd rfl rfl (by decide)) _, h.new, h.nd, h.bel.setCell (by have := h.new; simp; omega) _⟩
theorem NP.set_fi (h : NP w wr v n nt ni pl md af nx fi la fo lo cl cf M A N F L FO LO CI CM CF len) (c : Nat) (x : Int) : NP w (wr.setCell ⟨fi, c, none⟩ (.int .i32 x)) v n nt ni pl md af nx fi la fo lo cl cf M A N (upd F c x) L FO LO CI CM CF len :=
  ⟨h.bpl.setOther (nd_ne (i := 0) (j := 4) h.nd rfl rfl (by decide)) _, h.bmd.setOther (nd_ne (i := 1) (j := 4) h.nd rfl rfl (by decide)) _, h.baf.setOther (nd_ne (i := 2) (j := 4) h.nd rfl rfl (by decide)) _, h.bnx.setOther (nd_ne (i := 3) (j := 4) h.nd rfl rfl (by decide)) _, h.bfi.rset c x, h.bla.setOther (nd_ne (i := 5) (j := 4) h.nd rfl rfl (by decide)) _, h.bfo.setOther (nd_ne (i := 6) (j := 4) h.nd rfl rfl (by decide)) _, h.blo.setOther (nd_ne (i := 7) (j := 4) h.nd rfl rfl (by decide)) _, fun e => (h.bcl e).setOther (nd_ne (i := 8) (j := 4) h.nd rfl rfl (by decide)) _, fun e => (h.bcf e).setOther (nd_ne (i := 9) (j := 4) h.nd rfl rfl (by decide)) _, h.new, h.nd, h.bel.setCell (by have := h.new; simp; omega) _⟩
theorem NP.set_la (h : NP w wr v n nt ni pl md af nx fi la fo lo cl cf M A N F L FO LO CI CM CF len) (c : Nat) (x : Int) : NP w (wr.setCell ⟨la, c, none⟩ (.int .i32 x)) v n nt ni pl md af nx fi la fo lo cl cf M A N F (upd L c x) FO LO CI CM CF len :=
  ⟨h.bpl.setOther (nd_ne (i := 0) (j := 5) h.nd rfl rfl (by decide)) _, h.bmd.setOther (nd_ne (i := 1) (j := 5) h.nd rfl rfl (by decide)) _, h.baf.setOther (nd_ne (i := 2) (j := 5) h.nd rfl rfl (by decide)) _, h.bnx.setOther (nd_ne (i := 3) (j := 5) h.nd rfl rfl (by decide)) _, h.bfi.setOther (nd_ne (i := 4) (j := 5) h.nd rfl rfl (by decide)) _, h.bla.rset c x, h.bfo.setOther (nd_ne (i := 6) (j := 5) h.nd rfl rfl (by decide)) _, h.blo.setOther (nd_ne (i := 7) (j := 5) h.nd rfl rfl (by decide)) _, fun e => (h.bcl e).setOther (nd_ne (i := 8) (j := 5) h.nd rfl rfl (by decide)) _, fun e => (h.bcf e).setOther (nd_ne (i := 9) (j := 5) h.nd rfl rfl (by decide)) _, h.new, h.nd, h.bel.setCell (by have := h.new; simp; omega) _⟩
theorem NP.set_fo (h : NP w wr v n nt ni pl md af nx fi la fo lo cl cf M A N F L FO LO CI CM CF len) (c : Nat) (x : Int) : NP w (wr.setCell ⟨fo, c, none⟩ (.int .i32 x)) v n nt ni pl md af nx fi la fo lo cl cf M A N F L (upd FO c x) LO CI CM CF len :=
  ⟨h.bpl.setOther (nd_ne (i := 0) (j := 6) h.nd rfl rfl (by decide)) _, h.bmd.setOther (nd_ne (i := 1) (j := 6) h.nd rfl rfl (by decide)) _, h.baf.setOther (nd_ne (i := 2) (j := 6) h.nd rfl rfl (by decide)) _, h.bnx.setOther (nd_ne (i := 3) (j := 6) h.nd rfl rfl (by decide)) _, h.bfi.setOther (nd_ne (i := 4) (j := 6) h.nd rfl rfl (by decide)) _, h.bla.setOther (nd_ne (i := 5) (j := 6) h.nd rfl rfl (by decide)) _, h.bfo.rset c x, h.blo.setOther (nd_ne (i := 7) (j := 6) h.nd rfl rfl (by decide)) _, fun e => (h.bcl e).setOther (nd_ne (i := 8) (j := 6) h.nd rfl rfl (by decide)) _, fun e => (h.bcf e).setOther (nd_ne (i := 9) (j := 6) h.nd rfl rfl (by decide)) _, h.new, h.nd, h.bel.setCell (by have := h.new; simp; omega) _⟩
theorem NP.set_lo (h : NP w wr v n nt ni pl md af nx fi la fo lo cl cf M A N F L FO LO CI CM CF len) (c : Nat) (x : Int) : NP w (wr.setCell ⟨lo, c, none⟩ (.int .i32 x)) v n nt ni pl md af nx fi la fo lo cl cf M A N F L FO (upd LO c x) CI CM CF len :=
  ⟨h.bpl.setOther (nd_ne (i := 0) (j := 7) h.nd rfl rfl (by decide)) _, h.bmd.setOther (nd_ne (i := 1) (j := 7) h.nd rfl rfl (by decide)) _, h.baf.setOther (nd_ne (i := 2) (j := 7) h.nd rfl rfl (by decide)) _, h.bnx.setOther (nd_ne (i := 3) (j := 7) h.nd rfl rfl (by decide)) _, h.bfi.setOther (nd_ne (i := 4) (j := 7) h.nd rfl rfl (by decide)) _, h.bla.setOther (nd_ne (i := 5) (j := 7) h.nd rfl rfl (by decide)) _, h.bfo.setOther (nd_ne (i := 6) (j := 7) h.nd rfl rfl (by decide)) _, h.blo.rset c x, fun e => (h.bcl e).setOther (nd_ne (i := 8) (j := 7) h.nd rfl rfl (by decide)) _, fun e => (h.bcf e).setOther (nd_ne (i := 9) (j := 7) h.nd rfl rfl (by decide)) _, h.new, h.nd, h.bel.setCell (by have := h.new; simp; omega) _⟩
theorem NP.set_cf (h : NP w wr v n nt ni pl md af nx fi la fo lo cl cf M A N F L FO LO CI CM CF len) (c : Nat) (x : Int) : NP w (wr.setCell ⟨cf, c, none⟩ (.int .i32 x)) v n nt ni pl md af nx fi la fo lo cl cf M A N F L FO LO CI CM (upd CF c x) len :=
  ⟨h.bpl.setOther (nd_ne (i := 0) (j := 9) h.nd rfl rfl (by decide)) _, h.bmd.setOther (nd_ne (i := 1) (j := 9) h.nd rfl rfl (by decide)) _, h.baf.setOther (nd_ne (i := 2) (j := 9) h.nd rfl rfl (by decide)) _, h.bnx.setOther (nd_ne (i := 3) (j := 9) h.nd rfl rfl (by decide)) _, h.bfi.setOther (nd_ne (i := 4) (j := 9) h.nd rfl rfl (by decide)) _, h.bla.setOther (nd_ne (i := 5) (j := 9) h.nd rfl rfl (by decide)) _, h.bfo.setOther (nd_ne (i := 6) (j := 9) h.nd rfl rfl (by decide)) _, h.blo.setOther (nd_ne (i := 7) (j := 9) h.nd rfl rfl (by decide)) _, fun e => (h.bcl e).setOther (nd_ne (i := 8) (j := 9) h.nd rfl rfl (by decide)) _, fun e => (h.bcf e).rset c x, h.new, h.nd, h.bel.setCell (by have := h.new; simp; omega) _⟩
end
end Go.Proofs.Qxb6605516a
