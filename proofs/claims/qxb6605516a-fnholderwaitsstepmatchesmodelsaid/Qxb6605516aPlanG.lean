import Derived.Test.Qxb6605516aPlanF
namespace Go.Proofs.Qxb6605516a
open Go.RowKit
set_option linter.unusedVariables false

/-- The plan, made and empty, with the claims' room where they are kept. -/
structure Pl1 (w wr : World) (v : Int) (n nt pl md af nx cl cf : Nat) : Prop where
  bpl : Blk wr pl (plCells md af nx n (csV v cl 0 n) (cfV v cf nt)) 94
  bmd : Blk wr md (irow .u8 n (fun _ => 0)) 95
  baf : Blk wr af (irow .i32 n minus) 21
  bnx : Blk wr nx (irow .i32 n minus) 21
  bcl : v = 3 → Blk wr cl (fc (n * 2) (clCell (fun _ => 0) (fun _ => 0))) 97
  bcf : v = 3 → Blk wr cf (irow .i32 (nt + 1) (fun _ => 0)) 21
  new : w.heap.size ≤ pl ∧ w.heap.size ≤ md ∧ w.heap.size ≤ af ∧ w.heap.size ≤ nx
  newc : v = 3 → w.heap.size ≤ cl ∧ w.heap.size ≤ cf
  nd : [pl, md, af, nx].Nodup
  ndc : v = 3 → [pl, md, af, nx, cl, cf].Nodup
  bel : Below w.heap.size w wr
/-- .. and the heads and links of the lists. -/
structure NP1 (w wr : World) (v : Int) (n nt : Nat) (pl md af nx fi la cl cf : Nat) (F L : Nat → Int) : Prop where
  bpl : Blk wr pl (plCells md af nx n (csV v cl 0 n) (cfV v cf nt)) 94
  bmd : Blk wr md (irow .u8 n (fun _ => 0)) 95
  baf : Blk wr af (irow .i32 n minus) 21
  bnx : Blk wr nx (irow .i32 n minus) 21
  bfi : Blk wr fi (irow .i32 nt F) 21
  bla : Blk wr la (irow .i32 n L) 21
  bcl : v = 3 → Blk wr cl (fc (n * 2) (clCell (fun _ => 0) (fun _ => 0))) 97
  bcf : v = 3 → Blk wr cf (irow .i32 (nt + 1) (fun _ => 0)) 21
  new : w.heap.size ≤ pl ∧ w.heap.size ≤ md ∧ w.heap.size ≤ af ∧ w.heap.size ≤ nx ∧ w.heap.size ≤ fi ∧ w.heap.size ≤ la
  newc : v = 3 → w.heap.size ≤ cl ∧ w.heap.size ≤ cf
  nd : [pl, md, af, nx, fi, la].Nodup
  ndc : v = 3 → [pl, md, af, nx, fi, la, cl, cf].Nodup
  bel : Below w.heap.size w wr
section
variable {w wr : World} {v : Int} {n nt : Nat} {pl md af nx fi la cl cf : Nat} {F L : Nat → Int}
theorem Pl1.of0 (h : Pl0 w wr pl md af nx n) (hv : v ≠ 3) : Pl1 w wr v n nt pl md af nx 0 0 := by
  have e1 : csV v 0 0 n = .slice none 0 0 := by unfold csV; rw [if_neg hv]
  have e2 : cfV v 0 nt = .slice none 0 0 := by unfold cfV; rw [if_neg hv]
  refine ⟨by rw [e1, e2]; exact h.bpl, h.bmd, h.baf, h.bnx, fun e => absurd e hv, fun e => absurd e hv, h.new, fun e => absurd e hv, ?_, fun e => absurd e hv, h.bel⟩
  have := h.ne
  simp; omega
theorem NP1.drew (h : NP1 w wr v n nt pl md af nx fi la cl cf F L) : NP1 w wr.drew v n nt pl md af nx fi la cl cf F L :=
  ⟨h.bpl, h.bmd, h.baf, h.bnx, h.bfi, h.bla, h.bcl, h.bcf, h.new, h.newc, h.nd, h.ndc, h.bel.drew⟩
theorem NP1.alloc (h : NP1 w wr v n nt pl md af nx fi la cl cf F L) (o : Obj) : NP1 w (wr.alloc o) v n nt pl md af nx fi la cl cf F L :=
  ⟨h.bpl.alloc o, h.bmd.alloc o, h.baf.alloc o, h.bnx.alloc o, h.bfi.alloc o, h.bla.alloc o, fun e => (h.bcl e).alloc o, fun e => (h.bcf e).alloc o, h.new, h.newc, h.nd, h.ndc, h.bel.alloc h.bel.size o⟩
theorem NP1.set_fi (h : NP1 w wr v n nt pl md af nx fi la cl cf F L) (c : Nat) (x : Int) : NP1 w (wr.setCell ⟨fi, c, none⟩ (.int .i32 x)) v n nt pl md af nx fi la cl cf  (upd F c x) L :=
  ⟨h.bpl.setOther (nd_ne (i := 0) (j := 4) h.nd rfl rfl (by decide)) _, h.bmd.setOther (nd_ne (i := 1) (j := 4) h.nd rfl rfl (by decide)) _, h.baf.setOther (nd_ne (i := 2) (j := 4) h.nd rfl rfl (by decide)) _, h.bnx.setOther (nd_ne (i := 3) (j := 4) h.nd rfl rfl (by decide)) _, h.bfi.rset c x, h.bla.setOther (nd_ne (i := 5) (j := 4) h.nd rfl rfl (by decide)) _, fun e => (h.bcl e).setOther (nd_ne (i := 6) (j := 4) (h.ndc e) rfl rfl (by decide)) _, fun e => (h.bcf e).setOther (nd_ne (i := 7) (j := 4) (h.ndc e) rfl rfl (by decide)) _, h.new, h.newc, h.nd, h.ndc, h.bel.setCell (by have := h.new; simp; omega) _⟩
theorem NP1.set_la (h : NP1 w wr v n nt pl md af nx fi la cl cf F L) (c : Nat) (x : Int) : NP1 w (wr.setCell ⟨la, c, none⟩ (.int .i32 x)) v n nt pl md af nx fi la cl cf F (upd L c x) :=
  ⟨h.bpl.setOther (nd_ne (i := 0) (j := 5) h.nd rfl rfl (by decide)) _, h.bmd.setOther (nd_ne (i := 1) (j := 5) h.nd rfl rfl (by decide)) _, h.baf.setOther (nd_ne (i := 2) (j := 5) h.nd rfl rfl (by decide)) _, h.bnx.setOther (nd_ne (i := 3) (j := 5) h.nd rfl rfl (by decide)) _, h.bfi.setOther (nd_ne (i := 4) (j := 5) h.nd rfl rfl (by decide)) _, h.bla.rset c x, fun e => (h.bcl e).setOther (nd_ne (i := 6) (j := 5) (h.ndc e) rfl rfl (by decide)) _, fun e => (h.bcf e).setOther (nd_ne (i := 7) (j := 5) (h.ndc e) rfl rfl (by decide)) _, h.new, h.newc, h.nd, h.ndc, h.bel.setCell (by have := h.new; simp; omega) _⟩
theorem two_A {wc w' : World} {a b : Nat} (h : Add wc.drew w' (irow .i32 a minus) 21) :
    Blk (w'.alloc (.cells (madeCells #[.int .i32 0] b) 21)) wc.heap.size (irow .i32 a minus) 21 ∧ Blk (w'.alloc (.cells (madeCells #[.int .i32 0] b) 21)) (wc.heap.size + 1) (irow .i32 b (fun _ => 0)) 21 ∧ Below wc.heap.size wc (w'.alloc (.cells (madeCells #[.int .i32 0] b) 21)) := by
  have h1 := h.drew
  have h2 := Add.made w' .i32 b 21
  obtain ⟨b1, b2, l1, l2, bl⟩ := add2 h1 h2
  rw [h1.size] at b2
  exact ⟨b1, b2, bl⟩
theorem two_B {wc w' : World} {a b : Nat} (h : Add (wc.alloc (.cells (madeCells #[.int .i32 0] b) 21)).drew w' (irow .i32 a minus) 21) :
    Blk w' (wc.heap.size + 1) (irow .i32 a minus) 21 ∧ Blk w' wc.heap.size (irow .i32 b (fun _ => 0)) 21 ∧ Below wc.heap.size wc w' := by
  have h1 : Add wc (wc.alloc (.cells (madeCells #[.int .i32 0] b) 21)).drew (irow .i32 b (fun _ => 0)) 21 := ⟨(Blk.made wc .i32 b 21).drew, ((Below.refl _ _).alloc (Nat.le_refl _) _).drew, alloc_size _ _⟩
  obtain ⟨b1, b2, l1, l2, bl⟩ := add2 h1 h
  rw [h1.size] at b2
  exact ⟨b2, b1, bl⟩
/-- A list of old numbers and two new ones. -/
theorem nd_two {l : List Nat} {a b B : Nat} (h : l.Nodup) (hl : ∀ x ∈ l, x < B) (ha : B ≤ a) (hb : B ≤ b) (hab : a ≠ b) : (l ++ [a, b]).Nodup := by
  rw [List.nodup_append]
  refine ⟨h, by simp [hab], fun x hx y hy => ?_⟩
  have := hl x hx
  simp at hy
  rcases hy with rfl | rfl <;> omega
theorem np1_mk {w2 : World} (h : Pl1 w wr v n nt pl md af nx cl cf) (bfi : Blk w2 fi (irow .i32 nt F) 21) (bla : Blk w2 la (irow .i32 n L) 21) (f1 : wr.heap.size ≤ fi) (f2 : wr.heap.size ≤ la) (hne : fi ≠ la) (bl : Below wr.heap.size wr w2) : NP1 w w2 v n nt pl md af nx fi la cl cf F L := by
  have l1 := h.bpl.lt
  have l2 := h.bmd.lt
  have l3 := h.baf.lt
  have l4 := h.bnx.lt
  have hw := h.bel.size
  refine ⟨h.bpl.below bl l1, h.bmd.below bl l2, h.baf.below bl l3, h.bnx.below bl l4, bfi, bla, fun e => (h.bcl e).below bl (h.bcl e).lt, fun e => (h.bcf e).below bl (h.bcf e).lt, ?_, h.newc, ?_, fun e => ?_, h.bel.trans (bl.mono hw)⟩
  · have := h.new; omega
  · exact nd_two (B := wr.heap.size) h.nd (fun x hx => by simp at hx; omega) f1 f2 hne
  · have l5 := (h.bcl e).lt
    have l6 := (h.bcf e).lt
    have hc := h.ndc e
    have h2 := nd_two (B := wr.heap.size) hc (fun x hx => by simp at hx; omega) f1 f2 hne
    have p : [pl, md, af, nx, cl, cf, fi, la].Perm [pl, md, af, nx, fi, la, cl, cf] := by
      refine List.Perm.cons _ (List.Perm.cons _ (List.Perm.cons _ (List.Perm.cons _ ?_)))
      exact List.perm_append_comm (l₁ := [cl, cf]) (l₂ := [fi, la])
    exact p.nodup h2
theorem np_mk {w2 : World} {ni fo lo : Nat} {FO LO : Nat → Int} (h : NP1 w wr v n nt pl md af nx fi la cl cf F L) (bfo : Blk w2 fo (irow .i32 ni FO) 21) (blo : Blk w2 lo (irow .i32 ni LO) 21) (f1 : wr.heap.size ≤ fo) (f2 : wr.heap.size ≤ lo) (hne : fo ≠ lo) (bl : Below wr.heap.size wr w2) :
    ∃ cl' cf', (v = 3 → cl' = cl ∧ cf' = cf) ∧ NP w w2 v n nt ni pl md af nx fi la fo lo cl' cf' (fun _ => 0) minus minus F L FO LO (fun _ => 0) (fun _ => 0) (fun _ => 0) 0 := by
  have l1 := h.bpl.lt
  have l2 := h.bmd.lt
  have l3 := h.baf.lt
  have l4 := h.bnx.lt
  have l5 := h.bfi.lt
  have l6 := h.bla.lt
  have hw := h.bel.size
  by_cases hv : v = 3
  · refine ⟨cl, cf, fun _ => ⟨rfl, rfl⟩, h.bpl.below bl l1, h.bmd.below bl l2, h.baf.below bl l3, h.bnx.below bl l4, h.bfi.below bl l5, h.bla.below bl l6, bfo, blo, fun e => (h.bcl e).below bl (h.bcl e).lt, fun e => (h.bcf e).below bl (h.bcf e).lt, ?_, ?_, h.bel.trans (bl.mono hw)⟩
    · have := h.new; have := h.newc hv; omega
    · have l7 := (h.bcl hv).lt
      have l8 := (h.bcf hv).lt
      have h2 := nd_two (B := wr.heap.size) (h.ndc hv) (fun x hx => by simp at hx; omega) f1 f2 hne
      have p : [pl, md, af, nx, fi, la, cl, cf, fo, lo].Perm [pl, md, af, nx, fi, la, fo, lo, cl, cf] := by
        refine List.Perm.cons _ (List.Perm.cons _ (List.Perm.cons _ (List.Perm.cons _ (List.Perm.cons _ (List.Perm.cons _ ?_)))))
        exact List.perm_append_comm (l₁ := [cl, cf]) (l₂ := [fo, lo])
      exact p.nodup h2
  · refine ⟨fo + lo + wr.heap.size + 1, fo + lo + wr.heap.size + 2, fun e => absurd e hv, ?_, h.bmd.below bl l2, h.baf.below bl l3, h.bnx.below bl l4, h.bfi.below bl l5, h.bla.below bl l6, bfo, blo, fun e => absurd e hv, fun e => absurd e hv, ?_, ?_, h.bel.trans (bl.mono hw)⟩
    · have e1 : csV v (fo + lo + wr.heap.size + 1) 0 n = csV v cl 0 n := by unfold csV; rw [if_neg hv, if_neg hv]
      have e2 : cfV v (fo + lo + wr.heap.size + 2) nt = cfV v cf nt := by unfold cfV; rw [if_neg hv, if_neg hv]
      rw [e1, e2]
      exact h.bpl.below bl l1
    · have := h.new; omega
    · have h2 := nd_two (B := wr.heap.size) h.nd (fun x hx => by simp at hx; omega) f1 f2 hne
      exact nd_two (B := fo + lo + wr.heap.size + 1) h2 (fun x hx => by simp at hx; omega) (by omega) (by omega) (by omega)
end
end Go.Proofs.Qxb6605516a
