import Derived.Test.Qxb6605516aPlanC
import Derived.Test.Qxb6605516aPlanP
namespace Go.Proofs.Qxb6605516a
open Go.RowKit
set_option linter.unusedVariables false

/-- One block more. -/
structure Add (w w' : World) (cs : Array Value) (T : TypeId) : Prop where
  blk : Blk w' w.heap.size cs T
  bel : Below w.heap.size w w'
  size : w'.heap.size = w.heap.size + 1
theorem Add.made (w : World) (k : IntKind) (n : Nat) (T : TypeId) : Add w (w.alloc (.cells (madeCells #[.int k 0] n) T)) (irow k n (fun _ => 0)) T :=
  ⟨Blk.made w k n T, (Below.refl _ _).alloc (Nat.le_refl _) _, alloc_size _ _⟩
theorem Add.ofNew {w w' : World} {e : Ending} {n : Nat} {F : Nat → Int} (h : NewRow w w' e n F) : Add w w' (irow .i32 n F) 21 := ⟨h.blk, h.bel, h.size⟩
theorem Add.drew {w w' : World} {cs : Array Value} {T : TypeId} (h : Add w.drew w' cs T) : Add w w' cs T := ⟨h.blk, ⟨h.bel.os, h.bel.tape, h.bel.output, h.bel.size, h.bel.block⟩, h.size⟩
theorem addS {w w' : World} {cs : Array Value} {T : TypeId} {p : Addr} {v : Value} (h : Add w w' cs T) (hs : w.cell? p = some v ∧ p.block < w.heap.size) : w'.cell? p = some v ∧ p.block < w'.heap.size :=
  ⟨by rw [h.bel.cell hs.2]; exact hs.1, by rw [h.size]; omega⟩
theorem addA {w : World} {o : Obj} {p : Addr} {v : Value} (hs : w.cell? p = some v ∧ p.block < w.heap.size) : (w.alloc o).cell? p = some v ∧ p.block < (w.alloc o).heap.size :=
  ⟨by rw [((Below.refl w.heap.size w).alloc (Nat.le_refl _) o).cell hs.2]; exact hs.1, by rw [alloc_size]; omega⟩
theorem addS2 {w w' : World} {cs : Array Value} {T : TypeId} {p q : Addr} {u v : Value} (h : Add w w' cs T) (hs : (w.cell? p = some v ∧ p.block < w.heap.size) ∧ (w.cell? q = some u ∧ q.block < w.heap.size)) : (w'.cell? p = some v ∧ p.block < w'.heap.size) ∧ (w'.cell? q = some u ∧ q.block < w'.heap.size) :=
  ⟨addS h hs.1, addS h hs.2⟩
theorem addA2 {w : World} {o : Obj} {p q : Addr} {u v : Value} (hs : (w.cell? p = some v ∧ p.block < w.heap.size) ∧ (w.cell? q = some u ∧ q.block < w.heap.size)) : ((w.alloc o).cell? p = some v ∧ p.block < (w.alloc o).heap.size) ∧ ((w.alloc o).cell? q = some u ∧ q.block < (w.alloc o).heap.size) :=
  ⟨addA hs.1, addA hs.2⟩
/-- Three blocks more, in whatever order they were made. -/
theorem add3 {w0 w1 w2 w3 : World} {c1 c2 c3 : Array Value} {T1 T2 T3 : TypeId} (h1 : Add w0 w1 c1 T1) (h2 : Add w1 w2 c2 T2) (h3 : Add w2 w3 c3 T3) :
    Blk w3 w0.heap.size c1 T1 ∧ Blk w3 w1.heap.size c2 T2 ∧ Blk w3 w2.heap.size c3 T3 ∧ w0.heap.size < w1.heap.size ∧ w1.heap.size < w2.heap.size ∧ w2.heap.size < w3.heap.size ∧ Below w0.heap.size w0 w3 := by
  have s1 := h1.size
  have s2 := h2.size
  have s3 := h3.size
  refine ⟨(h1.blk.below h2.bel (by omega)).below h3.bel (by omega), h2.blk.below h3.bel (by omega), h3.blk, by omega, by omega, by omega, ?_⟩
  exact (h1.bel.trans (h2.bel.mono (by omega))).trans (h3.bel.mono (by omega))
theorem add2 {w0 w1 w2 : World} {c1 c2 : Array Value} {T1 T2 : TypeId} (h1 : Add w0 w1 c1 T1) (h2 : Add w1 w2 c2 T2) :
    Blk w2 w0.heap.size c1 T1 ∧ Blk w2 w1.heap.size c2 T2 ∧ w0.heap.size < w1.heap.size ∧ w1.heap.size < w2.heap.size ∧ Below w0.heap.size w0 w2 := by
  have s1 := h1.size
  have s2 := h2.size
  refine ⟨h1.blk.below h2.bel (by omega), h2.blk, by omega, by omega, ?_⟩
  exact h1.bel.trans (h2.bel.mono (by omega))

theorem info_mode : (Try.prog.info? 95).map (fun i => (i.zero, i.size, i.bytes)) = some (some (.int .u8 0), 1, 1) := by kernel_rfl
theorem make_mode (n : Nat) (h : n ≤ 4096) (w : World) : (Instr.makeSlice 91 (.int .i64 (n : Int)) (.int .i64 (n : Int))).run Try.prog w = .ok (.slice (some ⟨w.heap.size, 0, none⟩) n n) (w.alloc (.cells (madeCells #[.int .u8 0] n) 95)) :=
  run_make_row' 91 95 (.int .u8 0) 1 Try.underlying91 info_mode rfl .i64 .i64 n (by omega) (by omega) w

/-- The plan's own cells. -/
def plCells (md af nx n : Nat) (cs cf : Value) : Array Value := #[.slice (some ⟨md, 0, none⟩) n n, .slice (some ⟨af, 0, none⟩) n n, .slice (some ⟨nx, 0, none⟩) n n, cs, cf]

/-- The history that is planned. -/
structure Hist (w : World) (bh n nt ni : Nat) (K T X : Nat → Int) (ha : Option Addr) (hc : Nat) (ta : Option Addr) (tc : Nat) (ia : Option Addr) (ic : Nat) (l : ByteArray) : Prop where
  blk : Blk w bh #[.slice ha n hc, .slice ta nt tc, .slice ia ni ic, .string l] 32
  sl : SlA w ha n 3 (opCell K T X)
theorem Hist.cells {w : World} {bh n nt ni : Nat} {K T X : Nat → Int} {ha : Option Addr} {hc : Nat} {ta : Option Addr} {tc : Nat} {ia : Option Addr} {ic : Nat} {l : ByteArray} (h : Hist w bh n nt ni K T X ha hc ta tc ia ic l) :
    w.cell? ⟨bh, 0, none⟩ = some (.slice ha n hc) ∧ w.cell? ⟨bh, 1, none⟩ = some (.slice ta nt tc) ∧ w.cell? ⟨bh, 2, none⟩ = some (.slice ia ni ic) := ⟨h.blk.cell 0, h.blk.cell 1, h.blk.cell 2⟩
theorem Hist.below {w w' : World} {bh n nt ni : Nat} {K T X : Nat → Int} {ha : Option Addr} {hc : Nat} {ta : Option Addr} {tc : Nat} {ia : Option Addr} {ic : Nat} {l : ByteArray} (h : Hist w bh n nt ni K T X ha hc ta tc ia ic l) (hb : Below w.heap.size w w') : Hist w' bh n nt ni K T X ha hc ta tc ia ic l :=
  ⟨h.blk.below hb h.blk.lt, h.sl.below hb⟩

/-- The plan, made and empty. -/
structure Pl0 (w wr : World) (pl md af nx n : Nat) : Prop where
  bpl : Blk wr pl (plCells md af nx n (.slice none 0 0) (.slice none 0 0)) 94
  bmd : Blk wr md (irow .u8 n (fun _ => 0)) 95
  baf : Blk wr af (irow .i32 n minus) 21
  bnx : Blk wr nx (irow .i32 n minus) 21
  new : w.heap.size ≤ pl ∧ w.heap.size ≤ md ∧ w.heap.size ≤ af ∧ w.heap.size ≤ nx
  ne : pl ≠ md ∧ pl ≠ af ∧ pl ≠ nx ∧ md ≠ af ∧ md ≠ nx ∧ af ≠ nx
  bel : Below w.heap.size w wr
theorem Add.below {w w0 w' : World} {cs : Array Value} {T : TypeId} (h : Add w0 w' cs T) (hb : Below w.heap.size w w0) : Below w.heap.size w w' := hb.trans (h.bel.mono hb.size)
theorem pl0_A {w w2 w3 : World} {n : Nat} (h2 : Add (w.alloc (.cells (madeCells #[.int .u8 0] n) 95)).drew w2 (irow .i32 n minus) 21) (h3 : Add w2 w3 (irow .i32 n minus) 21) :
    Pl0 w (w3.alloc (.cells (plCells w.heap.size (w.heap.size + 1) (w.heap.size + 1 + 1) n (.slice none 0 0) (.slice none 0 0)) 94)) (w.heap.size + 1 + 1 + 1) w.heap.size (w.heap.size + 1) (w.heap.size + 1 + 1) n := by
  have h1 : Add w (w.alloc (.cells (madeCells #[.int .u8 0] n) 95)).drew (irow .u8 n (fun _ => 0)) 95 := ⟨(Blk.made w .u8 n 95).drew, ((Below.refl _ _).alloc (Nat.le_refl _) _).drew, alloc_size _ _⟩
  have s1 := h1.size
  have s2 := h2.size
  have s3 := h3.size
  rw [s1] at s2
  obtain ⟨b1, b2, b3, l1, l2, l3, bl⟩ := add3 h1 h2 h3
  rw [s1] at b2
  rw [s2] at b3
  have e : w3.heap.size = w.heap.size + 1 + 1 + 1 := by omega
  have bn := Blk.new w3 (plCells w.heap.size (w.heap.size + 1) (w.heap.size + 1 + 1) n (.slice none 0 0) (.slice none 0 0)) 94
  rw [e] at bn
  exact ⟨bn, b1.alloc _, b2.alloc _, b3.alloc _, ⟨by omega, by omega, by omega, by omega⟩, ⟨by omega, by omega, by omega, by omega, by omega, by omega⟩, bl.alloc (by omega) _⟩
theorem pl0_B {w w1 w3 : World} {n : Nat} (h1 : Add w.drew w1 (irow .i32 n minus) 21) (h3 : Add (w1.alloc (.cells (madeCells #[.int .u8 0] n) 95)) w3 (irow .i32 n minus) 21) :
    Pl0 w (w3.alloc (.cells (plCells (w.heap.size + 1) w.heap.size (w.heap.size + 1 + 1) n (.slice none 0 0) (.slice none 0 0)) 94)) (w.heap.size + 1 + 1 + 1) (w.heap.size + 1) w.heap.size (w.heap.size + 1 + 1) n := by
  have h1 := h1.drew
  have h2 := Add.made w1 .u8 n 95
  have s1 := h1.size
  have s2 := h2.size
  have s3 := h3.size
  obtain ⟨b1, b2, b3, l1, l2, l3, bl⟩ := add3 h1 h2 h3
  have e2 : w1.heap.size = w.heap.size + 1 := s1
  have e3 : (w1.alloc (.cells (madeCells #[.int .u8 0] n) 95)).heap.size = w.heap.size + 1 + 1 := by omega
  rw [e2] at b2
  rw [e3] at b3
  have e : w3.heap.size = w.heap.size + 1 + 1 + 1 := by omega
  have bn := Blk.new w3 (plCells (w.heap.size + 1) w.heap.size (w.heap.size + 1 + 1) n (.slice none 0 0) (.slice none 0 0)) 94
  rw [e] at bn
  exact ⟨bn, b2.alloc _, b1.alloc _, b3.alloc _, ⟨by omega, by omega, by omega, by omega⟩, ⟨by omega, by omega, by omega, by omega, by omega, by omega⟩, bl.alloc (by omega) _⟩
theorem pl0_C {w w1 w2 : World} {n : Nat} (h1 : Add w.drew w1 (irow .i32 n minus) 21) (h2 : Add w1 w2 (irow .i32 n minus) 21) :
    Pl0 w ((w2.alloc (.cells (madeCells #[.int .u8 0] n) 95)).alloc (.cells (plCells (w.heap.size + 1 + 1) w.heap.size (w.heap.size + 1) n (.slice none 0 0) (.slice none 0 0)) 94)) (w.heap.size + 1 + 1 + 1) (w.heap.size + 1 + 1) w.heap.size (w.heap.size + 1) n := by
  have h1 := h1.drew
  have h3 := Add.made w2 .u8 n 95
  have s1 := h1.size
  have s2 := h2.size
  have s3 := h3.size
  obtain ⟨b1, b2, b3, l1, l2, l3, bl⟩ := add3 h1 h2 h3
  have e2 : w1.heap.size = w.heap.size + 1 := s1
  have e3 : w2.heap.size = w.heap.size + 1 + 1 := by omega
  rw [e2] at b2
  rw [e3] at b3
  have e : (w2.alloc (.cells (madeCells #[.int .u8 0] n) 95)).heap.size = w.heap.size + 1 + 1 + 1 := by omega
  have bn := Blk.new (w2.alloc (.cells (madeCells #[.int .u8 0] n) 95)) (plCells (w.heap.size + 1 + 1) w.heap.size (w.heap.size + 1) n (.slice none 0 0) (.slice none 0 0)) 94
  rw [e] at bn
  exact ⟨bn, b3.alloc _, b1.alloc _, b2.alloc _, ⟨by omega, by omega, by omega, by omega⟩, ⟨by omega, by omega, by omega, by omega, by omega, by omega⟩, bl.alloc (by omega) _⟩

end Go.Proofs.Qxb6605516a
