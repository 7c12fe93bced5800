import Derived.Test.Qxb6605516aPlanG
import Derived.Test.Qxb6605516aPlanS
import Derived.Deep.RegionHeldLaw
import Derived.Deep.RegionLaw
namespace Go.Proofs.Qxb6605516a
open Go.RowKit
set_option linter.unusedVariables false

theorem made_claims (n : Nat) : madeCells #[.int .i32 0, .int .u8 0] (n * 2) = fc (n * 2) (clCell (fun _ => 0) (fun _ => 0)) := by
  apply Array.ext
  · simp [fc, madeCells]
  · intro i h1 h2
    simp only [fc, madeCells, List.getElem_toArray, List.getElem_map, List.getElem_range, Array.getElem_map, Array.getElem_range, clCell]
    rcases (show i % 2 = 0 ∨ i % 2 = 1 from by omega) with e | e <;> simp [e]
theorem make_claims (n : Nat) (h : n ≤ 4096) (w : World) : (Instr.makeSlice 92 (.int .i64 0) (.int .i64 (n : Int))).run Try.prog w = .ok (.slice (some ⟨w.heap.size, 0, none⟩) 0 n) (w.alloc (.cells (fc (n * 2) (clCell (fun _ => 0) (fun _ => 0))) 97)) := by
  have hi : (Try.prog.info? 97).map (fun i => (i.zero, i.size, i.bytes)) = some (some (.agg #[.int .i32 0, .int .u8 0]), 2, 8) := by kernel_rfl
  obtain ⟨i, hi, hzz⟩ := Option.map_eq_some_iff.1 hi
  simp only [Prod.mk.injEq] at hzz
  obtain ⟨hz, hs, hb⟩ := hzz
  have hr := run_make (P := Try.prog) w 92 97 i _ Try.underlying92 hi hz .i64 .i64 0 n (by omega) (by omega) (by rw [hb]; omega) (by omega)
  simp only [Int.toNat_natCast, hs, Value.cells, Int.toNat_zero] at hr
  rw [hr, made_claims]
section
variable {w wr : World} {v : Int} {n nt ni : Nat} {pl md af nx fi la fo lo cl cf : Nat} {M A N F L FO LO CI CM CF : Nat → Int} {len : Nat}
theorem csV3 (cl len n : Nat) : csV 3 cl len n = .slice (some ⟨cl, 0, none⟩) len n := by unfold csV; rw [if_pos rfl]
theorem cfV3 (cf nt : Nat) : cfV 3 cf nt = .slice (some ⟨cf, 0, none⟩) (nt + 1) (nt + 1) := by unfold cfV; rw [if_pos rfl]
/-- A claim more. -/
theorem NP.app (h : NP w wr v n nt ni pl md af nx fi la fo lo cl cf M A N F L FO LO CI CM CF len) (hv : v = 3) (o : Obj) (x m : Int) :
    NP w ((((wr.alloc o).setCell ⟨cl, len * 2, none⟩ (.int .i32 x)).setCell ⟨cl, len * 2 + 1, none⟩ (.int .u8 m)).setCell ⟨pl, 3, none⟩ (.slice (some ⟨cl, 0, none⟩) (len + 1) n)) v n nt ni pl md af nx fi la fo lo cl cf M A N F L FO LO (upd CI len x) (upd CM len m) CF (len + 1) := by
  have h1 := h.alloc o
  have hn := h.new
  refine ⟨?_, ?_, ?_, ?_, ?_, ?_, ?_, ?_, fun e => ?_, fun e => ?_, h.new, h.nd, ?_⟩
  · have q := ((h1.bpl.setOther (a := ⟨cl, len * 2, none⟩) (nd_ne (i := 0) (j := 8) h.nd rfl rfl (by decide)) (.int .i32 x)).setOther (a := ⟨cl, len * 2 + 1, none⟩) (nd_ne (i := 0) (j := 8) h.nd rfl rfl (by decide)) (.int .u8 m)).set 3 (.slice (some ⟨cl, 0, none⟩) (len + 1) n)
    subst hv
    rw [csV3] at q ⊢
    exact q
  · exact ((h1.bmd.setOther (nd_ne (i := 1) (j := 8) h.nd rfl rfl (by decide)) _).setOther (nd_ne (i := 1) (j := 8) h.nd rfl rfl (by decide)) _).setOther (nd_ne (i := 1) (j := 0) h.nd rfl rfl (by decide)) _
  · exact ((h1.baf.setOther (nd_ne (i := 2) (j := 8) h.nd rfl rfl (by decide)) _).setOther (nd_ne (i := 2) (j := 8) h.nd rfl rfl (by decide)) _).setOther (nd_ne (i := 2) (j := 0) h.nd rfl rfl (by decide)) _
  · exact ((h1.bnx.setOther (nd_ne (i := 3) (j := 8) h.nd rfl rfl (by decide)) _).setOther (nd_ne (i := 3) (j := 8) h.nd rfl rfl (by decide)) _).setOther (nd_ne (i := 3) (j := 0) h.nd rfl rfl (by decide)) _
  · exact ((h1.bfi.setOther (nd_ne (i := 4) (j := 8) h.nd rfl rfl (by decide)) _).setOther (nd_ne (i := 4) (j := 8) h.nd rfl rfl (by decide)) _).setOther (nd_ne (i := 4) (j := 0) h.nd rfl rfl (by decide)) _
  · exact ((h1.bla.setOther (nd_ne (i := 5) (j := 8) h.nd rfl rfl (by decide)) _).setOther (nd_ne (i := 5) (j := 8) h.nd rfl rfl (by decide)) _).setOther (nd_ne (i := 5) (j := 0) h.nd rfl rfl (by decide)) _
  · exact ((h1.bfo.setOther (nd_ne (i := 6) (j := 8) h.nd rfl rfl (by decide)) _).setOther (nd_ne (i := 6) (j := 8) h.nd rfl rfl (by decide)) _).setOther (nd_ne (i := 6) (j := 0) h.nd rfl rfl (by decide)) _
  · exact ((h1.blo.setOther (nd_ne (i := 7) (j := 8) h.nd rfl rfl (by decide)) _).setOther (nd_ne (i := 7) (j := 8) h.nd rfl rfl (by decide)) _).setOther (nd_ne (i := 7) (j := 0) h.nd rfl rfl (by decide)) _
  · have q := (((h1.bcl e).set (len * 2) (.int .i32 x)).set (len * 2 + 1) (.int .u8 m)).setOther (a := ⟨pl, 3, none⟩) (nd_ne (i := 8) (j := 0) h.nd rfl rfl (by decide)) (.slice (some ⟨cl, 0, none⟩) (len + 1) n)
    rw [fc_set, fc_set, upd2] at q
    exact q
  · exact (((h1.bcf e).setOther (nd_ne (i := 9) (j := 8) h.nd rfl rfl (by decide)) _).setOther (nd_ne (i := 9) (j := 8) h.nd rfl rfl (by decide)) _).setOther (nd_ne (i := 9) (j := 0) h.nd rfl rfl (by decide)) _
  · exact ((h1.bel.setCell (by simp; omega) _).setCell (by simp; omega) _).setCell (by simp; omega) _
/-- The claims' room is made. -/
theorem pl1_3 (h : Pl0 w wr pl md af nx n) (hv : v = 3) :
    Pl1 w (((((wr.alloc (.cells (fc (n * 2) (clCell (fun _ => 0) (fun _ => 0))) 97)).setCell ⟨pl, 3, none⟩ (.slice (some ⟨wr.heap.size, 0, none⟩) 0 n)).alloc (.cells (madeCells #[.int .i32 0] (nt + 1)) 21))).setCell ⟨pl, 4, none⟩ (.slice (some ⟨wr.heap.size + 1, 0, none⟩) (nt + 1) (nt + 1))) v n nt pl md af nx wr.heap.size (wr.heap.size + 1) := by
  have l1 := h.bpl.lt
  have l2 := h.bmd.lt
  have l3 := h.baf.lt
  have l4 := h.bnx.lt
  have hn := h.new
  have hne := h.ne
  have hs := h.bel.size
  subst hv
  have e1 : ((wr.alloc (.cells (fc (n * 2) (clCell (fun _ => 0) (fun _ => 0))) 97)).setCell ⟨pl, 3, none⟩ (.slice (some ⟨wr.heap.size, 0, none⟩) 0 n)).heap.size = wr.heap.size + 1 := by simp [World.setCell]
  refine ⟨?_, ?_, ?_, ?_, fun _ => ?_, fun _ => ?_, h.new, fun _ => by omega, ?_, fun _ => ?_, ?_⟩
  · have q := (((h.bpl.alloc (.cells (fc (n * 2) (clCell (fun _ => 0) (fun _ => 0))) 97)).set 3 (.slice (some ⟨wr.heap.size, 0, none⟩) 0 n)).alloc (.cells (madeCells #[.int .i32 0] (nt + 1)) 21)).set 4 (.slice (some ⟨wr.heap.size + 1, 0, none⟩) (nt + 1) (nt + 1))
    rw [csV3, cfV3]
    exact q
  · exact (((h.bmd.alloc _).setOther (by simp; omega) _).alloc _).setOther (by simp; omega) _
  · exact (((h.baf.alloc _).setOther (by simp; omega) _).alloc _).setOther (by simp; omega) _
  · exact (((h.bnx.alloc _).setOther (by simp; omega) _).alloc _).setOther (by simp; omega) _
  · exact (((Blk.new wr _ 97).setOther (by simp; omega) _).alloc _).setOther (by simp; omega) _
  · have q := Blk.made ((wr.alloc (.cells (fc (n * 2) (clCell (fun _ => 0) (fun _ => 0))) 97)).setCell ⟨pl, 3, none⟩ (.slice (some ⟨wr.heap.size, 0, none⟩) 0 n)) .i32 (nt + 1) 21
    rw [e1] at q
    exact q.setOther (by simp; omega) _
  · simp; omega
  · simp; omega
  · exact (((h.bel.alloc hs _).setCell (by simp; omega) _).alloc (by rw [e1]; omega) _).setCell (by simp; omega) _
theorem pl1_3' (h : Pl0 w wr pl md af nx n) (hv : v = 3) :
    Pl1 w ((((wr.setCell ⟨pl, 3, none⟩ (.slice (some ⟨wr.heap.size, 0, none⟩) 0 n)).setCell ⟨pl, 4, none⟩ (.slice (some ⟨wr.heap.size + 1, 0, none⟩) (nt + 1) (nt + 1))).alloc (.cells (fc (n * 2) (clCell (fun _ => 0) (fun _ => 0))) 97)).alloc (.cells (madeCells #[.int .i32 0] (nt + 1)) 21)) v n nt pl md af nx wr.heap.size (wr.heap.size + 1) := by
  have l1 := h.bpl.lt
  have l2 := h.bmd.lt
  have l3 := h.baf.lt
  have l4 := h.bnx.lt
  have hn := h.new
  have hne := h.ne
  have hs := h.bel.size
  subst hv
  have e1 : ((wr.setCell ⟨pl, 3, none⟩ (.slice (some ⟨wr.heap.size, 0, none⟩) 0 n)).setCell ⟨pl, 4, none⟩ (.slice (some ⟨wr.heap.size + 1, 0, none⟩) (nt + 1) (nt + 1))).heap.size = wr.heap.size := by simp [World.setCell]
  refine ⟨?_, ?_, ?_, ?_, fun _ => ?_, fun _ => ?_, h.new, fun _ => by omega, ?_, fun _ => ?_, ?_⟩
  · have q := (((h.bpl.set 3 (.slice (some ⟨wr.heap.size, 0, none⟩) 0 n)).set 4 (.slice (some ⟨wr.heap.size + 1, 0, none⟩) (nt + 1) (nt + 1))).alloc (.cells (fc (n * 2) (clCell (fun _ => 0) (fun _ => 0))) 97)).alloc (.cells (madeCells #[.int .i32 0] (nt + 1)) 21)
    rw [csV3, cfV3]
    exact q
  · exact (((h.bmd.setOther (by simp; omega) _).setOther (by simp; omega) _).alloc _).alloc _
  · exact (((h.baf.setOther (by simp; omega) _).setOther (by simp; omega) _).alloc _).alloc _
  · exact (((h.bnx.setOther (by simp; omega) _).setOther (by simp; omega) _).alloc _).alloc _
  · have q := Blk.new ((wr.setCell ⟨pl, 3, none⟩ (.slice (some ⟨wr.heap.size, 0, none⟩) 0 n)).setCell ⟨pl, 4, none⟩ (.slice (some ⟨wr.heap.size + 1, 0, none⟩) (nt + 1) (nt + 1))) (fc (n * 2) (clCell (fun _ => 0) (fun _ => 0))) 97
    rw [e1] at q
    exact q.alloc _
  · have q := Blk.made (((wr.setCell ⟨pl, 3, none⟩ (.slice (some ⟨wr.heap.size, 0, none⟩) 0 n)).setCell ⟨pl, 4, none⟩ (.slice (some ⟨wr.heap.size + 1, 0, none⟩) (nt + 1) (nt + 1))).alloc (.cells (fc (n * 2) (clCell (fun _ => 0) (fun _ => 0))) 97)) .i32 (nt + 1) 21
    rw [alloc_size, e1] at q
    exact q
  · simp; omega
  · simp; omega
  · exact (((h.bel.setCell (by simp; omega) _).setCell (by simp; omega) _).alloc (by rw [e1]; omega) _).alloc (by rw [alloc_size, e1]; omega) _
theorem NP.app' (h : NP w wr v n nt ni pl md af nx fi la fo lo cl cf M A N F L FO LO CI CM CF len) (hv : v = 3) (o : Obj) (x m : Int) :
    NP w ((((wr.setCell ⟨cl, len * 2, none⟩ (.int .i32 x)).setCell ⟨cl, len * 2 + 1, none⟩ (.int .u8 m)).setCell ⟨pl, 3, none⟩ (.slice (some ⟨cl, 0, none⟩) (len + 1) n)).alloc o) v n nt ni pl md af nx fi la fo lo cl cf M A N F L FO LO (upd CI len x) (upd CM len m) CF (len + 1) := by
  have hn := h.new
  have hs := h.bel.size
  refine ⟨?_, ?_, ?_, ?_, ?_, ?_, ?_, ?_, fun e => ?_, fun e => ?_, h.new, h.nd, ?_⟩
  · have q := (((h.bpl.setOther (a := ⟨cl, len * 2, none⟩) (nd_ne (i := 0) (j := 8) h.nd rfl rfl (by decide)) (.int .i32 x)).setOther (a := ⟨cl, len * 2 + 1, none⟩) (nd_ne (i := 0) (j := 8) h.nd rfl rfl (by decide)) (.int .u8 m)).set 3 (.slice (some ⟨cl, 0, none⟩) (len + 1) n)).alloc o
    subst hv
    rw [csV3] at q ⊢
    exact q
  · exact (((h.bmd.setOther (nd_ne (i := 1) (j := 8) h.nd rfl rfl (by decide)) _).setOther (nd_ne (i := 1) (j := 8) h.nd rfl rfl (by decide)) _).setOther (nd_ne (i := 1) (j := 0) h.nd rfl rfl (by decide)) _).alloc o
  · exact (((h.baf.setOther (nd_ne (i := 2) (j := 8) h.nd rfl rfl (by decide)) _).setOther (nd_ne (i := 2) (j := 8) h.nd rfl rfl (by decide)) _).setOther (nd_ne (i := 2) (j := 0) h.nd rfl rfl (by decide)) _).alloc o
  · exact (((h.bnx.setOther (nd_ne (i := 3) (j := 8) h.nd rfl rfl (by decide)) _).setOther (nd_ne (i := 3) (j := 8) h.nd rfl rfl (by decide)) _).setOther (nd_ne (i := 3) (j := 0) h.nd rfl rfl (by decide)) _).alloc o
  · exact (((h.bfi.setOther (nd_ne (i := 4) (j := 8) h.nd rfl rfl (by decide)) _).setOther (nd_ne (i := 4) (j := 8) h.nd rfl rfl (by decide)) _).setOther (nd_ne (i := 4) (j := 0) h.nd rfl rfl (by decide)) _).alloc o
  · exact (((h.bla.setOther (nd_ne (i := 5) (j := 8) h.nd rfl rfl (by decide)) _).setOther (nd_ne (i := 5) (j := 8) h.nd rfl rfl (by decide)) _).setOther (nd_ne (i := 5) (j := 0) h.nd rfl rfl (by decide)) _).alloc o
  · exact (((h.bfo.setOther (nd_ne (i := 6) (j := 8) h.nd rfl rfl (by decide)) _).setOther (nd_ne (i := 6) (j := 8) h.nd rfl rfl (by decide)) _).setOther (nd_ne (i := 6) (j := 0) h.nd rfl rfl (by decide)) _).alloc o
  · exact (((h.blo.setOther (nd_ne (i := 7) (j := 8) h.nd rfl rfl (by decide)) _).setOther (nd_ne (i := 7) (j := 8) h.nd rfl rfl (by decide)) _).setOther (nd_ne (i := 7) (j := 0) h.nd rfl rfl (by decide)) _).alloc o
  · have q := ((((h.bcl e).set (len * 2) (.int .i32 x)).set (len * 2 + 1) (.int .u8 m)).setOther (a := ⟨pl, 3, none⟩) (nd_ne (i := 8) (j := 0) h.nd rfl rfl (by decide)) (.slice (some ⟨cl, 0, none⟩) (len + 1) n)).alloc o
    rw [fc_set, fc_set, upd2] at q
    exact q
  · exact ((((h.bcf e).setOther (nd_ne (i := 9) (j := 8) h.nd rfl rfl (by decide)) _).setOther (nd_ne (i := 9) (j := 8) h.nd rfl rfl (by decide)) _).setOther (nd_ne (i := 9) (j := 0) h.nd rfl rfl (by decide)) _).alloc o
  · exact (((h.bel.setCell (by simp; omega) _).setCell (by simp; omega) _).setCell (by simp; omega) _).alloc (by simp [World.setCell]; omega) _
theorem app_news (W : World) (x m : Int) : ∀ (j : Nat) (u : Value), ([.int .i32 x, .int .u8 m] : List Value)[j]? = some u → (W.alloc (.cells #[.int .i32 x, .int .u8 m] 97)).cell? ((⟨W.heap.size, 0, none⟩ : Addr).add j) = some u := by
  intro j u h
  have hb := Blk.new W #[.int .i32 x, .int .u8 m] 97
  rcases j with _ | _ | j
  · have e : (⟨W.heap.size, 0, none⟩ : Addr).add 0 = ⟨W.heap.size, 0, none⟩ := by simp [Addr.add]
    rw [e, hb.cell]; simpa using h
  · have e : (⟨W.heap.size, 0, none⟩ : Addr).add 1 = ⟨W.heap.size, 1, none⟩ := by simp [Addr.add]
    simp only [Nat.zero_add]
    rw [e, hb.cell]; simpa using h
  · simp at h
theorem app_one (x m : Int) : ∀ u ∈ ([.int .i32 x, .int .u8 m] : List Value), u.oneCell' = true := by
  intro u hu
  simp at hu
  rcases hu with rfl | rfl <;> rfl
theorem app_spare {W : World} {cl n len : Nat} {f : Nat → Value} (h : Blk W cl (fc (n * 2) f) 97) (hl : len < n) (o : Obj) : ∀ j, j < 2 → ((W.alloc o).cell? ⟨cl, 0 + len * 2 + j, none⟩).isSome = true ∧ (W.alloc o).frozen? ⟨cl, 0 + len * 2 + j, none⟩ = false := by
  intro j hj
  have hb := h.alloc o
  refine ⟨?_, hb.free _⟩
  rw [hb.fcell _ (by omega)]
  rfl
theorem info97 : (Try.prog.info? 97).map (fun i => i.size) = some 2 := by kernel_rfl
end
end Go.Proofs.Qxb6605516a
