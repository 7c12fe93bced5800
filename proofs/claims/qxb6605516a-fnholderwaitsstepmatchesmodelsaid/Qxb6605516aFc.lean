import Derived.Test.Qxb6605516aMem
import Derived.Deep.OwnRows
import Derived.Deep.DeepCutAuto
import Derived.Deep.CutBlock
import Derived.Deep.RegionHeld3
import Derived.Deep.LoopGhost
namespace Go.Proofs.Qxb6605516a
open Go.RowKit

/-- m cells, told by a function. -/
def fc (m : Nat) (f : Nat → Value) : Array Value := ((List.range m).map f).toArray
def upd {α : Type} (f : Nat → α) (c : Nat) (v : α) : Nat → α := fun d => if d = c then v else f d
theorem upd_same {α : Type} (f : Nat → α) (c : Nat) (v : α) : upd f c v c = v := by simp [upd]
theorem upd_other {α : Type} (f : Nat → α) (c d : Nat) (v : α) (h : d ≠ c) : upd f c v d = f d := by simp [upd, h]
theorem fc_size (m : Nat) (f : Nat → Value) : (fc m f).size = m := by simp [fc]
theorem fc_get (m : Nat) (f : Nat → Value) (c : Nat) (h : c < m) : (fc m f)[c]? = some (f c) := by
  simp [fc, h]
theorem fc_congr (m : Nat) (f g : Nat → Value) (h : ∀ c, c < m → f c = g c) : fc m f = fc m g := by
  unfold fc; congr 1
  exact List.map_congr_left (fun c hc => h c (by simpa using hc))
theorem fc_set (m : Nat) (f : Nat → Value) (c : Nat) (v : Value) : (fc m f).setIfInBounds c v = fc m (upd f c v) := by
  apply Array.ext
  · simp [fc]
  · intro i h1 h2
    simp only [fc, List.setIfInBounds_toArray, List.getElem_toArray, List.getElem_set]
    simp only [List.getElem_map, List.getElem_range, upd]
    by_cases h : c = i
    · subst h; simp
    · simp [h, Ne.symm h]
theorem made_fc (z : Value) (n : Nat) : madeCells #[z] n = fc n (fun _ => z) := by
  apply Array.ext
  · simp [fc, madeCells]
  · intro i h1 h2
    simp [fc, madeCells, Nat.mod_one]

/-- Integers in a row. -/
def irow (k : IntKind) (m : Nat) (F : Nat → Int) : Array Value := fc m (fun i => .int k (F i))
theorem irow_set (k : IntKind) (m : Nat) (F : Nat → Int) (c : Nat) (v : Int) : (irow k m F).setIfInBounds c (.int k v) = irow k m (upd F c v) := by
  unfold irow; rw [fc_set]; apply fc_congr; intro d _
  by_cases h : d = c <;> simp [upd, h]
theorem irow_congr (k : IntKind) (m : Nat) (F G : Nat → Int) (h : ∀ c, c < m → F c = G c) : irow k m F = irow k m G :=
  fc_congr _ _ _ (fun c hc => by rw [h c hc])
theorem Blk.fcell {w : World} {b m : Nat} {f : Nat → Value} {T : TypeId} (h : Blk w b (fc m f) T) (c : Nat) (hc : c < m) : w.cell? ⟨b, c, none⟩ = some (f c) := by
  rw [h.cell, fc_get m f c hc]
theorem Blk.rcell {w : World} {b m : Nat} {k : IntKind} {F : Nat → Int} {T : TypeId} (h : Blk w b (irow k m F) T) (c : Nat) (hc : c < m) : w.cell? ⟨b, c, none⟩ = some (.int k (F c)) :=
  Blk.fcell h c hc
theorem Blk.rset {w : World} {b m : Nat} {k : IntKind} {F : Nat → Int} {T : TypeId} (h : Blk w b (irow k m F) T) (c : Nat) (v : Int) : Blk (w.setCell ⟨b, c, none⟩ (.int k v)) b (irow k m (upd F c v)) T := by
  have := h.set c (.int k v)
  rwa [irow_set] at this
theorem Blk.made (w : World) (k : IntKind) (n : Nat) (T : TypeId) : Blk (w.alloc (.cells (madeCells #[.int k 0] n) T)) w.heap.size (irow k n (fun _ => 0)) T := by
  rw [made_fc]; exact Blk.new _ _ _

theorem info_i32 : (Try.prog.info? 21).map (fun i => (i.zero, i.size, i.bytes)) = some (some (.int .i32 0), 1, 4) := by kernel_rfl
theorem make_i32 (n : Nat) (h : n ≤ 1048577) (w : World) : (Instr.makeSlice 35 (.int .i64 (n : Int)) (.int .i64 (n : Int))).run Try.prog w = .ok (.slice (some ⟨w.heap.size, 0, none⟩) n n) (w.alloc (.cells (madeCells #[.int .i32 0] n) 21)) :=
  run_make_row' 35 21 (.int .i32 0) 4 Try.underlying35 info_i32 rfl .i64 .i64 n (by omega) (by omega) w

/-- A slice that came in: nothing in it; or its cells lie there. -/
def SlA (w : World) (a : Option Addr) (len sz : Nat) (f : Nat → Value) : Prop :=
  len = 0 ∨ ∃ b off, a = some ⟨b, off, none⟩ ∧ b < w.heap.size ∧ ∀ c, c < len * sz → w.cell? ⟨b, off + c, none⟩ = some (f c)
theorem SlA.below {w w' : World} {a : Option Addr} {len sz : Nat} {f : Nat → Value} (h : SlA w a len sz f) (hb : Below w.heap.size w w') : SlA w' a len sz f := by
  rcases h with h | ⟨b, off, rfl, hlt, hc⟩
  · exact .inl h
  · exact .inr ⟨b, off, rfl, Nat.lt_of_lt_of_le hlt hb.size, fun c h => by rw [hb.cell hlt]; exact hc c h⟩

end Go.Proofs.Qxb6605516a
