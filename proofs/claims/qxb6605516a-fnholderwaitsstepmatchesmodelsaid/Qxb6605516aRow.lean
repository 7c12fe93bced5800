import Derived.Test.Qxb6605516aMem
namespace Go.Proofs.Qxb6605516a
open Go.RowKit

/-- Numbers as cells. -/
def ints (k : IntKind) (L : List Int) : Array Value := (L.map (Value.int k)).toArray
theorem ints_size (k : IntKind) (L : List Int) : (ints k L).size = L.length := by simp [ints]
theorem ints_get (k : IntKind) (L : List Int) (t : Nat) (h : t < L.length) : (ints k L)[t]? = some (.int k (L.getD t 0)) := by
  simp [ints, h]
theorem ints_set (k : IntKind) (L : List Int) (t : Nat) (v : Int) : (ints k L).setIfInBounds t (.int k v) = ints k (L.set t v) := by
  simp [ints]
theorem Blk.icell {w : World} {b : Nat} {k : IntKind} {L : List Int} {T : TypeId} (h : Blk w b (ints k L) T) (t : Nat) (ht : t < L.length) : w.cell? ⟨b, t, none⟩ = some (.int k (L.getD t 0)) := by
  rw [h.cell, ints_get k L t ht]
theorem Blk.iset {w : World} {b : Nat} {k : IntKind} {L : List Int} {T : TypeId} (h : Blk w b (ints k L) T) (t : Nat) (v : Int) : Blk (w.setCell ⟨b, t, none⟩ (.int k v)) b (ints k (L.set t v)) T := by
  have := h.set t (.int k v)
  rwa [ints_set] at this
end Go.Proofs.Qxb6605516a
