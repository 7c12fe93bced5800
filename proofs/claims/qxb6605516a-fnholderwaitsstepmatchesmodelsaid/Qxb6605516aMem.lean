import Derived.Test.Qxb6605516aProg
import Derived.WalkKit
import Derived.WalkSpells
import Derived.WalkLawsBesides
import Derived.BigQuiet
import Derived.Deep.QuietTactic
import Derived.BigRegion
namespace Go.Proofs.Qxb6605516a
open Go.RowKit

theorem hide {p : Prop} (h : p) : Hid p := h
theorem bcell {B : Nat} {W w1 : World} (hb : Below B W w1) : (∀ b o, b < B → w1.cell? ⟨b, o, none⟩ = W.cell? ⟨b, o, none⟩) ∧ (∀ b o, b < B → w1.frozen? ⟨b, o, none⟩ = W.frozen? ⟨b, o, none⟩) :=
  ⟨fun b o h => hb.cell (p := ⟨b, o, none⟩) h, fun b o h => hb.frozen (p := ⟨b, o, none⟩) h⟩

/-- The block b holds the cells cs, none of them frozen. -/
def Blk (w : World) (b : Nat) (cs : Array Value) (t : TypeId) : Prop := w.heap[b]? = some (.cells cs t (0, 0))

theorem Blk.cell {w : World} {b : Nat} {cs : Array Value} {t : TypeId} (h : Blk w b cs t) (i : Nat) : w.cell? ⟨b, i, none⟩ = cs[i]? := by
  unfold Blk at h; simp [World.cell?, h]
theorem Blk.free {w : World} {b : Nat} {cs : Array Value} {t : TypeId} (h : Blk w b cs t) (i : Nat) : w.frozen? ⟨b, i, none⟩ = false := by
  unfold Blk at h; simp [World.frozen?, h]
theorem Blk.lt {w : World} {b : Nat} {cs : Array Value} {t : TypeId} (h : Blk w b cs t) : b < w.heap.size := lt_of_block h
theorem Blk.set {w : World} {b : Nat} {cs : Array Value} {t : TypeId} (h : Blk w b cs t) (i : Nat) (v : Value) : Blk (w.setCell ⟨b, i, none⟩ v) b (cs.setIfInBounds i v) t := by
  have hlt := h.lt
  unfold Blk at h ⊢
  have h' : w.heap[b] = .cells cs t (0, 0) := by simpa [Array.getElem?_eq_getElem hlt] using h
  show (w.heap.modify b _)[b]? = _
  rw [Array.getElem?_eq_getElem (by simpa using hlt), Array.getElem_modify_self, h']
  simp
theorem Blk.setOther {w : World} {b : Nat} {cs : Array Value} {t : TypeId} (h : Blk w b cs t) {a : Addr} (hne : b ≠ a.block) (v : Value) : Blk (w.setCell a v) b cs t := by
  unfold Blk at h ⊢
  rw [Below.heap_setCell _ _ _ _ hne, h]
theorem Blk.alloc {w : World} {b : Nat} {cs : Array Value} {t : TypeId} (h : Blk w b cs t) (o : Obj) : Blk (w.alloc o) b cs t := by
  have hlt := h.lt
  unfold Blk at h ⊢
  rw [Below.heap_alloc _ _ _ hlt, h]
theorem Blk.new (w : World) (cs : Array Value) (t : TypeId) : Blk (w.alloc (.cells cs t)) w.heap.size cs t := by
  show (w.heap.push _)[w.heap.size]? = _
  simp
theorem Blk.drewN {w : World} {b : Nat} {cs : Array Value} {t : TypeId} (h : Blk w b cs t) (n : Nat) : Blk (w.drewN n) b cs t := h
theorem Blk.drew {w : World} {b : Nat} {cs : Array Value} {t : TypeId} (h : Blk w b cs t) : Blk w.drew b cs t := h
theorem Blk.below {B : Nat} {w w' : World} {b : Nat} {cs : Array Value} {t : TypeId} (h : Blk w b cs t) (hb : Below B w w') (hB : b < B) : Blk w' b cs t := by
  unfold Blk at h ⊢; rw [hb.block b hB, h]

/-- All old blocks but those of S are as they were. -/
structure Kept (S : Nat → Prop) (w w' : World) : Prop where
  os : w'.os = w.os
  tape : w'.tape = w.tape
  output : w'.output = w.output
  size : w.heap.size ≤ w'.heap.size
  block : ∀ k, k < w.heap.size → ¬ S k → w'.heap[k]? = w.heap[k]?

theorem Kept.refl (S : Nat → Prop) (w : World) : Kept S w w := ⟨rfl, rfl, rfl, Nat.le_refl _, fun _ _ _ => rfl⟩
theorem Kept.trans {S : Nat → Prop} {a b c : World} (h : Kept S a b) (k : Kept S b c) : Kept S a c :=
  ⟨k.os.trans h.os, k.tape.trans h.tape, k.output.trans h.output, Nat.le_trans h.size k.size, fun i hi hs => (k.block i (Nat.lt_of_lt_of_le hi h.size) hs).trans (h.block i hi hs)⟩
theorem Kept.alloc {S : Nat → Prop} {a w : World} (h : Kept S a w) (o : Obj) : Kept S a (w.alloc o) :=
  h.trans ⟨rfl, rfl, rfl, by simp, fun k hk _ => Below.heap_alloc _ _ _ hk⟩
theorem Kept.set {S : Nat → Prop} {a w : World} (h : Kept S a w) {p : Addr} (hp : S p.block ∨ a.heap.size ≤ p.block) (v : Value) : Kept S a (w.setCell p v) :=
  ⟨h.os, h.tape, h.output, Nat.le_trans h.size (by simp [World.setCell]), fun k hk hs => by
    rw [Below.heap_setCell _ _ _ _ (by intro e; rcases hp with hp | hp; exact hs (e ▸ hp); omega)]; exact h.block k hk hs⟩
theorem Kept.own {c i : Nat} {a w : World} (h : Kept (fun x => x = c) a w) (v : Value) : Kept (fun x => x = c) a (w.setCell ⟨c, i, none⟩ v) := h.set (Or.inl rfl) v
theorem Kept.drewN {S : Nat → Prop} {a w : World} (h : Kept S a w) (n : Nat) : Kept S a (w.drewN n) := ⟨h.os, h.tape, h.output, h.size, h.block⟩
theorem Kept.drew {S : Nat → Prop} {a w : World} (h : Kept S a w) : Kept S a w.drew := ⟨h.os, h.tape, h.output, h.size, h.block⟩
theorem Kept.mono {S S' : Nat → Prop} {a w : World} (h : Kept S a w) (hs : ∀ k, k < a.heap.size → S k → S' k) : Kept S' a w := ⟨h.os, h.tape, h.output, h.size, fun k hk hn => h.block k hk (fun hh => hn (hs k hk hh))⟩
theorem Kept.below {B : Nat} {S : Nat → Prop} {a w : World} (h : Kept S a w) (hB : B ≤ a.heap.size) (hs : ∀ k, k < B → ¬ S k) : Below B a w :=
  ⟨h.os, h.tape, h.output, h.size, fun k hk => h.block k (Nat.lt_of_lt_of_le hk hB) (hs k hk)⟩
theorem Kept.ofBelow {B : Nat} {S : Nat → Prop} {a w : World} (h : Below B a w) (hs : ∀ k, k < a.heap.size → ¬ S k → k < B) : Kept S a w :=
  ⟨h.os, h.tape, h.output, h.size, fun k hk hn => h.block k (hs k hk hn)⟩
theorem Blk.kept {S : Nat → Prop} {w w' : World} {b : Nat} {cs : Array Value} {t : TypeId} (h : Blk w b cs t) (hk : Kept S w w') (hs : ¬ S b) : Blk w' b cs t := by
  have := h.lt
  unfold Blk at h ⊢; rw [hk.block b this hs, h]

end Go.Proofs.Qxb6605516a
