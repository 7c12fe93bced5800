import Derived.Test.Qxb6605516aRows
import Derived.Test.Qxb6605516aRow
import Derived.ProofKit
import Derived.OpenShut
import Derived.ShutString
import Derived.ChangeOld
import Derived.Below
namespace Go.Proofs.Qxb6605516a
open Go.ChangeShapes Go.WideShapes Go.ChangeAt Go.RowKit

theorem okWide_array {P : Program} {w : World} {r : Reach} {base : Nat} {t e : TypeId} {n : Nat} {v : Value} (ht : P.underlying t = some (.array n e)) (h : Value.okWide P w r base t v) : ∃ cs, v = .agg cs ∧ cs.size = P.cellsOf t := by
  simp only [Value.okWide, ht] at h
  obtain ⟨cs, h1, h2, _⟩ := h
  exact ⟨cs, h1, h2⟩

/-- An array of integers, opened. -/
theorem open_int_array {H : Type} {enc : TypeId × Value → H} {P : Program} {w : World} {base b0 : Nat} {spare : Nat → Bool} {held : Bool} {r : Reach} {t e : TypeId} {n : Nat} {k : IntKind} {v : Value} {d : DataW H} {p : List MemPlace}
    (ht : P.underlying t = some (.array n e)) (he : P.underlying e = some (.int k)) (hc : P.cellsOf t = n) (h1 : P.cellsOf e = 1) (hv : Value.okWide P w r b0 t v) (h : DataW.Trod enc P w base spare held t v d p) :
    ∃ zs : List Int, zs.length = n ∧ v = .agg (ints k zs) ∧ ∀ z ∈ zs, (Lit.int k z).wf = true := by
  obtain ⟨cs, rfl, hsz⟩ := okWide_array ht hv
  obtain ⟨fuel, hf⟩ := h
  obtain ⟨xs, m, rfl, _, hl, hxl, hx⟩ := DataW.trod_array ht hf
  simp only [Value.cells] at hl hx
  have key : ∀ i, i < n → ∃ z, cs[i]? = some (.int k z) ∧ (Lit.int k z).wf = true := by
    intro i hi
    have h2 := hx i hi
    rw [h1, Nat.mul_one] at h2
    have hlt : i < xs.length := by omega
    rw [List.getElem?_eq_getElem hlt] at h2
    obtain ⟨z, hz, _, hw⟩ := DataW.trod_int he h2
    refine ⟨z, ?_, hw⟩
    have h3 := congrArg (fun l => l[0]?) hz
    simpa [List.getElem?_take, List.getElem?_drop] using h3
  have hsz' : cs.size = n := by omega
  refine ⟨(List.range n).map (fun i => intOf (cs[i]?.getD undef)), by simp, ?_, ?_⟩
  · congr 1
    apply Array.ext
    · simp [ints, hsz']
    · intro i hi1 hi2
      obtain ⟨z, hz, _⟩ := key i (by omega)
      have e1 : cs[i] = .int k z := by simpa [Array.getElem?_eq_getElem hi1] using hz
      simp [ints, hi1, e1, intOf]
  · intro z hz
    obtain ⟨i, hi, rfl⟩ := List.mem_map.1 hz
    obtain ⟨z, hz, hw⟩ := key i (by simpa using hi)
    rw [hz]; exact hw

theorem list4 {l : List Int} (h : l.length = 4) : ∃ a b c d, l = [a, b, c, d] := by
  match l, h with
  | [a, b, c, d], _ => exact ⟨a, b, c, d, rfl⟩
theorem list7 {l : List Int} (h : l.length = 7) : ∃ a b c d e f g, l = [a, b, c, d, e, f, g] := by
  match l, h with
  | [a, b, c, d, e, f, g], _ => exact ⟨a, b, c, d, e, f, g, rfl⟩

theorem own : ownKnob Try.prog.godebug = none := by kernel_rfl
theorem laidOut : laidOutB Try.prog = true := by kernel_rfl
end Go.Proofs.Qxb6605516a
