import Derived.Test.Qxb6605516aOpen
import Derived.Test.Qxb6605516aPlanB
import Derived.SliceStrings
namespace Go.Proofs.Qxb6605516a
open Go.ChangeShapes Go.WideShapes Go.ChangeAt Go.RowKit

/-- A slice among the arguments, opened to the cells of each element. -/
theorem open_sl {H : Type} {enc : TypeId × Value → H} {P : Program} {w : World} {base b0 : Nat} {spare : Nat → Bool} {held : Bool} {r : Reach} {t e : TypeId} {v : Value} {d : DataW H} {p : List MemPlace}
    (ht : P.underlying t = some (.slice e)) (hpos : 0 < P.cellsOf e) (hv : Value.okWide P w r b0 t v) (h : DataW.Trod enc P w base spare held t v d p) :
    ∃ (a : Option Addr) (len cap : Nat), v = .slice a len cap ∧ (a = none → len = 0) ∧ len ≤ maxLen ∧
      (len = 0 ∨ ∃ b off, a = some ⟨b, off, none⟩ ∧ b < w.heap.size ∧ ∀ i, i < len → ∃ (m : Nat) (y : DataW H × List MemPlace) (cs : List Value), cs.length = P.cellsOf e ∧ (∀ c, c < P.cellsOf e → w.cell? ⟨b, off + (i * P.cellsOf e + c), none⟩ = cs[c]?) ∧ DataW.trod enc P w base spare held m e cs = some y) := by
  obtain ⟨a, len, cap, rfl⟩ := okWide_slice ht hv
  obtain ⟨fuel, hf⟩ := h
  refine ⟨a, len, cap, rfl, ?_⟩
  rcases DataW.trod_slice ht hf with ⟨h1, -⟩ | ⟨a', len', cap', elems, rest, m, -, h1, -, hb, hl, hm, hlen, hel, -, -⟩
  · simp [Value.cells] at h1
    exact ⟨fun _ => h1.2.1, by rw [h1.2.1]; exact Nat.zero_le _, .inl h1.2.1⟩
  · simp [Value.cells] at h1
    obtain ⟨rfl, rfl, rfl⟩ := h1
    refine ⟨fun h => absurd h (by simp), by omega, ?_⟩
    rcases Nat.eq_zero_or_pos len with h0 | h0
    · exact .inl h0
    right
    obtain ⟨b, off, spot⟩ := a'
    have key : ∀ i, i < len → ∃ (y : DataW H × List MemPlace) (cs : List Value), cs.length = P.cellsOf e ∧ (∀ c, c < P.cellsOf e → w.cell? ((Addr.mk b off spot).add (i * P.cellsOf e + c)) = cs[c]?) ∧ DataW.trod enc P w base spare held m e cs = some y := by
      intro i hi
      have h2 := hel i hi
      have hlt : i < elems.length := by omega
      rw [List.getElem?_eq_getElem hlt, Option.bind_eq_some_iff] at h2
      obtain ⟨cs, hcs, hy⟩ := h2
      obtain ⟨-, hcl, hcc⟩ := World.cells?_some hcs
      exact ⟨_, cs, hcl, fun c hc => by rw [← hcc c hc, Addr.add_add], hy⟩
    obtain ⟨y, cs, hcl, hcc, -⟩ := key 0 h0
    have g0 := hcc 0 hpos
    obtain ⟨c0, hc0⟩ : ∃ c0, cs[0]? = some c0 := by
      cases cs with
      | nil => simp at hcl; omega
      | cons c _ => exact ⟨c, rfl⟩
    rw [hc0] at g0
    have hspot : spot = none := by simpa [Addr.add] using World.cell?_spot g0
    subst hspot
    have hblk := World.block_lt_of_cell? w _ g0
    refine ⟨b, off, rfl, by simpa [Addr.add] using hblk, fun i hi => ?_⟩
    obtain ⟨y, cs, hcl, hcc, hy⟩ := key i hi
    exact ⟨m, y, cs, hcl, fun c hc => by have h := hcc c hc; rwa [add_plain] at h, hy⟩

def strAt (v : Option Value) : ByteArray := match v with | some (.string s) => s | _ => ByteArray.empty
def intAt (v : Option Value) : Int := match v with | some (.int _ z) => z | _ => 0

theorem open_strs {H : Type} {enc : TypeId × Value → H} {P : Program} {w : World} {base b0 : Nat} {spare : Nat → Bool} {held : Bool} {r : Reach} {t e : TypeId} {v : Value} {d : DataW H} {p : List MemPlace}
    (ht : P.underlying t = some (.slice e)) (he : P.underlying e = some .string) (h1 : P.cellsOf e = 1) (hv : Value.okWide P w r b0 t v) (h : DataW.Trod enc P w base spare held t v d p) :
    ∃ (a : Option Addr) (len cap : Nat) (S : Nat → ByteArray), v = .slice a len cap ∧ (a = none → len = 0) ∧ SlA w a len 1 (fun i => .string (S i)) := by
  obtain ⟨a, len, cap, rfl, hz, -, h0 | ⟨b, off, rfl, hb, hc⟩⟩ := open_sl ht (by omega) hv h
  · exact ⟨a, len, cap, fun _ => ByteArray.empty, rfl, hz, .inl h0⟩
  · refine ⟨_, len, cap, fun i => strAt (w.cell? ⟨b, off + i, none⟩), rfl, hz, .inr ⟨b, off, rfl, hb, fun c hcl => ?_⟩⟩
    obtain ⟨m, y, cs, hl, hcc, hy⟩ := hc c (by omega)
    obtain ⟨s, rfl, -, -⟩ := DataW.trod_string he hy
    have := hcc 0 (by omega)
    rw [h1] at this
    simp at this
    simp [this, strAt]

theorem open_planops {H : Type} {enc : TypeId × Value → H} {P : Program} {w : World} {base b0 : Nat} {spare : Nat → Bool} {held : Bool} {r : Reach} {t e t0 t1 t2 : TypeId} {f0 f1 f2 : Field} {v : Value} {d : DataW H} {p : List MemPlace}
    (ht : P.underlying t = some (.slice e)) (he : P.underlying e = some (.struct #[f0, f1, f2])) (h3 : P.cellsOf e = 3)
    (o0 : f0.offset = 0) (o1 : f1.offset = 1) (o2 : f2.offset = 2) (e0 : f0.type = t0) (e1 : f1.type = t1) (e2 : f2.type = t2) (k0 : P.underlying t0 = some (.int .u8)) (k1 : P.underlying t1 = some (.int .i32)) (k2 : P.underlying t2 = some (.int .i32))
    (c0 : P.cellsOf t0 = 1) (c1 : P.cellsOf t1 = 1) (c2 : P.cellsOf t2 = 1) (hv : Value.okWide P w r b0 t v) (h : DataW.Trod enc P w base spare held t v d p) :
    ∃ (a : Option Addr) (len cap : Nat) (K T X : Nat → Int), v = .slice a len cap ∧ (a = none → len = 0) ∧ SlA w a len 3 (opCell K T X) ∧ (∀ i, -2147483648 ≤ T i ∧ T i ≤ 2147483647) ∧ (∀ i, -2147483648 ≤ X i ∧ X i ≤ 2147483647) := by
  obtain ⟨a, len, cap, rfl, hz, -, h0 | ⟨b, off, rfl, hb, hc⟩⟩ := open_sl ht (by omega) hv h
  · exact ⟨a, len, cap, fun _ => 0, fun _ => 0, fun _ => 0, rfl, hz, .inl h0, fun _ => by simp, fun _ => by simp⟩
  · have key : ∀ i, i < len → ∃ z0 z1 z2, w.cell? ⟨b, off + i * 3, none⟩ = some (.int .u8 z0) ∧ w.cell? ⟨b, off + (i * 3 + 1), none⟩ = some (.int .i32 z1) ∧ w.cell? ⟨b, off + (i * 3 + 2), none⟩ = some (.int .i32 z2) ∧ (Lit.int .i32 z1).wf = true ∧ (Lit.int .i32 z2).wf = true := by
      intro i hi
      obtain ⟨m, y, cs, hl, hcc, hy⟩ := hc i hi
      obtain ⟨xs, m', -, -, -, hxl, hx⟩ := DataW.trod_struct he hy
      rw [h3] at hcc hl
      match cs, hl with
      | [q0, q1, q2], _ =>
        have g0 := hx 0 f0 rfl
        have g1 := hx 1 f1 rfl
        have g2 := hx 2 f2 rfl
        simp only [List.size_toArray, List.length_cons, List.length_nil] at hxl
        rw [List.getElem?_eq_getElem (by omega)] at g0 g1 g2
        rw [o0, e0, c0] at g0
        rw [o1, e1, c1] at g1
        rw [o2, e2, c2] at g2
        obtain ⟨z0, hz0, -, -⟩ := DataW.trod_int k0 g0
        obtain ⟨z1, hz1, -, w1⟩ := DataW.trod_int k1 g1
        obtain ⟨z2, hz2, -, w2⟩ := DataW.trod_int k2 g2
        simp at hz0 hz1 hz2
        subst hz0 hz1 hz2
        exact ⟨z0, z1, z2, by simpa using hcc 0 (by omega), by simpa using hcc 1 (by omega), by simpa using hcc 2 (by omega), w1, w2⟩
    have bd : ∀ z : Int, (Lit.int .i32 z).wf = true → -2147483648 ≤ z ∧ z ≤ 2147483647 := fun z h => bounds_i32 h
    refine ⟨_, len, cap, fun i => intAt (w.cell? ⟨b, off + i * 3, none⟩), fun i => if i < len then intAt (w.cell? ⟨b, off + (i * 3 + 1), none⟩) else 0, fun i => if i < len then intAt (w.cell? ⟨b, off + (i * 3 + 2), none⟩) else 0, rfl, hz, .inr ⟨b, off, rfl, hb, fun c hcl => ?_⟩, fun i => ?_, fun i => ?_⟩
    · have hi : c / 3 < len := by omega
      obtain ⟨z0, z1, z2, q0, q1, q2, -, -⟩ := key (c / 3) hi
      unfold opCell
      rcases (by omega : c % 3 = 0 ∨ c % 3 = 1 ∨ c % 3 = 2) with h | h | h
      · have e : off + c = off + c / 3 * 3 := by omega
        rw [if_pos h, e]
        simp only [q0, intAt]
      · have e : off + c = off + (c / 3 * 3 + 1) := by omega
        rw [if_neg (by omega), if_pos h, e]
        simp only [if_pos hi, q1, intAt]
      · have e : off + c = off + (c / 3 * 3 + 2) := by omega
        rw [if_neg (by omega), if_neg (by omega), e]
        simp only [if_pos hi, q2, intAt]
    · by_cases hi : i < len
      · obtain ⟨z0, z1, z2, q0, q1, q2, u1, u2⟩ := key i hi
        simp only [if_pos hi, q1, intAt]
        exact bd _ u1
      · simp only [if_neg hi]; omega
    · by_cases hi : i < len
      · obtain ⟨z0, z1, z2, q0, q1, q2, u1, u2⟩ := key i hi
        simp only [if_pos hi, q2, intAt]
        exact bd _ u2
      · simp only [if_neg hi]; omega
end Go.Proofs.Qxb6605516a
