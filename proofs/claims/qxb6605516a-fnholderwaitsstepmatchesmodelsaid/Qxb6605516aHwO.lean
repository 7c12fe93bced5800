import Derived.Test.Qxb6605516aPlanOpen
import Derived.Test.Qxb6605516aHwA
namespace Go.Proofs.Qxb6605516a
open Go.ChangeShapes Go.WideShapes Go.ChangeAt Go.RowKit

section
variable {H : Type} {enc : TypeId × Value → H} {P : Program} {w : World} {base : Nat} {spare : Nat → Bool} {held : Bool}
/-- A slice, opened to the cells of each element. -/
theorem open_tr {t e : TypeId} {fuel : Nat} {cs : List Value} {x : DataW H × List MemPlace}
    (ht : P.underlying t = some (.slice e)) (hpos : 0 < P.cellsOf e) (h : DataW.trod enc P w base spare held fuel t cs = some x) :
    ∃ (a : Option Addr) (len cap : Nat), cs = [.slice a len cap] ∧ (a = none → len = 0) ∧
      (len = 0 ∨ ∃ b off, a = some ⟨b, off, none⟩ ∧ b < w.heap.size ∧ ∀ i, i < len → ∃ (m : Nat) (y : DataW H × List MemPlace) (cs : List Value), cs.length = P.cellsOf e ∧ (∀ c, c < P.cellsOf e → w.cell? ⟨b, off + (i * P.cellsOf e + c), none⟩ = cs[c]?) ∧ DataW.trod enc P w base spare held m e cs = some y) := by
  rcases DataW.trod_slice ht h with ⟨h1, -⟩ | ⟨a', len, cap, elems, rest, m, -, h1, -, hb, hl, hm, hlen, hel, -, -⟩
  · exact ⟨none, 0, 0, h1, fun _ => rfl, .inl rfl⟩
  · refine ⟨some a', len, cap, h1, fun h => absurd h (by simp), ?_⟩
    rcases Nat.eq_zero_or_pos len with h0 | h0
    · exact .inl h0
    right
    obtain ⟨b, off, spot⟩ := a'
    have key : ∀ i, i < len → ∃ (y : DataW H × List MemPlace) (cs : List Value), cs.length = P.cellsOf e ∧ (∀ c, c < P.cellsOf e → w.cell? ((Addr.mk b off spot).add (i * P.cellsOf e + c)) = cs[c]?) ∧ DataW.trod enc P w base spare held m e cs = some y := by
      intro i hi
      have h2 := hel i hi
      have hlt : i < elems.length := by omega
      rw [List.getElem?_eq_getElem hlt, Option.bind_eq_some_iff] at h2
      obtain ⟨cs, hcs, hy⟩ := h2
      obtain ⟨-, hcl, hcc⟩ := World.cells?_some hcs
      exact ⟨_, cs, hcl, fun c hc => by rw [← hcc c hc, Addr.add_add], hy⟩
    obtain ⟨y, cs', hcl, hcc, -⟩ := key 0 h0
    have g0 := hcc 0 hpos
    obtain ⟨c0, hc0⟩ : ∃ c0, cs'[0]? = some c0 := by
      cases cs' with
      | nil => simp at hcl; omega
      | cons c _ => exact ⟨c, rfl⟩
    rw [hc0] at g0
    have hspot : spot = none := by simpa [Addr.add] using World.cell?_spot g0
    subst hspot
    have hblk := World.block_lt_of_cell? w _ g0
    refine ⟨b, off, rfl, by simpa [Addr.add] using hblk, fun i hi => ?_⟩
    obtain ⟨y, cs, hcl, hcc, hy⟩ := key i hi
    exact ⟨m, y, cs, hcl, fun c hc => by have h := hcc c hc; rwa [add_plain] at h, hy⟩
/-- An element of integers. -/
def Ints (H : Type) (enc : TypeId × Value → H) (P : Program) (w : World) (base : Nat) (spare : Nat → Bool) (held : Bool) (e : TypeId) (sz : Nat) : Prop :=
  ∀ (m : Nat) (cs : List Value) (y : DataW H × List MemPlace), cs.length = sz → DataW.trod enc P w base spare held m e cs = some y → ∀ c, c < sz → ∃ z, cs[c]? = some (.int .i32 z) ∧ (Lit.int .i32 z).wf = true
theorem ints1 {e : TypeId} (he : P.underlying e = some (.int .i32)) : Ints H enc P w base spare held e 1 := by
  intro m cs y hl hy c hc
  obtain ⟨z, rfl, -, hw⟩ := DataW.trod_int he hy
  obtain rfl : c = 0 := by omega
  exact ⟨z, rfl, hw⟩
theorem ints_field {t : TypeId} {n off : Nat} {cs : List Value} {x : DataW H × List MemPlace} (ht : P.underlying t = some (.int .i32)) (h1 : P.cellsOf t = 1) (h : DataW.trod enc P w base spare held n t ((cs.drop off).take (P.cellsOf t)) = some x) : ∃ z, cs[off]? = some (.int .i32 z) ∧ (Lit.int .i32 z).wf = true := by
  rw [h1] at h
  obtain ⟨z, hz, -, hw⟩ := DataW.trod_int ht h
  refine ⟨z, ?_, hw⟩
  have h3 := congrArg (fun l => l[0]?) hz
  simpa [List.getElem?_take, List.getElem?_drop] using h3
theorem ints2 {e t0 t1 : TypeId} {f0 f1 : Field} (he : P.underlying e = some (.struct #[f0, f1])) (o0 : f0.offset = 0) (o1 : f1.offset = 1) (e0 : f0.type = t0) (e1 : f1.type = t1) (k0 : P.underlying t0 = some (.int .i32)) (k1 : P.underlying t1 = some (.int .i32)) (c0 : P.cellsOf t0 = 1) (c1 : P.cellsOf t1 = 1) : Ints H enc P w base spare held e 2 := by
  intro m cs y hl hy c hc
  obtain ⟨xs, m', -, -, -, hxl, hx⟩ := DataW.trod_struct he hy
  simp only [List.size_toArray, List.length_cons, List.length_nil] at hxl
  rcases (by omega : c = 0 ∨ c = 1) with rfl | rfl
  · have g := hx 0 f0 rfl
    rw [List.getElem?_eq_getElem (by omega), o0, e0] at g
    exact ints_field k0 c0 g
  · have g := hx 1 f1 rfl
    rw [List.getElem?_eq_getElem (by omega), o1, e1] at g
    exact ints_field k1 c1 g
theorem ints3 {e t0 t1 t2 : TypeId} {f0 f1 f2 : Field} (he : P.underlying e = some (.struct #[f0, f1, f2])) (o0 : f0.offset = 0) (o1 : f1.offset = 1) (o2 : f2.offset = 2) (e0 : f0.type = t0) (e1 : f1.type = t1) (e2 : f2.type = t2) (k0 : P.underlying t0 = some (.int .i32)) (k1 : P.underlying t1 = some (.int .i32)) (k2 : P.underlying t2 = some (.int .i32)) (c0 : P.cellsOf t0 = 1) (c1 : P.cellsOf t1 = 1) (c2 : P.cellsOf t2 = 1) : Ints H enc P w base spare held e 3 := by
  intro m cs y hl hy c hc
  obtain ⟨xs, m', -, -, -, hxl, hx⟩ := DataW.trod_struct he hy
  simp only [List.size_toArray, List.length_cons, List.length_nil] at hxl
  rcases (by omega : c = 0 ∨ c = 1 ∨ c = 2) with rfl | rfl | rfl
  · have g := hx 0 f0 rfl
    rw [List.getElem?_eq_getElem (by omega), o0, e0] at g
    exact ints_field k0 c0 g
  · have g := hx 1 f1 rfl
    rw [List.getElem?_eq_getElem (by omega), o1, e1] at g
    exact ints_field k1 c1 g
  · have g := hx 2 f2 rfl
    rw [List.getElem?_eq_getElem (by omega), o2, e2] at g
    exact ints_field k2 c2 g
/-- A row's contents, read off the memory. -/
def rowOf (w : World) (a : Option Addr) (k : Nat) : Nat → Int := fun c => if c < k then (match a with | some ad => intAt (w.cell? ⟨ad.block, ad.off + c, none⟩) | none => 0) else 0
theorem open_irow {t e : TypeId} {fuel sz : Nat} {cs : List Value} {x : DataW H × List MemPlace}
    (ht : P.underlying t = some (.slice e)) (hsz : P.cellsOf e = sz) (hpos : 0 < sz) (he : Ints H enc P w base spare held e sz) (h : DataW.trod enc P w base spare held fuel t cs = some x) :
    ∃ (a : Option Addr) (len cap : Nat), cs = [.slice a len cap] ∧ (a = none → len = 0) ∧ IRow w a len sz (rowOf w a (len * sz)) ∧ ∀ c, -2147483648 ≤ rowOf w a (len * sz) c ∧ rowOf w a (len * sz) c ≤ 2147483647 := by
  obtain ⟨a, len, cap, rfl, hz, hr⟩ := open_tr ht (by omega) h
  refine ⟨a, len, cap, rfl, hz, ?_⟩
  rcases hr with h0 | ⟨b, off, rfl, hb, hc⟩
  · subst h0
    refine ⟨.inl rfl, fun c => ?_⟩
    unfold rowOf
    rw [if_neg (by omega)]
    omega
  · have key : ∀ c, c < len * sz → ∃ z, w.cell? ⟨b, off + c, none⟩ = some (.int .i32 z) ∧ (Lit.int .i32 z).wf = true := by
      intro c hcl
      have hi : c / sz < len := by
        rw [Nat.div_lt_iff_lt_mul hpos]; exact hcl
      obtain ⟨m, y, cs, hl, hcc, hy⟩ := hc (c / sz) hi
      rw [hsz] at hl hcc
      have hm : c % sz < sz := Nat.mod_lt _ hpos
      obtain ⟨z, hz1, hz2⟩ := he m cs y hl hy (c % sz) hm
      refine ⟨z, ?_, hz2⟩
      have := hcc (c % sz) hm
      rw [hz1, show c / sz * sz + c % sz = c from by rw [Nat.mul_comm]; exact Nat.div_add_mod c sz] at this
      exact this
    refine ⟨.inr ⟨b, off, rfl, hb, fun c hcl => ?_⟩, fun c => ?_⟩
    · obtain ⟨z, h1, -⟩ := key c hcl
      simp only [rowOf, if_pos hcl, h1, intAt]
    · unfold rowOf
      by_cases hcl : c < len * sz
      · obtain ⟨z, h1, h2⟩ := key c hcl
        simp only [if_pos hcl, h1, intAt]
        exact bounds_i32 h2
      · rw [if_neg hcl]; omega
def slAt (v : Option Value) : Option Addr := match v with | some (.slice a _ _) => a | _ => none
def lenAt (v : Option Value) : Nat := match v with | some (.slice _ n _) => n | _ => 0
def capAt (v : Option Value) : Nat := match v with | some (.slice _ _ c) => c | _ => 0
theorem open_nst {t u e : TypeId} {fuel sz : Nat} {cs : List Value} {x : DataW H × List MemPlace}
    (ht : P.underlying t = some (.slice u)) (hu : P.underlying u = some (.slice e)) (hcu : P.cellsOf u = 1) (hsz : P.cellsOf e = sz) (hpos : 0 < sz) (he : Ints H enc P w base spare held e sz) (h : DataW.trod enc P w base spare held fuel t cs = some x) :
    ∃ (a : Option Addr) (len cap : Nat) (L : Nat → Nat) (F : Nat → Nat → Int) (la : Nat → Option Addr) (lc : Nat → Nat), cs = [.slice a len cap] ∧ (a = none → len = 0) ∧ Nst w a len sz L F la lc ∧ ∀ i c, -2147483648 ≤ F i c ∧ F i c ≤ 2147483647 := by
  obtain ⟨a, len, cap, rfl, hz, hr⟩ := open_tr ht (by omega) h
  rcases hr with h0 | ⟨b, off, rfl, hb, hc⟩
  · subst h0
    exact ⟨a, 0, cap, fun _ => 0, fun _ _ => 0, fun _ => none, fun _ => 0, rfl, hz, ⟨.inl rfl, fun i hi => by omega, fun i hi => by omega⟩, fun _ _ => by simp⟩
  · have key : ∀ i, i < len → ∃ (a' : Option Addr) (l' c' : Nat), w.cell? ⟨b, off + i, none⟩ = some (.slice a' l' c') ∧ (a' = none → l' = 0) ∧ IRow w a' l' sz (rowOf w a' (l' * sz)) ∧ ∀ c, -2147483648 ≤ rowOf w a' (l' * sz) c ∧ rowOf w a' (l' * sz) c ≤ 2147483647 := by
      intro i hi
      obtain ⟨m, y, cs, hl, hcc, hy⟩ := hc i hi
      obtain ⟨a', l', c', rfl, h1, h2, h3⟩ := open_irow hu hsz hpos he hy
      refine ⟨a', l', c', ?_, h1, h2, h3⟩
      have := hcc 0 (by omega)
      rw [hcu] at this
      simpa using this
    refine ⟨_, len, cap, fun i => lenAt (w.cell? ⟨b, off + i, none⟩), fun i => if i < len then rowOf w (slAt (w.cell? ⟨b, off + i, none⟩)) (lenAt (w.cell? ⟨b, off + i, none⟩) * sz) else fun _ => 0, fun i => slAt (w.cell? ⟨b, off + i, none⟩), fun i => capAt (w.cell? ⟨b, off + i, none⟩), rfl, hz, ⟨.inr ⟨b, off, rfl, hb, fun c hcl => ?_⟩, fun i hi => ?_, fun i hi hla => ?_⟩, fun i c => ?_⟩
    · obtain ⟨a', l', c', h1, -⟩ := key c (by omega)
      simp only [h1, slAt, lenAt, capAt]
    · obtain ⟨a', l', c', h1, -, h2, -⟩ := key i hi
      simp only [h1, slAt, lenAt, if_pos hi]
      exact h2
    · obtain ⟨a', l', c', h1, h2, -, -⟩ := key i hi
      simp only [h1, slAt, lenAt] at hla ⊢
      exact h2 hla
    · by_cases hi : i < len
      · obtain ⟨a', l', c', h1, -, -, h3⟩ := key i hi
        simp only [h1, slAt, lenAt, if_pos hi]
        exact h3 c
      · simp only [if_neg hi]; omega
end
/-- .. from an argument. -/
theorem val_slice {H : Type} {enc : TypeId × Value → H} {P : Program} {w : World} {base b0 : Nat} {spare : Nat → Bool} {held : Bool} {r : Reach} {t e : TypeId} {v : Value} {d : DataW H} {p : List MemPlace}
    (ht : P.underlying t = some (.slice e)) (hv : Value.okWide P w r b0 t v) (h : DataW.Trod enc P w base spare held t v d p) : ∃ fuel, DataW.trod enc P w base spare held fuel t [v] = some (d, p) := by
  obtain ⟨a, len, cap, rfl⟩ := okWide_slice ht hv
  obtain ⟨fuel, hf⟩ := h
  exact ⟨fuel, by simpa [Value.cells] using hf⟩
end Go.Proofs.Qxb6605516a
