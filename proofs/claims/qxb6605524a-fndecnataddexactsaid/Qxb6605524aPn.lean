import Derived.Test.Qxb6605524aPm
namespace Go.Proofs.Qxb6605524a

/-- The last k digits of a number, the least first. -/
def dg : Nat → Int → List Int
  | 0, _ => []
  | k + 1, v => v.tmod 10 :: dg k (v.tdiv 10)
theorem dg_len : ∀ (k : Nat) (v : Int), (dg k v).length = k
  | 0, _ => rfl
  | k + 1, v => by simp [dg, dg_len k]
theorem dg_Db : ∀ (k : Nat) (v : Int), 0 ≤ v → Db (dg k v)
  | 0, _, _ => by intro x hx; simp [dg] at hx
  | k + 1, v, h => by
    intro x hx
    have e1 : v.tmod 10 = v % 10 := Int.tmod_eq_emod_of_nonneg h
    have e2 : v.tdiv 10 = v / 10 := Int.tdiv_eq_ediv_of_nonneg h
    rcases List.mem_cons.1 hx with rfl | h'
    · rw [e1]; omega
    · exact dg_Db k _ (by rw [e2]; omega) x h'
theorem dg_D : ∀ (k : Nat) (v : Int), 0 ≤ v → v < 10 ^ k → D (dg k v) = v
  | 0, v, h0, h1 => by simp at h1; simp [dg, D]; omega
  | k + 1, v, h0, h1 => by
    have e1 : v.tmod 10 = v % 10 := Int.tmod_eq_emod_of_nonneg h0
    have e2 : v.tdiv 10 = v / 10 := Int.tdiv_eq_ediv_of_nonneg h0
    rw [Int.pow_succ] at h1
    have := dg_D k (v / 10) (by omega) (by omega)
    simp only [dg, D, e1, e2, this]; omega
theorem D_app : ∀ (l m : List Int), D (l ++ m) = D l + 10 ^ l.length * D m
  | [], m => by simp [D]
  | a :: r, m => by
    simp only [List.cons_append, D, D_app r m, List.length_cons, Int.pow_succ]
    rw [Int.mul_add, show (10 : Int) ^ r.length * 10 * D m = 10 * (10 ^ r.length * D m) by rw [Int.mul_comm (10 ^ r.length) 10, Int.mul_assoc]]
    omega
/-- All digits, 18 a limb. -/
def digs : List Int → List Int
  | [] => []
  | a :: r => dg 18 a ++ digs r
theorem digs_len : ∀ l : List Int, (digs l).length = 18 * l.length
  | [] => rfl
  | a :: r => by simp [digs, dg_len, digs_len r]; omega
theorem digs_Db : ∀ l : List Int, Lb l → Db (digs l)
  | [], _ => by intro x hx; simp [digs] at hx
  | a :: r, h => by
    intro x hx
    rcases List.mem_append.1 hx with h' | h'
    · exact dg_Db 18 a h.head.1 x h'
    · exact digs_Db r h.tail x h'
theorem digs_D : ∀ l : List Int, Lb l → D (digs l) = V l
  | [], _ => rfl
  | a :: r, h => by
    have := h.head
    rw [digs, D_app, dg_len, dg_D 18 a (by omega) (by omega), digs_D r h.tail, V]; omega

/-- The schoolbook sum: n digits, then the carry. -/
def dad : Nat → List Int → List Int → Int → List Int
  | 0, _, _, c => [c]
  | n + 1, a, b, c => (c + a.getD 0 0 + b.getD 0 0).tmod 10 :: dad n a.tail b.tail ((c + a.getD 0 0 + b.getD 0 0).tdiv 10)
theorem D_tail (ys : List Int) : D ys = ys.getD 0 0 + 10 * D ys.tail := by cases ys <;> simp [D]
theorem dgetD0 {ys : List Int} (h : Db ys) : 0 ≤ ys.getD 0 0 ∧ ys.getD 0 0 < 10 := by
  cases ys with
  | nil => simp
  | cons a r => simpa using h.head
theorem Db.tl {ys : List Int} (h : Db ys) : Db ys.tail := fun x hx => h x (List.mem_of_mem_tail hx)
theorem dad_len : ∀ (n : Nat) (a b : List Int) (c : Int), (dad n a b c).length = n + 1
  | 0, _, _, _ => rfl
  | n + 1, a, b, c => by simp [dad, dad_len n]
theorem dad_Db : ∀ (n : Nat) (a b : List Int) (c : Int), Db a → Db b → 0 ≤ c → c ≤ 1 → Db (dad n a b c)
  | 0, a, b, c, _, _, h0, h1 => by intro x hx; simp [dad] at hx; omega
  | n + 1, a, b, c, ha, hb, h0, h1 => by
    have g := dgetD0 ha
    have g1 := dgetD0 hb
    have e1 : (c + a.getD 0 0 + b.getD 0 0).tmod 10 = (c + a.getD 0 0 + b.getD 0 0) % 10 := Int.tmod_eq_emod_of_nonneg (by omega)
    have e2 : (c + a.getD 0 0 + b.getD 0 0).tdiv 10 = (c + a.getD 0 0 + b.getD 0 0) / 10 := Int.tdiv_eq_ediv_of_nonneg (by omega)
    intro x hx
    rcases List.mem_cons.1 hx with rfl | h'
    · rw [e1]; omega
    · exact dad_Db n _ _ _ ha.tl hb.tl (by rw [e2]; omega) (by rw [e2]; omega) x h'
theorem dad_D : ∀ (n : Nat) (a b : List Int) (c : Int), Db a → Db b → 0 ≤ c → a.length ≤ n → b.length ≤ n → D (dad n a b c) = D a + D b + c
  | 0, a, b, c, _, _, _, h0, h1 => by
    have e1 : a = [] := List.length_eq_zero_iff.1 (by omega)
    have e2 : b = [] := List.length_eq_zero_iff.1 (by omega)
    subst e1; subst e2; simp [dad, D]
  | n + 1, a, b, c, ha, hb, hc, h0, h1 => by
    have g := dgetD0 ha
    have g1 := dgetD0 hb
    have e1 : (c + a.getD 0 0 + b.getD 0 0).tmod 10 = (c + a.getD 0 0 + b.getD 0 0) % 10 := Int.tmod_eq_emod_of_nonneg (by omega)
    have e2 : (c + a.getD 0 0 + b.getD 0 0).tdiv 10 = (c + a.getD 0 0 + b.getD 0 0) / 10 := Int.tdiv_eq_ediv_of_nonneg (by omega)
    have e3 := D_tail a
    have e4 := D_tail b
    have ih := dad_D n a.tail b.tail ((c + a.getD 0 0 + b.getD 0 0).tdiv 10) ha.tl hb.tl (by rw [e2]; omega) (by simp; omega) (by simp; omega)
    rw [dad, D, ih, e1, e2]; omega

def dsum (a b : List Int) : List Int := strip (dad (max a.length b.length) a b 0)
/-- The digits of the sum are the schoolbook sum of the digits. -/
theorem dsum_eq {x y z : List Int} (hx : Lb x) (hy : Lb y) (hz : Lb z) (hv : V z = V x + V y) : dsum (strip (digs x)) (strip (digs y)) = strip (digs z) := by
  have dx := strip_Db (digs_Db x hx)
  have dy := strip_Db (digs_Db y hy)
  refine D_inj (strip_Db (dad_Db _ _ _ _ dx dy (by omega) (by omega))) (strip_Db (digs_Db z hz)) (strip_top _) (strip_top _) ?_
  unfold dsum
  rw [strip_D, strip_D, dad_D _ _ _ _ dx dy (by omega) (by omega) (by omega), strip_D, strip_D, digs_D x hx, digs_D y hy, digs_D z hz, hv]; omega
end Go.Proofs.Qxb6605524a
