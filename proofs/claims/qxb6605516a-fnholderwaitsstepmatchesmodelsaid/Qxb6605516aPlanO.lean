import Derived.Test.Qxb6605516aPlanT
namespace Go.Proofs.Qxb6605516a
open Go.RowKit
set_option linter.unusedVariables false

/-- At the head of the loop that threads the lists: the last d operations are threaded. -/
structure RT (w : World) (v : Int) (n nt pl md af nx fi la cl cf : Nat) (K T : Nat → Int) (s : Value) (wr : World) (d : Nat) (F L : Nat → Int) : Prop where
  hd : d ≤ n
  s : s = .int .i64 ((n : Int) - 1 - d)
  mem : NP1 w wr v n nt pl md af nx fi la cl cf F L
  thr : Thr K T n nt d F L
/-- At the head of the loop over the transactions. -/
structure R2 (w : World) (v : Int) (n nt ni pl md af nx fi la fo lo cl cf : Nat) (K T X F L : Nat → Int) (s : Value) (wr : World) (t : Nat) (M A N FO LO CI CM CF : Nat → Int) (len : Nat) : Prop where
  ht : t ≤ nt
  s : s = .int .i64 t
  mem : NP w wr v n nt ni pl md af nx fi la fo lo cl cf M A N F L FO LO CI CM CF len
  fo : ∀ x, x < ni → FO x = -1
  ai : AInv K T X n v (fun g => Run K T n g ∧ T g < (t : Int)) A N
  mi : MInv K T X n (fun g => Run K T n g ∧ T g < (t : Int)) M
  ci : v = 3 → CInv K T X n (fun g => Run K T n g ∧ T g < (t : Int)) CI CM len ∧ FInv K T X n t CF
/-- .. of its first pass. -/
structure R3 (w : World) (v : Int) (n nt ni pl md af nx fi la fo lo cl cf : Nat) (K T X F L A N CI CM CF : Nat → Int) (len t : Nat) (s1 s2 : Value) (wr : World) (dn r : List Nat) (h : Int) (M FO LO : Nat → Int) (lp : Int) : Prop where
  at_ : At K T n t (chd K T n n t) dn r
  s1 : s1 = .int .i32 lp
  s2 : s2 = .int .i32 h
  isl : IsL L h r
  mem : NP w wr v n nt ni pl md af nx fi la fo lo cl cf M A N F L FO LO CI CM CF len
  p1 : P1 X v ni dn FO LO lp
  mi : MInv K T X n (fun q => (Run K T n q ∧ T q < (t : Int)) ∨ q ∈ dn) M
/-- .. behind its first touch. -/
structure CA (w : World) (v : Int) (n nt ni pl md af nx fi la fo lo cl cf : Nat) (K T X F L A N CI CM CF : Nat → Int) (len : Nat) (dn : List Nat) (p x : Nat) (M LO : Nat → Int) (s : Value) (wr : World) (FO : Nat → Int) (lp : Int) (f : Nat) : Prop where
  s : s = .int .i32 lp
  mem : NP w wr v n nt ni pl md af nx fi la fo lo cl cf M A N F L FO LO CI CM CF len
  fx : FO x = f
  fn : f < n
  tch : Tch K T X n f p
  p1 : P1 X v ni (dn ++ [p]) FO (upd LO x p) lp
/-- .. of its second pass. -/
structure R4 (w : World) (v : Int) (n nt ni pl md af nx fi la fo lo cl cf : Nat) (K T X F L LO M CF : Nat → Int) (lp : Int) (t : Nat) (s1 s2 : Value) (wr : World) (dn r : List Nat) (h : Int) (A N FO CI CM : Nat → Int) (len : Nat) (tail : Int) : Prop where
  at_ : At K T n t (chd K T n n t) dn r
  s1 : s1 = .int .i32 tail
  s2 : s2 = .int .i32 h
  isl : IsL L h r
  mem : NP w wr v n nt ni pl md af nx fi la fo lo cl cf M A N F L FO LO CI CM CF len
  p2 : P2 K T X n v t ni (chd K T n n t) dn FO lp tail A N
  ci : v = 3 → CInv K T X n (fun g => (Run K T n g ∧ T g < (t : Int)) ∨ g ∈ dn) CI CM len
/-- What newPlan hands back. -/
structure PlanOut (w w' : World) (v : Int) (n nt : Nat) (K T X : Nat → Int) (pl md af nx cl cf : Nat) (M A N CI CM CF : Nat → Int) (len : Nat) : Prop where
  bpl : Blk w' pl (plCells md af nx n (csV v cl len n) (cfV v cf nt)) 94
  bmd : Blk w' md (irow .u8 n M) 95
  baf : Blk w' af (irow .i32 n A) 21
  bnx : Blk w' nx (irow .i32 n N) 21
  bcl : v = 3 → Blk w' cl (fc (n * 2) (clCell CI CM)) 97
  bcf : v = 3 → Blk w' cf (irow .i32 (nt + 1) CF) 21
  new : w.heap.size ≤ pl ∧ w.heap.size ≤ md ∧ w.heap.size ≤ af ∧ w.heap.size ≤ nx ∧ w.heap.size ≤ cl ∧ w.heap.size ≤ cf
  ai : AInv K T X n v (Run K T n) A N
  mi : MInv K T X n (Run K T n) M
  ci : v = 3 → CInv K T X n (Run K T n) CI CM len ∧ FInv K T X n nt CF
  bel : Below w.heap.size w w'
section
variable {w wr : World} {v : Int} {n nt ni pl md af nx fi la fo lo cl cf : Nat} {K T X F L M A N FO LO CI CM CF : Nat → Int} {len t : Nat}
theorem r2_start (hd : Dom n nt ni K T X v) (h : NP w wr v n nt ni pl md af nx fi la fo lo cl cf (fun _ => 0) minus minus F L minus (fun _ => 0) (fun _ => 0) (fun _ => 0) (fun _ => 0) 0) :
    R2 w v n nt ni pl md af nx fi la fo lo cl cf K T X F L (.int .i64 0) wr 0 (fun _ => 0) minus minus minus (fun _ => 0) (fun _ => 0) (fun _ => 0) (fun _ => 0) 0 := by
  have hT : ∀ g, Run K T n g → 0 ≤ T g := fun g hg => (hd.rw g hg.1 hg.2.1).1
  have hno : ∀ g, ¬ (Run K T n g ∧ T g < ((0 : Nat) : Int)) := fun g hg => by have := hT g hg.1; have := hg.2; omega
  refine ⟨by omega, rfl, h, fun _ _ => rfl, ?_, ?_, fun _ => ⟨CInv.empty hT, FInv.start hT rfl⟩⟩
  · exact (AInv.start (fun _ => rfl) (fun _ => rfl)).congr fun g _ => ⟨False.elim, hno g⟩
  · exact (MInv.start (fun _ => rfl)).congr fun g _ => ⟨False.elim, hno g⟩
theorem r2_out (hd : Dom n nt ni K T X v) {s : Value} (h : R2 w v n nt ni pl md af nx fi la fo lo cl cf K T X F L s wr nt M A N FO LO CI CM CF len) : PlanOut w wr v n nt K T X pl md af nx cl cf M A N CI CM CF len := by
  have hT : ∀ g, Run K T n g → T g < (nt : Int) := fun g hg => (hd.rw g hg.1 hg.2.1).2.1
  have hm := h.mem
  have hn := hm.new
  refine ⟨hm.bpl, hm.bmd, hm.baf, hm.bnx, hm.bcl, hm.bcf, by omega, ?_, ?_, fun e => ⟨?_, (h.ci e).2⟩, hm.bel⟩
  · exact h.ai.congr fun g hg => ⟨fun h => h.1, fun h => ⟨h, hT g h⟩⟩
  · exact h.mi.congr fun g hg => ⟨fun h => h.1, fun h => ⟨h, hT g h⟩⟩
  · exact (h.ci e).1.congr fun g hg => ⟨fun h => h.1, fun h => ⟨h, hT g h⟩⟩
theorem r3_start {s : Value} (h : R2 w v n nt ni pl md af nx fi la fo lo cl cf K T X F L s wr t M A N FO LO CI CM CF len) (hl : IsL L (F t) (chd K T n n t)) :
    R3 w v n nt ni pl md af nx fi la fo lo cl cf K T X F L A N CI CM CF len t (.int .i32 (-1)) (.int .i32 (F t)) wr [] (chd K T n n t) (F t) M FO LO (-1) :=
  ⟨at_chd K T n t, rfl, rfl, hl, h.mem, P1.start h.fo, h.mi.congr fun q _ => by simp⟩
theorem At.link {dn r : List Nat} {ll : List Nat} {p : Nat} {t : Int} (h : At K T n t ll dn (p :: r)) (hl : IsL L (L p) r) : L p = -1 ∨ ((p : Int) < L p ∧ L p < n) := by
  cases r with
  | nil => exact .inl hl
  | cons q r =>
    have e : L p = q := hl.1
    have h1 := h.next
    have h2 := h1.lt (q := p) (by simp)
    have h3 := h1.run.1.1
    exact .inr (by omega)
theorem r3_next {dn r : List Nat} {p x f : Nat} {lp lp2 : Int} {FO2 : Nat → Int} {s s1 s2 : Value} {w1 w2 w3 : World} {h : Int}
    (h3 : R3 w v n nt ni pl md af nx fi la fo lo cl cf K T X F L A N CI CM CF len t s1 s2 w1 dn (p :: r) h M FO LO lp) (hc : CA w v n nt ni pl md af nx fi la fo lo cl cf K T X F L A N CI CM CF len dn p x M LO s w2 FO2 lp2 f)
    (hm : NP w w3 v n nt ni pl md af nx fi la fo lo cl cf (upd M f (max (M f) (needAt K p))) A N F L FO2 (upd LO x p) CI CM CF len) :
    R3 w v n nt ni pl md af nx fi la fo lo cl cf K T X F L A N CI CM CF len t (.int .i32 lp2) (.int .i32 (L p)) w3 (dn ++ [p]) r (L p) (upd M f (max (M f) (needAt K p))) FO2 (upd LO x p) lp2 :=
  ⟨h3.at_.next, rfl, rfl, h3.isl.2, hm, hc.p1, (h3.mi.add hc.tch hc.fn rfl).congr fun q _ => pr_next.symm⟩
theorem r4_start {dn : List Nat} {h lp : Int} {s s1 s2 : Value} {w1 : World} {M0 FO0 LO0 : Nat → Int} (h2 : R2 w v n nt ni pl md af nx fi la fo lo cl cf K T X F L s wr t M0 A N FO0 LO0 CI CM CF len) (hl : IsL L (F t) (chd K T n n t))
    (h3 : R3 w v n nt ni pl md af nx fi la fo lo cl cf K T X F L A N CI CM CF len t s1 s2 w1 dn [] h M FO LO lp) :
    R4 w v n nt ni pl md af nx fi la fo lo cl cf K T X F L LO M CF lp t (.int .i32 (-1)) (.int .i32 (F t)) w1 [] (chd K T n n t) (F t) A N FO CI CM len (-1) := by
  have e := h3.at_.whole
  have p1 := h3.p1
  rw [e] at p1
  exact ⟨at_chd K T n t, rfl, rfl, hl, h3.mem, P2.start p1 h2.ai, fun e => (h2.ci e).1.begin_⟩
theorem l2_of {dn : List Nat} {h lp : Int} {s1 s2 : Value} {w1 : World} (h3 : R3 w v n nt ni pl md af nx fi la fo lo cl cf K T X F L A N CI CM CF len t s1 s2 w1 dn [] h M FO LO lp) : L2 K T X n v t ni (chd K T n n t) LO lp M := by
  have e := h3.at_.whole
  have p1 := h3.p1
  have mi := h3.mi
  rw [e] at p1 mi
  exact p1.done h3.at_.back mi
theorem r2_next {dn : List Nat} {h lp tail : Int} {s s1 s2 : Value} {w1 w2 : World} {A0 N0 M0 FO0 LO0 CI0 CM0 : Nat → Int} {len0 : Nat} {CF' : Nat → Int} (hlt : t < nt) (h2 : R2 w v n nt ni pl md af nx fi la fo lo cl cf K T X F L s wr t M0 A0 N0 FO0 LO0 CI0 CM0 CF len0)
    (hL : L2 K T X n v t ni (chd K T n n t) LO lp M) (h4 : R4 w v n nt ni pl md af nx fi la fo lo cl cf K T X F L LO M CF lp t s1 s2 w1 dn [] h A N FO CI CM len tail)
    (hm : NP w w2 v n nt ni pl md af nx fi la fo lo cl cf M A N F L FO LO CI CM CF' len) (hCF : v = 3 → CF' = upd CF (t + 1) len) :
    R2 w v n nt ni pl md af nx fi la fo lo cl cf K T X F L (.int .i64 ((t : Int) + 1)) w2 (t + 1) M A N FO LO CI CM CF' len := by
  have e := h4.at_.whole
  have p2 := h4.p2
  have ci := h4.ci
  rw [e] at p2 ci
  have d := p2.done h4.at_.back
  have et : ((t + 1 : Nat) : Int) = (t : Int) + 1 := by omega
  refine ⟨by omega, by rw [et], hm, d.1, by rw [et]; exact d.2, by rw [et]; exact hL.m.done h4.at_.back, fun e3 => ?_⟩
  have c := (ci e3).done h4.at_.back
  refine ⟨by rw [et]; exact c, ?_⟩
  rw [hCF e3]
  exact (h2.ci e3).2.next c.len
end
end Go.Proofs.Qxb6605516a
