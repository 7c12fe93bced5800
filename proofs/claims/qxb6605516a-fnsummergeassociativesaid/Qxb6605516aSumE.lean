import Derived.Test.Qxb6605516aSumD
import Derived.Test.Qxb6605516aRow
import Derived.Test.Qxb6605516aSumQ
namespace Go.Proofs.Qxb6605516a
open Go.RowKit

def Sm.l7 (s : Sm) : List Int := [s.n, s.f0, s.f1, s.f2, s.f3, s.o, s.y]
def cntN (g : Nat → Sm) : Nat → Nat
  | 0 => 0
  | i + 1 => if (g i).n = 0 then cntN g i else cntN g i + 1
def oneN (g : Nat → Sm) : Nat → Nat
  | 0 => 0
  | i + 1 => if (g i).n = 0 then oneN g i else i
def sumN (g : Nat → Sm) : Nat → Int
  | 0 => 0
  | i + 1 => sumN g i + (g i).n
def oN (g : Nat → Sm) : Nat → Int
  | 0 => 0
  | i + 1 => if (g i).n = 0 then oN g i else if cntN g i = 0 ∨ (g i).o < oN g i then (g i).o else oN g i
def yN (g : Nat → Sm) : Nat → Int
  | 0 => 0
  | i + 1 => if (g i).n = 0 then yN g i else if cntN g i = 0 ∨ yN g i < (g i).y then (g i).y else yN g i
def valsN (g : Nat → Sm) : Nat → List Int
  | 0 => []
  | i + 1 => valsN g i ++ (g i).pre

/-- The cells of the three groups. -/
def g21 (g : Nat → Sm) : List Int := (g 0).l7 ++ (g 1).l7 ++ (g 2).l7

theorem cnt_le (g : Nat → Sm) (i : Nat) : cntN g i ≤ i := by
  induction i with
  | zero => simp [cntN]
  | succ i ih => simp only [cntN]; split <;> omega
theorem one_lt (g : Nat → Sm) (i : Nat) (h : 0 < i) : oneN g i < i := by
  match i, h with
  | i + 1, _ =>
    clear h
    induction i with
    | zero => simp only [oneN]; split <;> omega
    | succ i ih => rw [oneN]; split <;> omega

theorem grp {w : World} {b : Nat} {g : Nat → Sm} {T : TypeId} (h : Blk w b (ints .i32 (g21 g)) T) (i : Nat) (hi : i < 3) :
    w.cell? ⟨b, i * 7, none⟩ = some (.int .i32 (g i).n) ∧ w.cell? ⟨b, i * 7 + 1, none⟩ = some (.int .i32 (g i).f0) ∧ w.cell? ⟨b, i * 7 + 2, none⟩ = some (.int .i32 (g i).f1) ∧
    w.cell? ⟨b, i * 7 + 3, none⟩ = some (.int .i32 (g i).f2) ∧ w.cell? ⟨b, i * 7 + 4, none⟩ = some (.int .i32 (g i).f3) ∧ w.cell? ⟨b, i * 7 + 5, none⟩ = some (.int .i32 (g i).o) ∧ w.cell? ⟨b, i * 7 + 6, none⟩ = some (.int .i32 (g i).y) := by
  match i, hi with
  | 0, _ => exact ⟨h.cell _, h.cell _, h.cell _, h.cell _, h.cell _, h.cell _, h.cell _⟩
  | 1, _ => exact ⟨h.cell _, h.cell _, h.cell _, h.cell _, h.cell _, h.cell _, h.cell _⟩
  | 2, _ => exact ⟨h.cell _, h.cell _, h.cell _, h.cell _, h.cell _, h.cell _, h.cell _⟩
theorem grp_f {w : World} {b : Nat} {g : Nat → Sm} {T : TypeId} (h : Blk w b (ints .i32 (g21 g)) T) (i : Nat) (hi : i < 3) (j : Nat) (hj : j < 4) :
    w.cell? ⟨b, i * 7 + 1 + j, none⟩ = some (.int .i32 ((g i).fs.getD j 0)) := by
  obtain ⟨_, h1, h2, h3, h4, _, _⟩ := grp h i hi
  match j, hj with
  | 0, _ => exact h1
  | 1, _ => exact h2
  | 2, _ => exact h3
  | 3, _ => exact h4

theorem l7_cells {w : World} {b : Nat} {x0 x1 x2 x3 x4 x5 x6 : Int} {T : TypeId} (h : Blk w b (ints .i32 [x0, x1, x2, x3, x4, x5, x6]) T) :
    w.cell? ⟨b, 0, none⟩ = some (.int .i32 x0) ∧ w.cell? ⟨b, 1, none⟩ = some (.int .i32 x1) ∧ w.cell? ⟨b, 2, none⟩ = some (.int .i32 x2) ∧ w.cell? ⟨b, 3, none⟩ = some (.int .i32 x3) ∧
    w.cell? ⟨b, 4, none⟩ = some (.int .i32 x4) ∧ w.cell? ⟨b, 5, none⟩ = some (.int .i32 x5) ∧ w.cell? ⟨b, 6, none⟩ = some (.int .i32 x6) :=
  ⟨h.cell 0, h.cell 1, h.cell 2, h.cell 3, h.cell 4, h.cell 5, h.cell 6⟩
/-- Seven numbers stored into a block of the call's own. -/
theorem set7b {w w0 : World} {c : Nat} (hb : Below c w0 w) (x0 x1 x2 x3 x4 x5 x6 : Int) :
    Below c w0 (((((((w.setCell ⟨c, 0, none⟩ (.int .i32 x0)).setCell ⟨c, 1, none⟩ (.int .i32 x1)).setCell ⟨c, 2, none⟩ (.int .i32 x2)).setCell ⟨c, 3, none⟩ (.int .i32 x3)).setCell ⟨c, 4, none⟩ (.int .i32 x4)).setCell ⟨c, 5, none⟩ (.int .i32 x5)).setCell ⟨c, 6, none⟩ (.int .i32 x6)) :=
  ((((((hb.setCell (Nat.le_refl _) _).setCell (Nat.le_refl _) _).setCell (Nat.le_refl _) _).setCell (Nat.le_refl _) _).setCell (Nat.le_refl _) _).setCell (Nat.le_refl _) _).setCell (Nat.le_refl _) _

/-- What the sum of the first m groups is. -/
def PlusR (g : Nat → Sm) (m : Nat) (r : List Int) : Prop :=
  (cntN g m = 0 → r = (g (m - 1)).l7) ∧ (cntN g m = 1 → r = (g (oneN g m)).l7) ∧
    (2 ≤ cntN g m → ∃ P, Srt P ∧ P.Perm (valsN g m) ∧ r = (mkS (sumN g m) (P.take (min (sumN g m) 4).toNat) (oN g m) (yN g m)).l7)

/-- The memory of the call while it sums up: the groups, the result's place, the sum, the pool. -/
structure PM (w wr : World) (cs : Array Value) (O P : List Int) : Prop where
  s : Blk wr w.heap.size cs 81
  r : Blk wr (w.heap.size + 1) (ints .i32 [0, 0, 0, 0, 0, 0, 0]) 79
  o : Blk wr (w.heap.size + 2) (ints .i32 O) 79
  p : Blk wr (w.heap.size + 2 + 1) (ints .i32 P) 111
  b : Below w.heap.size w wr
theorem PM.drew {w wr : World} {cs : Array Value} {O P : List Int} (h : PM w wr cs O P) : PM w wr.drew cs O P := ⟨h.s, h.r, h.o, h.p, h.b.drew⟩
theorem PM.drewN {w wr : World} {cs : Array Value} {O P : List Int} (h : PM w wr cs O P) (n : Nat) : PM w (wr.drewN n) cs O P := ⟨h.s, h.r, h.o, h.p, below_drewN h.b n⟩
theorem PM.setO {w wr : World} {cs : Array Value} {O P : List Int} (h : PM w wr cs O P) (t : Nat) (v : Int) : PM w (wr.setCell ⟨w.heap.size + 2, t, none⟩ (.int .i32 v)) cs (O.set t v) P :=
  ⟨h.s.setOther (by simp) _, h.r.setOther (by simp) _, h.o.iset t v, h.p.setOther (by simp) _, h.b.setCell (by simp) _⟩
theorem PM.setP {w wr : World} {cs : Array Value} {O P : List Int} (h : PM w wr cs O P) (t : Nat) (v : Int) : PM w (wr.setCell ⟨w.heap.size + 2 + 1, t, none⟩ (.int .i32 v)) cs O (P.set t v) :=
  ⟨h.s.setOther (by show w.heap.size ≠ w.heap.size + 2 + 1; omega) _, h.r.setOther (by simp) _, h.o.setOther (by simp) _, h.p.iset t v, h.b.setCell (by show w.heap.size ≤ w.heap.size + 2 + 1; omega) _⟩

/-- At the head of the round over the groups. -/
structure R2 (g : Nat → Sm) (w : World) (cs : Array Value) (i : Nat) (sn sf si : Value) (wr : World) (t : Nat) (P : List Int) : Prop where
  ht : t ≤ i
  hi : si = .int .i64 t
  hf : sf = .bool (cntN g t == 0)
  hn : sn = .int .i64 P.length
  srt : Srt P
  perm : P.Perm (valsN g t)
  len : P.length ≤ 4 * t
  mem : PM w wr cs [sumN g t, 0, 0, 0, 0, oN g t, yN g t] (P ++ List.replicate (12 - P.length) 0)

/-- At the head of the round over a group's ranks. -/
structure R3 (g : Nat → Sm) (w : World) (cs : Array Value) (t kk : Nat) (sn sj : Value) (wr : World) (P : List Int) (j : Nat) (P' : List Int) : Prop where
  hj : j ≤ kk
  sj : sj = .int .i32 j
  sn : sn = .int .i64 P'.length
  srt : Srt P'
  perm : P'.Perm (valsN g t ++ (g t).fs.take j)
  len : P'.length = P.length + j
  mem : PM w wr cs [sumN g (t + 1), 0, 0, 0, 0, oN g (t + 1), yN g (t + 1)] (P' ++ List.replicate (12 - P'.length) 0)
/-- While a place is made for v in the pool. -/
structure R4 (g : Nat → Sm) (w : World) (cs : Array Value) (t : Nat) (v : Int) (sa : Value) (wr : World) (P' : List Int) (a : Nat) (c : Int) : Prop where
  ha : a ≤ P'.length
  sa : sa = .int .i64 a
  big : ∀ z ∈ P'.drop a, v < z
  mem : PM w wr cs [sumN g (t + 1), 0, 0, 0, 0, oN g (t + 1), yN g (t + 1)] (gap P' a c (List.replicate (11 - P'.length) 0))
/-- At the head of the round over the sum's ranks. -/
structure R5 (g : Nat → Sm) (w : World) (cs : Array Value) (i kk : Nat) (sj : Value) (wr : World) (P : List Int) (j : Nat) : Prop where
  hj : j ≤ kk
  sj : sj = .int .i32 j
  mem : PM w wr cs (mkS (sumN g i) (P.take j) (oN g i) (yN g i)).l7 (P ++ List.replicate (12 - P.length) 0)
theorem pool_get (P : List Int) (n j : Nat) : (P ++ List.replicate n 0).getD j 0 = P.getD j 0 := by
  simp only [List.getD_eq_getElem?_getD, List.getElem?_append]
  split
  · rfl
  · rename_i h
    rw [List.getElem?_eq_none (show P.length ≤ j by omega), List.getElem?_replicate]
    split <;> rfl
theorem mk_set (n : Int) (P : List Int) (o y : Int) (j : Nat) (hj : j < 4) : (mkS n (P.take j) o y).l7.set (1 + j) (P.getD j 0) = (mkS n (P.take (j + 1)) o y).l7 := by
  match j, hj, P with
  | 0, _, [] => rfl
  | 0, _, _ :: _ => rfl
  | 1, _, [] => rfl
  | 1, _, [_] => rfl
  | 1, _, _ :: _ :: _ => rfl
  | 2, _, [] => rfl
  | 2, _, [_] => rfl
  | 2, _, [_, _] => rfl
  | 2, _, _ :: _ :: _ :: _ => rfl
  | 3, _, [] => rfl
  | 3, _, [_] => rfl
  | 3, _, [_, _] => rfl
  | 3, _, [_, _, _] => rfl
  | 3, _, _ :: _ :: _ :: _ :: _ => rfl
theorem pre_zero {s : Sm} (h : s.n = 0) : s.pre = [] := by unfold Sm.pre; rw [h]; rfl
theorem sum_nonneg (g : Nat → Sm) (m : Nat) (hn : ∀ i, i < m → 0 ≤ (g i).n) : ∀ i, i ≤ m → 0 ≤ sumN g i ∧ sumN g i ≤ sumN g m := by
  intro i hi
  have h1 : ∀ i, i ≤ m → 0 ≤ sumN g i := by
    intro i hi
    induction i with
    | zero => simp [sumN]
    | succ i ih => have := ih (by omega); have := hn i (by omega); simp only [sumN]; omega
  refine ⟨h1 i hi, ?_⟩
  obtain ⟨d, rfl⟩ : ∃ d, m = i + d := ⟨m - i, by omega⟩
  induction d with
  | zero => simp
  | succ d ih =>
    have := ih (fun j hj => hn j (by omega)) (by omega) (fun j hj => h1 j (by omega))
    have := hn (i + d) (by omega)
    show sumN g i ≤ sumN g (i + d) + (g (i + d)).n
    omega

set_option maxRecDepth 2000 in
set_option maxHeartbeats 400000 in
theorem plus_any (g : Nat → Sm) (m : Nat) (hm : 0 < m) (hm3 : m ≤ 3) (hn : ∀ i, i < m → 0 ≤ (g i).n) (hs : sumN g m ≤ 2147483647) (w : World) :
    Calls Try.prog 37 #[.agg (ints .i32 (g21 g)), .int .i64 m] w fun e w' => ∃ r, e = .returned (.agg (ints .i32 r)) ∧ PlusR g m r ∧ Below w.heap.size w w' := by
  have Hn := hide hn
  have Hs := hide hs
  clear hn hs
  have hB : Blk (w.alloc (.cells (ints .i32 (g21 g)) 81)) w.heap.size (ints .i32 (g21 g)) 81 := Blk.new _ _ _
  have HB := hide hB
  clear hB
  obtain ⟨cs, hcs⟩ : ∃ cs, cs = ints .i32 (g21 g) := ⟨_, rfl⟩
  rw [← hcs] at HB ⊢
  have Hcs := hide hcs
  clear hcs
  go_enter Try.func37, Try.ntmps37
  go_wp2
  go_loopw [5, 6, 7] (fun sc so si wr => ∃ i : Nat, i ≤ m ∧ si = .int .i64 i ∧ sc = .int .i64 (cntN g i) ∧ so = .int .i64 (oneN g i) ∧ Blk wr w.heap.size cs 81 ∧ Blk wr (w.heap.size + 1) (ints .i32 [0, 0, 0, 0, 0, 0, 0]) 79 ∧ wr.heap.size = w.heap.size + 2 ∧ Below w.heap.size w wr)
    (fun _ _ si _ => m - (intOf si).toNat)
  case atStart => exact ⟨0, by omega, rfl, rfl, rfl, HB.out.alloc _, by have h := Blk.new (w.alloc (.cells cs 81)) (ints .i32 [0, 0, 0, 0, 0, 0, 0]) 79; rw [World.size_alloc] at h; exact h, by simp, ((Below.refl _ _).alloc (Nat.le_refl _) _).alloc (by simp) _⟩
  case round =>
    obtain ⟨i, hi, rfl, rfl, rfl, hS, hR, hsz, hbel⟩ := hrel
    have HS := hide hS
    have HR := hide hR
    have Hsz := hide hsz
    have Hbel := hide hbel
    clear hS hR hsz hbel HB
    by_cases hlt : i < m
    · obtain ⟨q0, q1, q2, q3, q4, q5, q6⟩ := grp (Hcs.out ▸ HS.out) i (by omega)
      have hcl := cnt_le g i
      clear q1 q2 q3 q4 q5 q6
      go_wp2
      · go_roundw
        case rel => exact ⟨i + 1, by omega, by go_num, by simp only [cntN]; rw [if_neg (by have h := ‹((g i).n != 0) = true›; simpa using h)]; go_num, by simp only [oneN]; rw [if_neg (by have h := ‹((g i).n != 0) = true›; simpa using h)], HS.out, HR.out, Hsz.out, Hbel.out⟩
        case measure => simp [intOf]; omega
      · go_roundw
        case rel => exact ⟨i + 1, by omega, by go_num, by simp only [cntN]; rw [if_pos (by have h := ‹((g i).n != 0) = false›; simpa using h)], by simp only [oneN]; rw [if_pos (by have h := ‹((g i).n != 0) = false›; simpa using h)], HS.out, HR.out, Hsz.out, Hbel.out⟩
        case measure => simp [intOf]; omega
    · obtain rfl : i = m := by omega
      by_cases hc0 : cntN g i = 0
      · have hc0' : ((cntN g i : Int) == 0) = true := by simp [hc0]
        have Hc0 := hide hc0
        clear hc0
        obtain ⟨q0, q1, q2, q3, q4, q5, q6⟩ := grp (Hcs.out ▸ HS.out) (i - 1) (by omega)
        obtain ⟨z0, z1, z2, z3, z4, z5, z6⟩ := l7_cells HR.out
        have fz := HR.out.free
        go_wp2
        exact bodyPost_ret (v := .agg (ints .i32 (g (i - 1)).l7)) (by simp [results, Try.results37, go_sem, z0, z1, z2, z3, z4, z5, z6, ints, Sm.l7]) rfl ⟨_, rfl, ⟨fun _ => rfl, fun h => by rw [Hc0.out] at h; omega, fun h => by rw [Hc0.out] at h; omega⟩, Hbel.out.trans ((set7b (Below.refl _ _) _ _ _ _ _ _ _).mono (Nat.le_succ _))⟩
      have hc0' : ((cntN g i : Int) == 0) = false := by simp [hc0]
      by_cases hc1 : cntN g i = 1
      · have hc1' : ((cntN g i : Int) == 1) = true := by simp [hc1]
        have Hc1 := hide hc1
        clear hc1 hc0
        have hol := one_lt g i hm
        obtain ⟨q0, q1, q2, q3, q4, q5, q6⟩ := grp (Hcs.out ▸ HS.out) (oneN g i) (by omega)
        obtain ⟨z0, z1, z2, z3, z4, z5, z6⟩ := l7_cells HR.out
        have fz := HR.out.free
        go_wp2
        exact bodyPost_ret (v := .agg (ints .i32 (g (oneN g i)).l7)) (by simp [results, Try.results37, go_sem, z0, z1, z2, z3, z4, z5, z6, ints, Sm.l7]) rfl ⟨_, rfl, ⟨fun h => by rw [Hc1.out] at h; omega, fun _ => rfl, fun h => by rw [Hc1.out] at h; omega⟩, Hbel.out.trans ((set7b (Below.refl _ _) _ _ _ _ _ _ _).mono (Nat.le_succ _))⟩
      have hc1' : ((cntN g i : Int) == 1) = false := by simp; omega
      have Hc2 : Hid (2 ≤ cntN g i) := by show 2 ≤ cntN g i; omega
      clear hc0 hc1
      have hPM0 : PM w ((wr.alloc (.cells (ints .i32 [0, 0, 0, 0, 0, 0, 0]) 79)).alloc (.cells (ints .i32 [0, 0, 0, 0, 0, 0, 0, 0, 0, 0, 0, 0]) 111)) cs [0, 0, 0, 0, 0, 0, 0] [0, 0, 0, 0, 0, 0, 0, 0, 0, 0, 0, 0] := by
        have e := Hsz.out
        refine ⟨(HS.out.alloc _).alloc _, (HR.out.alloc _).alloc _, ?_, ?_, (Hbel.out.alloc (by omega) _).alloc (by simp; omega) _⟩
        · have h := (Blk.new wr (ints .i32 [0, 0, 0, 0, 0, 0, 0]) 79).alloc (.cells (ints .i32 [0, 0, 0, 0, 0, 0, 0, 0, 0, 0, 0, 0]) 111)
          rw [e] at h; exact h
        · have h := Blk.new (wr.alloc (.cells (ints .i32 [0, 0, 0, 0, 0, 0, 0]) 79)) (ints .i32 [0, 0, 0, 0, 0, 0, 0, 0, 0, 0, 0, 0]) 111
          rw [World.size_alloc, e] at h; exact h
      have HPM0 := hide hPM0
      clear hPM0
      have hsz := Hsz.out
      go_wp2
      clear hsz HS HR Hsz Hbel
      go_loopw [10, 11, 12] (fun sn sf si wr => ∃ (t : Nat) (P : List Int), R2 g w cs i sn sf si wr t P) (fun _ _ si _ => i - (intOf si).toNat)
      case atStart => exact ⟨0, [], by omega, rfl, rfl, rfl, List.Pairwise.nil, List.Perm.nil, by simp, HPM0.out⟩
      case round =>
        obtain ⟨t, P, ht, rfl, rfl, rfl, hsrt, hperm, hPl, hPM⟩ := hrel
        have Hsrt := hide hsrt
        have Hperm := hide hperm
        have HPM := hide hPM
        clear hsrt hperm hPM HPM0
        by_cases hlt : t < i
        · obtain ⟨q0, q1, q2, q3, q4, q5, q6⟩ := grp (Hcs.out ▸ HPM.out.s) t (by omega)
          obtain ⟨y0, y1, y2, y3, y4, y5, y6⟩ := l7_cells HPM.out.o
          have fo := HPM.out.o.free
          clear q1 q2 q3 q4 y1 y2 y3 y4
          have hn0 := Hn.out t hlt
          by_cases hz : (g t).n = 0
          · have hz' : ((g t).n == 0) = true := by simp [hz]
            have Hz := hide hz
            clear hz
            go_wp2
            go_roundw
            case rel => exact ⟨t + 1, P, by omega, by go_num, by simp only [cntN, if_pos Hz.out], rfl, Hsrt.out, by simp only [valsN, pre_zero Hz.out, List.append_nil]; exact Hperm.out, by omega, by simp only [sumN, oN, yN, Hz.out, Int.add_zero]; exact HPM.out⟩
            case measure => simp [intOf]; omega
          · have hz' : ((g t).n == 0) = false := by simp [hz]
            have Hz := hide hz
            clear hz
            have hsb := sum_nonneg g i Hn.out (t + 1) (by omega)
            have hsa := sum_nonneg g i Hn.out t (by omega)
            have hs1 : sumN g (t + 1) = sumN g t + (g t).n := rfl
            rw [hs1] at hsb
            clear hs1
            have hsm := Hs.out
            go_wp2
            go_cut [] (fun w' => PM w w' cs [sumN g (t + 1), 0, 0, 0, 0, oN g t, yN g t] (P ++ List.replicate (12 - P.length) 0))
            case first =>
              go_region
              go_step
              go_step
              go_meet
              case rel => exact (HPM.out.setO 0 _).drew
            clear q0 q5 q6 y0 y5 y6 fo HPM hsb hsa hsm
            have HPM1 := hide hcut
            clear hcut
            go_step
            go_step
            go_cut [11] (fun sf w' => sf = .bool (cntN g t == 0) ∧ PM w w' cs [sumN g (t + 1), 0, 0, 0, 0, oN g (t + 1), yN g t] (P ++ List.replicate (12 - P.length) 0))
            case first =>
              obtain ⟨q0, q1, q2, q3, q4, q5, q6⟩ := grp (Hcs.out ▸ HPM1.out.s) t (by omega)
              obtain ⟨y0, y1, y2, y3, y4, y5, y6⟩ := l7_cells HPM1.out.o
              have fo := HPM1.out.o.free
              clear q0 q1 q2 q3 q4 q6 y0 y1 y2 y3 y4 y6
              by_cases hc : cntN g t = 0
              · have hc' : (cntN g t == 0) = true := by simp [hc]
                have Hc := hide hc
                clear hc
                rw [hc']
                go_wp2
                go_quiet (fail)
                go_wp2
                go_meet
                case rel =>
                  have h := (HPM1.out.drewN nq).setO 5 (g t).o
                  have e : oN g (t + 1) = (g t).o := by simp only [oN, if_neg Hz.out]; rw [if_pos (.inl Hc.out)]
                  rw [e]
                  exact ⟨by rw [hc'], h⟩
              · have hc' : (cntN g t == 0) = false := by simp [hc]
                have Hc := hide hc
                clear hc
                rw [hc']
                go_wp2
                go_quiet (fail)
                go_wp2
                · go_meet
                  case rel =>
                    have h := (HPM1.out.drewN nq).setO 5 (g t).o
                    have e : oN g (t + 1) = (g t).o := by simp only [oN, if_neg Hz.out]; rw [if_pos (.inr ‹(g t).o < oN g t›)]
                    rw [e]
                    exact ⟨by rw [hc'], h⟩
                · go_meet
                  case rel =>
                    have e : oN g (t + 1) = oN g t := by simp only [oN, if_neg Hz.out]; rw [if_neg (by have := Hc.out; have : oN g t ≤ (g t).o := ‹_›; omega)]
                    rw [e]
                    exact ⟨by rw [hc'], HPM1.out.drewN nq⟩
            clear HPM1
            obtain ⟨rfl, hPM2⟩ := hcut
            have HPM2 := hide hPM2
            clear hPM2
            go_step
            go_step
            go_cut [11] (fun sf w' => sf = .bool (cntN g t == 0) ∧ PM w w' cs [sumN g (t + 1), 0, 0, 0, 0, oN g (t + 1), yN g (t + 1)] (P ++ List.replicate (12 - P.length) 0))
            case first =>
              obtain ⟨q0, q1, q2, q3, q4, q5, q6⟩ := grp (Hcs.out ▸ HPM2.out.s) t (by omega)
              obtain ⟨y0, y1, y2, y3, y4, y5, y6⟩ := l7_cells HPM2.out.o
              have fo := HPM2.out.o.free
              clear q0 q1 q2 q3 q4 q5 y0 y1 y2 y3 y4 y5
              by_cases hc : cntN g t = 0
              · have hc' : (cntN g t == 0) = true := by simp [hc]
                have Hc := hide hc
                clear hc
                rw [hc']
                go_wp2
                go_quiet (fail)
                go_wp2
                go_meet
                case rel =>
                  have h := (HPM2.out.drewN nq).setO 6 (g t).y
                  have e : yN g (t + 1) = (g t).y := by simp only [yN, if_neg Hz.out]; rw [if_pos (.inl Hc.out)]
                  rw [e]
                  exact ⟨by rw [hc'], h⟩
              · have hc' : (cntN g t == 0) = false := by simp [hc]
                have Hc := hide hc
                clear hc
                rw [hc']
                go_wp2
                go_quiet (fail)
                go_wp2
                · go_meet
                  case rel =>
                    have h := (HPM2.out.drewN nq).setO 6 (g t).y
                    have e : yN g (t + 1) = (g t).y := by simp only [yN, if_neg Hz.out]; rw [if_pos (.inr ‹yN g t < (g t).y›)]
                    rw [e]
                    exact ⟨by rw [hc'], h⟩
                · go_meet
                  case rel =>
                    have e : yN g (t + 1) = yN g t := by simp only [yN, if_neg Hz.out]; rw [if_neg (by have := Hc.out; have : (g t).y ≤ yN g t := ‹_›; omega)]
                    rw [e]
                    exact ⟨by rw [hc'], HPM2.out.drewN nq⟩
            clear HPM2
            obtain ⟨rfl, hPM3⟩ := hcut
            have HPM3 := hide hPM3
            clear hPM3
            obtain ⟨q0, q1, q2, q3, q4, q5, q6⟩ := grp (Hcs.out ▸ HPM3.out.s) t (by omega)
            clear q1 q2 q3 q4 q5 q6
            go_upto_if 96 with fail
            go_cut [13] (fun sk w' => sk = .int .i32 ((min (g t).n 4).toNat : Int) ∧ PM w w' cs [sumN g (t + 1), 0, 0, 0, 0, oN g (t + 1), yN g (t + 1)] (P ++ List.replicate (12 - P.length) 0))
            case first =>
              go_wp2
              · go_meet
                case rel => exact ⟨by have : 4 < (g t).n := ‹_›; go_num, HPM3.out⟩
              · go_meet
                case rel => exact ⟨by have : (g t).n ≤ 4 := ‹_›; go_num, HPM3.out⟩
            clear HPM3 q0
            obtain ⟨rfl, hPM4⟩ := hcut
            obtain ⟨kk, hkk⟩ : ∃ kk, kk = (min (g t).n 4).toNat := ⟨_, rfl⟩
            rw [← hkk]
            have Hkk := hide hkk
            have hkk4 : kk ≤ 4 := by omega
            clear hkk
            have HPM4 := hide hPM4
            clear hPM4
            go_wp2
            go_loopw [10, 14] (fun sn sj wr => ∃ (j : Nat) (P' : List Int), R3 g w cs t kk sn sj wr P j P') (fun _ sj _ => kk - (intOf sj).toNat)
            case atStart => exact ⟨0, P, by omega, rfl, rfl, Hsrt.out, by simpa using Hperm.out, by omega, HPM4.out⟩
            case round =>
              obtain ⟨j, P', hj, rfl, rfl, hsrt', hperm', hlen', hPM'⟩ := hrel
              have Hsrt' := hide hsrt'
              have Hperm' := hide hperm'
              have Hlen' := hide hlen'
              have HPM' := hide hPM'
              have hpl : P'.length ≤ 8 + j := by omega
              clear hsrt' hperm' hlen' hPM' HPM4
              by_cases hjk : j < kk
              · have qf := grp_f (Hcs.out ▸ HPM'.out.s) t (by omega) j (by omega)
                obtain ⟨v, hv⟩ : ∃ v, v = (g t).fs.getD j 0 := ⟨_, rfl⟩
                rw [← hv] at qf
                have Hv := hide hv
                clear hv
                go_wp2
                go_loopw [16] (fun sa wr => ∃ (a : Nat) (c : Int), R4 g w cs t v sa wr P' a c) (fun sa _ => (intOf sa).toNat)
                case atStart => exact ⟨P'.length, 0, Nat.le_refl _, rfl, by simp, by have h := HPM'.out; rw [gap_start P' 11 (by omega)] at h; exact h⟩
                case round =>
                  obtain ⟨a, c, ha, rfl, hbig, hPM5⟩ := hrel
                  have Hbig := hide hbig
                  have HPM5 := hide hPM5
                  have gl : (gap P' a c (List.replicate (11 - P'.length) 0)).length = 12 := by rw [gap_len _ _ _ _ ha, List.length_replicate]; omega
                  clear hbig hPM5 HPM'
                  have fp := HPM5.out.p.free
                  obtain ⟨v1, hv1⟩ : ∃ v1, wr.cell? ⟨w.heap.size + 2 + 1, a, none⟩ = some v1 := ⟨_, HPM5.out.p.icell a (by omega)⟩
                  have close : Srt (P'.take a ++ v :: P'.drop a) → R3 g w cs t kk (.int .i64 ((P'.length : Int) + 1)) (.int .i32 ((j : Int) + 1)) (wr.setCell ⟨w.heap.size + 2 + 1, a, none⟩ (.int .i32 v)) P (j + 1) (P'.take a ++ v :: P'.drop a) := by
                    intro hs
                    refine ⟨by omega, by go_num, by rw [ins_len]; go_num, hs, ?_, by rw [ins_len, Hlen'.out]; omega, ?_⟩
                    · rw [take_snoc _ _ (show j < (g t).fs.length by show j < 4; omega), ← List.append_assoc, ← Hv.out]
                      refine (ins_perm P' a v).trans ((Hperm'.out.cons v).trans ?_)
                      exact (List.perm_append_comm (l₁ := [v])).trans (List.Perm.refl _)
                    · have h := HPM5.out.setP a v
                      rw [gap_fill _ _ _ _ _ ha] at h
                      rw [ins_len, show 12 - (P'.length + 1) = 11 - P'.length from by omega]
                      exact h
                  have Close := hide close
                  clear close
                  have Gl := hide gl
                  clear gl
                  by_cases ha0 : a = 0
                  · subst ha0
                    go_wp2
                    go_roundw
                    case rel => exact ⟨j + 1, _, Close.out (ins_srt _ _ _ Hsrt'.out ha (.inl rfl) Hbig.out)⟩
                    case measure => simp [intOf]; omega
                  · obtain ⟨b, rfl⟩ : ∃ b, a = b + 1 := ⟨a - 1, by omega⟩
                    have hv2 : wr.cell? ⟨w.heap.size + 2 + 1, b, none⟩ = some (.int .i32 (P'.getD b 0)) := by
                      rw [HPM5.out.p.icell b (by rw [Gl.out]; omega), gap_read _ _ _ _ (by omega)]
                    go_wp2
                    · go_roundw
                      case rel =>
                        refine ⟨b, P'.getD b 0, by omega, rfl, mem_drop_getD _ _ (by omega) _ ‹v < P'[b]?.getD 0› Hbig.out, ?_⟩
                        have h := HPM5.out.setP (b + 1) (P'.getD b 0)
                        rw [gap_move _ _ _ _ (by omega)] at h
                        exact h
                      case measure => simp [intOf]
                    · go_roundw
                      case rel => exact ⟨j + 1, _, Close.out (ins_srt _ _ _ Hsrt'.out ha (.inr ‹P'[b]?.getD 0 ≤ v›) Hbig.out)⟩
                      case measure => simp [intOf]; omega
              · have hjk' : j = kk := by omega
                go_wp2
                go_roundw
                case rel => exact ⟨t + 1, P', by omega, by go_num, by simp [cntN, Hz.out], rfl, Hsrt'.out, by have h := Hperm'.out; rw [hjk', Hkk.out] at h; exact h, by have := Hlen'.out; omega, HPM'.out⟩
                case measure => simp [intOf]; omega
        · have hti : t = i := by omega
          have HPM6 : Hid (PM w wr cs [sumN g i, 0, 0, 0, 0, oN g i, yN g i] (P ++ List.replicate (12 - P.length) 0)) := by rw [← hti]; exact HPM.out
          have Hperm6 : Hid (P.Perm (valsN g i)) := by rw [← hti]; exact Hperm.out
          clear HPM Hperm hti
          obtain ⟨y0, y1, y2, y3, y4, y5, y6⟩ := l7_cells HPM6.out.o
          clear y1 y2 y3 y4 y5 y6
          have hsn := sum_nonneg g i Hn.out i (by omega)
          go_upto_if 135 with fail
          go_cut [17] (fun sk w' => sk = .int .i32 ((min (sumN g i) 4).toNat : Int) ∧ PM w w' cs [sumN g i, 0, 0, 0, 0, oN g i, yN g i] (P ++ List.replicate (12 - P.length) 0))
          case first =>
            go_wp2
            · go_meet
              case rel => exact ⟨by have : 4 < sumN g i := ‹_›; go_num, HPM6.out⟩
            · go_meet
              case rel => exact ⟨by have : sumN g i ≤ 4 := ‹_›; go_num, HPM6.out⟩
          clear HPM6 y0 hsn
          obtain ⟨rfl, hPM7⟩ := hcut
          obtain ⟨kk, hkk⟩ : ∃ kk, kk = (min (sumN g i) 4).toNat := ⟨_, rfl⟩
          rw [← hkk]
          have Hkk := hide hkk
          have hkk4 : kk ≤ 4 := by omega
          clear hkk
          have HPM7 := hide hPM7
          clear hPM7
          go_wp2
          go_loopw [18] (fun sj wr => ∃ j : Nat, R5 g w cs i kk sj wr P j) (fun sj _ => kk - (intOf sj).toNat)
          case atStart => exact ⟨0, by omega, rfl, HPM7.out⟩
          case round =>
            obtain ⟨j, hj, rfl, hPM8⟩ := hrel
            have HPM8 := hide hPM8
            clear hPM8 HPM7
            by_cases hjk : j < kk
            · have c1 : wr.cell? ⟨w.heap.size + 2 + 1, j, none⟩ = some (.int .i32 (P.getD j 0)) := by
                rw [HPM8.out.p.icell j (by simp; omega), pool_get]
              obtain ⟨v1, c2⟩ : ∃ v1, wr.cell? ⟨w.heap.size + 2, 1 + j, none⟩ = some v1 := ⟨_, HPM8.out.o.icell (1 + j) (by show 1 + j < 7; omega)⟩
              have fo := HPM8.out.o.free
              go_wp2
              go_roundw
              case rel => exact ⟨j + 1, by omega, by go_num, by have h := HPM8.out.setO (1 + j) (P.getD j 0); rw [mk_set _ _ _ _ _ (by omega)] at h; exact h⟩
              case measure => simp [intOf]; omega
            · have hjk' : j = kk := by omega
              obtain ⟨y0, y1, y2, y3, y4, y5, y6⟩ := l7_cells HPM8.out.o
              obtain ⟨z0, z1, z2, z3, z4, z5, z6⟩ := l7_cells HPM8.out.r
              have fz := HPM8.out.r.free
              have Hjk' := hide hjk'
              clear hjk'
              go_wp2
              exact bodyPost_ret (v := .agg (ints .i32 (mkS (sumN g i) (P.take j) (oN g i) (yN g i)).l7)) (by simp [results, Try.results37, go_sem, z0, z1, z2, z3, z4, z5, z6, ints, Sm.l7]) rfl
                ⟨_, rfl, ⟨fun h => by have := Hc2.out; omega, fun h => by have := Hc2.out; omega, fun _ => ⟨P, Hsrt.out, Hperm6.out, by rw [Hjk'.out, Hkk.out]⟩⟩, HPM8.out.b.trans ((set7b (Below.refl _ _) _ _ _ _ _ _ _).mono (Nat.le_succ _))⟩
end Go.Proofs.Qxb6605516a
