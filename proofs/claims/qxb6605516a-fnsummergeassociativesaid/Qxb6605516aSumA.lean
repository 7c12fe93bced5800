import Derived.Test.Qxb6605516aMem
namespace Go.Proofs.Qxb6605516a
open Go.RowKit

/-- The ranks that are kept stand in order. -/
def pfxB (n : Int) (f : List Int) : Bool := decide (∀ t : Nat, t < 4 → 1 ≤ t → (t : Int) < n → f.getD (t - 1) 0 ≤ f.getD t 0)

theorem cells4 (f0 f1 f2 f3 : Int) (w : World) (T : Nat) : ∀ j, j < 4 → (w.alloc (.cells #[.int .i32 f0, .int .i32 f1, .int .i32 f2, .int .i32 f3] T)).cell? ⟨w.heap.size, j, none⟩ = some (.int .i32 ([f0, f1, f2, f3].getD j 0)) := by
  intro j hj
  match j, hj with
  | 0, _ => simp [go_sem]
  | 1, _ => simp [go_sem]
  | 2, _ => simp [go_sem]
  | 3, _ => simp [go_sem]


theorem pfx_true {n : Int} {f : List Int} (h : ∀ t : Nat, t < 4 → 1 ≤ t → (t : Int) < n → f.getD (t - 1) 0 ≤ f.getD t 0) : Ending.returned (.bool true) = .returned (.bool (pfxB n f)) := by
  unfold pfxB; rw [decide_eq_true h]
theorem pfx_false {n : Int} {f : List Int} (t : Nat) (h1 : t < 4) (h2 : 1 ≤ t) (h3 : (t : Int) < n) (h : f.getD t 0 < f.getD (t - 1) 0) : Ending.returned (.bool false) = .returned (.bool (pfxB n f)) := by
  unfold pfxB; rw [decide_eq_false]; intro hh; have := hh t h1 h2 h3; omega

set_option maxHeartbeats 400000 in
theorem prefix_any (n f0 f1 f2 f3 : Int) (w : World) :
    Calls Try.prog 33 #[.int .i32 n, .agg #[.int .i32 f0, .int .i32 f1, .int .i32 f2, .int .i32 f3]] w fun e w' => e = .returned (.bool (pfxB n [f0, f1, f2, f3])) ∧ Below w.heap.size w w' := by
  have hc := cells4 f0 f1 f2 f3 w 68
  have hx : Hid (∀ j, j < 4 → (w.alloc (.cells #[.int .i32 f0, .int .i32 f1, .int .i32 f2, .int .i32 f3] 68)).cell? ⟨w.heap.size, j, none⟩ = some (.int .i32 ([f0, f1, f2, f3].getD j 0))) := hc
  clear hc
  obtain ⟨fs, hfs⟩ : ∃ fs, fs = [f0, f1, f2, f3] := ⟨_, rfl⟩
  rw [← hfs] at hx ⊢
  have Hfs : Hid (fs = [f0, f1, f2, f3]) := hfs
  clear hfs
  by_cases h4 : 4 < n
  all_goals
    go_enter Try.func33, Try.ntmps33
    go_wp2
    go_loopw [6] (fun i wr => ∃ k : Nat, 1 ≤ k ∧ k ≤ 4 ∧ i = .int .i32 k ∧ (∀ t : Nat, t < k → 1 ≤ t → fs.getD (t - 1) 0 ≤ fs.getD t 0) ∧ Below (w.heap.size + 1) (w.alloc (.cells #[.int .i32 f0, .int .i32 f1, .int .i32 f2, .int .i32 f3] 68)) wr) (fun i _ => 4 - (intOf i).toNat)
    case atStart => exact ⟨1, by omega, by omega, rfl, fun t h1 h2 => by omega, Below.refl _ _⟩
    case round =>
      obtain ⟨k, hk1, hk4, rfl, hs, hb⟩ := hrel
      have Hs : Hid (∀ t : Nat, t < k → 1 ≤ t → fs.getD (t - 1) 0 ≤ fs.getD t 0) := hs
      clear hs
      by_cases hlt : (k : Int) < n ∧ k < 4
      · obtain ⟨hn, hk⟩ := hlt
        have c1 : wr.cell? ⟨w.heap.size, k, none⟩ = some (.int .i32 (fs.getD k 0)) := (hb.cell (by simp)).trans (hx.out k hk)
        have c2 : wr.cell? ⟨w.heap.size, k - 1, none⟩ = some (.int .i32 (fs.getD (k - 1) 0)) := (hb.cell (by simp)).trans (hx.out (k - 1) (by omega))
        go_wp2
        go_quiet (fail)
        go_wp2
        · go_ret
          exact ⟨pfx_false k hk hk1 hn (by simpa using ‹_›), ((Below.refl _ _).alloc (Nat.le_refl _) _).trans ((below_drewN hb _).mono (by omega))⟩
        · go_roundw
          case rel =>
            refine ⟨k + 1, by omega, by omega, by go_num, fun t h1 h2 => ?_, below_drewN hb _⟩
            by_cases e : t = k
            · subst e; simpa using ‹_›
            · exact Hs.out t (by omega) h2
          case measure => simp [intOf]; omega
      · go_wp2
        go_ret
        exact ⟨pfx_true (fun t h1 h2 h3 => Hs.out t (by omega) h2), ((Below.refl _ _).alloc (Nat.le_refl _) _).trans (hb.mono (by omega))⟩
end Go.Proofs.Qxb6605516a
