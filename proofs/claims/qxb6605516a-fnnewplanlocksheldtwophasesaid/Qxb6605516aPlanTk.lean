/-
  The last operation of a region waits for all the others: a condition S on the world is asked only while it has not come up.
-/
import Derived.OrdersHeld
import Derived.StillTail
import Derived.Deep.RegionHeld
namespace Go.Proofs.Qxb6605516a
open Go

section
variable {P : Program} {ops : Array Oper} {Q : Exit → Act → World → Prop} {md : Region.Mode} {S : World → Prop}

/-- Whatever order is picked: S holds behind each operation whose number is less than n. -/
def wpAnyE (P : Program) (md : Region.Mode) (ops : Array Oper) (Q : Exit → Act → World → Prop) (S : World → Prop) (n : Nat) : Nat → Array Bool → Act → World → Prop
  | 0, listed, a, w => Region.ready md ops listed = [] ∧ Q .normal a w
  | fuel + 1, listed, a, w =>
    (Region.ready md ops listed = [] → Q .normal a w) ∧
    ∀ i ∈ Region.ready md ops listed, wpOp P ops Q i (fun a' w' => (i < n → S w') ∧ wpAnyE P md ops Q S n fuel (listed.setIfInBounds i true) a' w') a w

theorem wpAny_of_e {n : Nat} : ∀ (fuel : Nat) (listed : Array Bool) (a : Act) (w : World), wpAnyE P md ops Q S n fuel listed a w → wpAny P md ops Q fuel listed a w
  | 0, _, _, _, h => h
  | fuel + 1, _, _, _, h => ⟨h.1, fun i hi => wpOp_mono (fun a' w' h' => wpAny_of_e fuel _ a' w' h'.2) (h.2 i hi)⟩

theorem wpAnyE_first {n i : Nat} {oi : Oper} {v : Value} (hi : ops[i]? = some oi) (hsel : ∀ (j : Nat) (o : Oper) cs b, ops[j]? = some o → o.op ≠ .select cs b)
    (hQ : ∀ c a w, Q (.panic c) (a.put oi.dst v) w → Q (.panic c) a w)
    (hs : Region.sinkB md ops n = true) (hc : Region.chainB md ops n = true) (hn : n < ops.size) (hin : i < n) :
    ∀ (fuel : Nat) (listed : Array Bool) (a : Act) (w : World), HeadInv md ops n listed →
      (∀ j oj, ops[j]? = some oj → j ≠ i → listed.getD j true = false → (∀ e ∈ oj.after, Region.binds md e = true → e.on ≠ i) → oi.apart ops oj = true) →
      i ∈ Region.ready md ops listed → YieldsIf P ops S oi v a → S w →
      wpAnyE P md ops Q S n fuel (listed.setIfInBounds i true) (a.put oi.dst v) w → wpAnyE P md ops Q S n (fuel + 1) listed a w := by
  intro fuel
  induction fuel with
  | zero =>
    intro listed a w _ _ hr hy hS H
    refine ⟨fun h => (by rw [h] at hr; cases hr), fun j hj => ?_⟩
    by_cases hji : j = i
    · subst hji; exact hy.wpOp hi hS ⟨fun _ => hS, H⟩
    · have := ready_mono hj hji
      rw [H.1] at this
      cases this
  | succ fuel ih =>
    intro listed a w inv hfree hr hy hS H
    have hun := (mem_ready.1 hr).1
    refine ⟨fun h => (by rw [h] at hr; cases hr), fun j hj => ?_⟩
    by_cases hji : j = i
    · subst hji; exact hy.wpOp hi hS ⟨fun _ => hS, H⟩
    · have hjn : j < n := by
        rcases Nat.lt_or_ge j n with h | h
        · exact h
        · exact absurd hj (tail_waits hs hc hn inv _ i rfl hin hun j h)
      have h1 := H.2 j (ready_mono hj hji)
      obtain ⟨hjun, oj, hoj, hall⟩ := mem_ready.1 hj
      have hnot : ∀ e ∈ oj.after, Region.binds md e = true → e.on ≠ i := fun e he hb heq => by
        have h1 := hall e he hb
        rw [heq, getD_both hun] at h1
        cases h1
      have h2 := wpOp_putIf hoj (hfree j oj hoj hji hjun hnot) (fun cs b => hsel i oi cs b hi) (fun cs b => hsel j oj cs b hoj) hQ hy h1
      have hfree' : ∀ k ok, ops[k]? = some ok → k ≠ i → (listed.setIfInBounds j true).getD k true = false →
          (∀ e ∈ ok.after, Region.binds md e = true → e.on ≠ i) → oi.apart ops ok = true := fun k ok hk hki hun hno => by
        refine hfree k ok hk hki ?_ hno
        by_cases hjk : j = k
        · subst hjk; exact hjun
        · rw [getD_set_ne true hjk] at hun; exact hun
      refine wpOp_mono (fun a' w' h3 => ⟨fun _ => h3.2.1 hjn, ih (listed.setIfInBounds j true) a' w' (inv.set hj hjn) hfree' (ready_mono hr (Ne.symm hji)) h3.1 (h3.2.1 hjn) ?_⟩) h2
      rw [Array.setIfInBounds_comm _ _ hji]
      exact h3.2.2

/-- 'HeadInv' as a Bool, for the kernel. -/
def headB (md : Region.Mode) (ops : Array Oper) (n : Nat) (listed : Array Bool) : Bool :=
  decide (listed.size = ops.size) &&
  (List.range ops.size).all (fun j => match ops[j]? with
    | some oj => !listed.getD j false || oj.after.all (fun e => !Region.binds md e || listed.getD e.on false)
    | none => true) &&
  (List.range ops.size).all (fun t => decide (t < n) || !listed.getD t true)

theorem headB_spec {n : Nat} {listed : Array Bool} (h : headB md ops n listed = true) : HeadInv md ops n listed := by
  simp only [headB, Bool.and_eq_true, decide_eq_true_eq] at h
  obtain ⟨⟨h1, h2⟩, h3⟩ := h
  refine ⟨h1, fun j oj hj hl e he hb => ?_, fun t ht hts => ?_⟩
  · have hjs : j < ops.size := (Array.getElem?_eq_some_iff.1 hj).1
    have := List.all_eq_true.1 h2 j (List.mem_range.2 hjs)
    simp only [hj, hl, Bool.not_true, Bool.false_or] at this
    have := Array.all_eq_true_iff_forall_mem.1 this e he
    simpa [hb] using this
  · have := List.all_eq_true.1 h3 t (List.mem_range.2 hts)
    simp only [Bool.or_eq_true, decide_eq_true_eq, Bool.not_eq_true'] at this
    rcases this with h | h
    · omega
    · exact h

/-- The side conditions of a take, as one Bool each for the kernel. -/
theorem wpAnyE_take {n i : Nat} {oi : Oper} {v : Value} {fuel : Nat} {listed : Array Bool} {a : Act} {w : World} (hi : ops[i]? = some oi)
    (hB : (Region.noSelect ops && Region.free md ops listed i && (Region.ready md ops listed).contains i && Region.sinkB md ops n && Region.chainB md ops n && decide (n < ops.size) && decide (i < n) && headB md ops n listed) = true)
    (hQ : ∀ c a w, Q (.panic c) (a.put oi.dst v) w → Q (.panic c) a w) (hy : YieldsIf P ops S oi v a) (hS : S w)
    (h : wpAnyE P md ops Q S n fuel (listed.setIfInBounds i true) (a.put oi.dst v) w) : wpAnyE P md ops Q S n (fuel + 1) listed a w := by
  simp only [Bool.and_eq_true, decide_eq_true_eq] at hB
  obtain ⟨⟨⟨⟨⟨⟨⟨h1, h2⟩, h3⟩, h4⟩, h5⟩, h6⟩, h7⟩, h8⟩ := hB
  exact wpAnyE_first hi (Region.noSelect_spec h1) hQ h4 h5 h6 h7 fuel listed a w (headB_spec h8) (Region.free_spec hi h2) (by simpa using h3) hy hS h

/-- One alone may come up, and it is not the last. -/
theorem wpAnyE_one {n i : Nat} {o : Oper} {fuel : Nat} {listed : Array Bool} {a : Act} {w : World} (ho : ops[i]? = some o)
    (hr : Region.ready md ops listed = [i])
    (h : ∀ K : Act → World → Prop, Shut (∀ a w, S w → (S w → wpAnyE P md ops Q S n fuel (listed.setIfInBounds i true) a w) → K a w) → if Region.wanted o (yielded ops a.tmps) = true then Oper.wp P o a w K Q else K (a.put o.dst undef) w) :
    wpAnyE P md ops Q S n (fuel + 1) listed a w := by
  refine ⟨fun h0 => absurd (hr.symm.trans h0) (by simp), fun j hj => ?_⟩
  rw [hr] at hj
  obtain rfl := List.mem_singleton.1 hj
  exact wpOp_step ho (fun K' hK => h K' (fun a w hS hW => hK a w ⟨fun _ => hS, hW hS⟩))

/-- The last comes up. -/
theorem wpAnyE_last {n : Nat} {o : Oper} {fuel : Nat} {listed : Array Bool} {a : Act} {w : World} (ho : ops[n]? = some o)
    (hr : Region.ready md ops listed = [n]) (hd : Region.ready md ops (listed.setIfInBounds n true) = [])
    (h : ∀ K : Act → World → Prop, Shut (∀ a w, Q .normal a w → K a w) → if Region.wanted o (yielded ops a.tmps) = true then Oper.wp P o a w K Q else K (a.put o.dst undef) w) :
    wpAnyE P md ops Q S n (fuel + 1) listed a w := by
  refine ⟨fun h0 => absurd (hr.symm.trans h0) (by simp), fun j hj => ?_⟩
  rw [hr] at hj
  obtain rfl := List.mem_singleton.1 hj
  refine wpOp_step ho (fun K' hK => h K' (fun a w hq => hK a w ⟨fun hlt => absurd hlt (Nat.lt_irrefl _), ?_⟩))
  cases fuel with
  | zero => exact ⟨hd, hq⟩
  | succ f => exact ⟨fun _ => hq, by rw [hd]; simp⟩

theorem wp_region_e {n id : Nat} {a : Act} {w : World} (hm : P.follows .mixedOrders = true) (hS : S w.drew)
    (h : S w.drew → wpAnyE P .any ops Q S n ops.size (Array.replicate ops.size false) a w.drew) : (Code.region id ops true).wp P Q a w :=
  wp_region_any hm (wpAny_of_e _ _ _ _ (h hS))

end
end Go.Proofs.Qxb6605516a
