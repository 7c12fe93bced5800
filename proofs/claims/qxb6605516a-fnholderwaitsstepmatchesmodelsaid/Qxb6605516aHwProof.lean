import Derived.Test.Qxb6605516aHwO
import Derived.Test.Qxb6605516aHwW
namespace Go.Proofs.Qxb6605516a.fnHolderWaitsStepMatchesModel
open Go.ChangeMaps Go.ChangeShapes Go.WideShapes Go.ChangeAt Go.RowKit
set_option linter.unusedVariables false

set_option maxRecDepth 100000 in
theorem lifted (os : Os) (started : os.Started) (H : Type) (enc : TypeId × Value → H) :
    ReturnsInHanded {} Try.checked os 5 .any (Rows.fnHolderWaitsStepMatchesModelSpec.pre6 enc Try.prog Try.f5 Rows.fnHolderWaitsStepMatchesModelRow.domain false) (Rows.fnHolderWaitsStepMatchesModelSpec.post enc Try.prog Try.f5 false true false false) := by
  refine returnsInHanded_of_change (C := Try.checked) own started (by kernel_rfl) Try.func5
    (ChangeSpec.witness6 (enc := enc) (C := Try.checked) false ⟨#[], #[.int .i32 0, .int .i32 0, .slice none 0 0, .slice none 0 0, .slice none 0 0, .slice none 0 0, .int .i32 0, .int .i32 0, .int .i32 0], []⟩ 8 (by kernel_rfl) (by kernel_rfl) (by kernel_rfl) (by kernel_rfl)) ?_
  intro W base args ds gs before hval0 hW hcnd _
  have hval : ∀ (j : Nat) t v, Try.f5.params[j]? = some t → args[j]? = some v → Value.okWide Try.prog W .any base t v := hval0
  have hW' := hW
  obtain ⟨p, q, hA0, hV, rfl, hfz, hnd⟩ := hW
  have hA : DataW.TrodAll enc Try.prog W 0 (fun _ => true) true Try.f5.params.toList args.toList ds p := hA0
  rw [Try.params5] at hA hval
  obtain ⟨v0, vs0, d0, ds0, p0, q0, hargs, rfl, rfl, h0, r0⟩ := trodAll_cons hA
  obtain ⟨v1, vs1, d1, ds1, p1, q1, rfl, rfl, rfl, h1, r1⟩ := trodAll_cons r0
  obtain ⟨v2, vs2, d2, ds2, p2, q2, rfl, rfl, rfl, h2, r2⟩ := trodAll_cons r1
  obtain ⟨v3, vs3, d3, ds3, p3, q3, rfl, rfl, rfl, h3, r3⟩ := trodAll_cons r2
  obtain ⟨v4, vs4, d4, ds4, p4, q4, rfl, rfl, rfl, h4, r4⟩ := trodAll_cons r3
  obtain ⟨v5, vs5, d5, ds5, p5, q5, rfl, rfl, rfl, h5, r5⟩ := trodAll_cons r4
  obtain ⟨v6, vs6, d6, ds6, p6, q6, rfl, rfl, rfl, h6, r6⟩ := trodAll_cons r5
  obtain ⟨v7, vs7, d7, ds7, p7, q7, rfl, rfl, rfl, h7, r7⟩ := trodAll_cons r6
  obtain ⟨v8, vs8, d8, ds8, p8, q8, rfl, rfl, rfl, h8, r8⟩ := trodAll_cons r7
  obtain ⟨rfl, rfl, rfl⟩ := trodAll_nil r8
  obtain rfl : args = #[v0, v1, v2, v3, v4, v5, v6, v7, v8] := by cases args; simp_all
  obtain ⟨rfl, rfl⟩ := trodVars_none hV
  have lt : ∀ {t v d ps}, DataW.Trod enc Try.prog W 0 (fun _ => true) true t v d ps → ∀ x ∈ ps, x.block < W.heap.size := fun k => by obtain ⟨m, hm⟩ := k; exact DataW.trod_lt m _ _ _ hm
  have c21 : Try.prog.cellsOf 21 = 1 := by kernel_rfl
  have i62 : Ints H enc Try.prog W 0 (fun _ => true) true 62 3 := ints3 Try.underlying62 rfl rfl rfl rfl rfl rfl Try.underlying21 Try.underlying21 Try.underlying21 c21 c21 c21
  have i66 : Ints H enc Try.prog W 0 (fun _ => true) true 66 2 := ints2 Try.underlying66 rfl rfl rfl rfl Try.underlying21 Try.underlying21 c21 c21
  have i21 : Ints H enc Try.prog W 0 (fun _ => true) true 21 1 := ints1 Try.underlying21
  obtain ⟨x0, rfl, rfl, rfl, w0⟩ := open_int Try.underlying21 (hval 0 21 v0 rfl rfl) h0
  obtain ⟨x1, rfl, rfl, rfl, w1⟩ := open_int Try.underlying21 (hval 1 21 v1 rfl rfl) h1
  obtain ⟨f2, t2⟩ := val_slice Try.underlying44 (hval 2 44 v2 rfl rfl) h2
  obtain ⟨a2, n2, c2, e2, z2, s2, g2⟩ := open_irow Try.underlying44 (by kernel_rfl) (by omega) i62 t2
  simp only [List.cons.injEq, and_true] at e2
  obtain ⟨f3, t3⟩ := val_slice Try.underlying45 (hval 3 45 v3 rfl rfl) h3
  obtain ⟨a3, n3, c3, L, F, la, lc, e3, z3, s3, g3⟩ := open_nst Try.underlying45 Try.underlying64 (by kernel_rfl) (by kernel_rfl) (by omega) i66 t3
  simp only [List.cons.injEq, and_true] at e3
  obtain ⟨f4, t4⟩ := val_slice Try.underlying35 (hval 4 35 v4 rfl rfl) h4
  obtain ⟨a4, n4, c4, e4, z4, s4, g4⟩ := open_irow Try.underlying35 (by kernel_rfl) (by omega) i21 t4
  simp only [List.cons.injEq, and_true] at e4
  obtain ⟨f5, t5⟩ := val_slice Try.underlying35 (hval 5 35 v5 rfl rfl) h5
  obtain ⟨a5, n5, c5, e5, z5, s5, g5⟩ := open_irow Try.underlying35 (by kernel_rfl) (by omega) i21 t5
  simp only [List.cons.injEq, and_true] at e5
  obtain ⟨x6, rfl, rfl, rfl, w6⟩ := open_int Try.underlying21 (hval 6 21 v6 rfl rfl) h6
  obtain ⟨x7, rfl, rfl, rfl, w7⟩ := open_int Try.underlying21 (hval 7 21 v7 rfl rfl) h7
  obtain ⟨x8, rfl, rfl, rfl, w8⟩ := open_int Try.underlying21 (hval 8 21 v8 rfl rfl) h8
  subst e2 e3 e4 e5
  clear hA0 hval0
  refine (holderlaw x0 x1 x6 x7 x8 a2 n2 c2 a3 n3 c3 a4 n4 c4 a5 n5 c5 _ L F la lc _ _ W z2 z3 z4 z5 s2 s3 s4 s5 g2 g3 g4 (bounds_i32 w7) (bounds_i32 w8)).mono fun e W' ⟨he, bel⟩ => ?_
  subst he
  exact ⟨_, rfl, _, _, _, [], _, [], hW', trodAll_mk1 (shut_bool Try.underlying4 _),
    (trodAll_cons_mk (shut_int Try.underlying21 w0) (trodAll_cons_mk (shut_int Try.underlying21 w1) (trodAll_cons_mk (Below.trod laidOut (by kernel_rfl) (of_decide_eq_true (by kernel_rfl)) h2 bel (lt h2)) (trodAll_cons_mk (Below.trod laidOut (by kernel_rfl) (of_decide_eq_true (by kernel_rfl)) h3 bel (lt h3))
      (trodAll_cons_mk (Below.trod laidOut (by kernel_rfl) (of_decide_eq_true (by kernel_rfl)) h4 bel (lt h4)) (trodAll_cons_mk (Below.trod laidOut (by kernel_rfl) (of_decide_eq_true (by kernel_rfl)) h5 bel (lt h5)) (trodAll_cons_mk (shut_int Try.underlying21 w6) (trodAll_cons_mk (shut_int Try.underlying21 w7) (trodAll_cons_mk (shut_int Try.underlying21 w8) trodAll_mk0))))))))), rfl, bel.frame _, fun h => by cases h⟩

theorem over : Rows.fnHolderWaitsStepMatchesModelRow.holds Try.pinned (OpenSpec.ofChange Rows.fnHolderWaitsStepMatchesModelSpec) :=
  OpenClaim.holds_of_wide 5 Try.f5 rfl rfl rfl rfl rfl rfl rfl ⟨rfl, rfl, rfl, rfl, rfl⟩ rfl rfl rfl rfl rfl (by kernel_rfl) Try.func5 (by kernel_rfl)
    (of_decide_eq_true (by kernel_rfl)) (by unfold Func.isWrapper; first | (rw [if_pos (by decide +kernel)]; kernel_rfl) | (rw [if_neg (by decide +kernel)]; exact ⟨rfl, rfl⟩))
    (fun os started H enc _ => lifted os started H enc)

/-- THE STATEMENT -/
theorem proved : Rows.FnHolderWaitsStepMatchesModelSaid := over
#print axioms proved
end Go.Proofs.Qxb6605516a.fnHolderWaitsStepMatchesModel
