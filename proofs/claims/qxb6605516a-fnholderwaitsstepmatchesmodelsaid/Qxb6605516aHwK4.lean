import Derived.Test.Qxb6605516aHwJ
namespace Go.Proofs.Qxb6605516a
open Go.RowKit
set_option linter.unusedVariables false

set_option maxRecDepth 100000 in
set_option maxHeartbeats 8000000 in
theorem l5_4 {c0 c1 c3 c4 c5 c6 c7 c8 c9 c10 c11 c12 c13 c14 c15 c16 c17 c19 c20 c21 c22 c23 c24 c27 c28 c29 c30 c31 c32 c33 c37 c41 c42 c43 c44 c45 c46 c47 c48 c49 c50 c51 c52 c53 c54 c55 c56 c57 c58 c59 c60 c61 c62 c63 c64 c65 c66 c67 c68 c69 c70 c71 c72 c73 c74 c75 c76 c77 c78 c79 c80 c81 c82 c83 c84 c85 c86 c87 c88 c89 c90 c91 c92 c93 c94 c95 c96 c97 c98 c99 c100 c101 c102 c103 c104 c105 c106 c107 c108 c109 c110 c111 c112 c113 c114 c115 c116 c117 c118 c119 c120 c121 c122 c123 c124 c125 c126 c127 c128 c129 c130 c131 c132 c133 c134 c135 c136 c137 c138 c139 c140 c141 c142 c143 c144 c145 c146 c147 c148 c149 c150 c151 c152 c153 c154 c155 c156 c157 c158 c159 c160 c161 c162 c163 c164 c165 c166 c167 c168 c169 c170 c171 c172 c173 c174 c175 c176 c177 c178 c179 c180 c181 c182 c183 c184 c185 c186 c187 c188 c189 c190 c191 c192 c193 c194 c195 c196 c197 c198 c199 c200 c201 c202 c203 c204 c205 c206 c207 c208 c209 c210 c211 c212 c213 c214 c215 c216 c217 c218 c219 c220 c221 c222 c223 c224 c225 c226 c227 c228 c229 c230 c231 c232 c233 c234 c235 c236 c237 c238 c239 c240 c241 c242 c243 c244 c245 c246 c247 c248 c249 c250 c251 c252 c253 c254 c255 c256 c257 c258 c259 c260 c261 c262 c263 c264 c265 c266 c267 c268 c269 c270 c271 c272 c273 c274 c275 c276 c277 c278 c279 c280 c281 c282 c283 c284 c285 c286 c287 c288 c289 c290 c291 c292 c293 c294 c295 c296 c297 c298 c299 c300 c301 c302 c303 c304 c305 c306 c307 c308 c309 c310 c311 c312 c313 c314 c315 c316 c317 c318 c319 c320 c321 c322 c323 c324 c325 c326 c327 c328 c329 c330 c331 c332 c333 c334 c335 c336 c409 c410 c411 c412 c413 c414 c415 u18 u40 u337 u338 u339 u340 u341 u342 u343 u344 u345 u346 u347 u348 u349 u350 u351 u352 u353 u354 u355 u356 u357 u358 u359 u360 u361 u362 u363 u364 u365 u366 u367 u368 u369 u370 u371 u372 u373 u374 u375 u376 u377 u378 u379 u380 u381 u382 u383 u384 u385 u386 u387 u388 u389 u390 u391 u392 u393 u394 u395 u396 u397 u398 u399 u400 u401 u402 u403 u404 u405 u406 u407 u408 : Value} {Q0 : Exit → Act → World → Prop} {w w0 wr : World} {ni m : Nat} {G H : Nat → Int} {L L1 : Nat → Nat} {F F1 : Nat → Nat → Int} {i2 h3 : Option Addr} {d2 d3 : Nat} {la : Nat → Option Addr} {lc : Nat → Nat} {p1 p2 p3 q1 q2 : Option Addr} {l1 l2 : Nat → Option Addr} {k1 k2 : Nat → Nat} {q bs : Nat} {ll : Option Addr} {S0 : Nat → Int} (hni : ni ≤ 65536) (hm : m ≤ 65536) (hS : S5 w w0 ni m G H L L1 F F1 i2 h3 la lc p1 p2 p3 q1 q2 l1 l2 k1 k2) (hqm : q < m) (hLq : L q ≤ 1048576) (hll : la q = ll) (hbs : w0.heap.size ≤ bs) (hG : ∀ c, -2147483648 ≤ G c ∧ G c ≤ 2147483647) (hOK : ∀ j, j < L q → (0 ≤ F q (j * 2) ∧ F q (j * 2) < ni) ∧ F q (j * 2 + 1) ≠ 0) (hL1 : L1 q = kn (F q) G (L q)) (hRw : ∀ i, i < L q → kpt (F q) G i → F1 q (kn (F q) G i * 2) = F q (i * 2) ∧ F1 q (kn (F q) G i * 2 + 1) = F q (i * 2 + 1)) (hQ : U4 w0 ni (L q) bs (F q) G (.int .i64 0) (.int .i64 0) wr 0 S0)
    (hexit : ∀ {u18 u40 u337 u338 u339 u340 u341 u342 u343 u344 u345 u346 u347 u348 u349 u350 u351 u352 u353 u354 u355 u356 u357 u358 u359 u360 u361 u362 u363 u364 u365 u366 u367 u368 u369 u370 u371 u372 u373 u374 u375 u376 u377 u378 u379 u380 u381 u382 u383 u384 u385 u386 u387 u388 u389 u390 u391 u392 u393 u394 u395 u396 u397 u398 u399 u400 u401 u402 u403 u404 u405 u406 u407 u408 : Value} {S : Nat → Int} {w' : World}, U4 w0 ni (L q) bs (F q) G (.int .i64 (kn (F q) G (L q))) (.int .i64 (L q)) w' (L q) S → Q0 (.exit 6) ⟨(c0 :: c1 :: (Value.slice i2 ni d2) :: c3 :: c4 :: c5 :: c6 :: c7 :: c8 :: c9 :: c10 :: c11 :: c12 :: c13 :: c14 :: c15 :: c16 :: c17 :: u18 :: c19 :: c20 :: c21 :: c22 :: c23 :: c24 :: (Value.slice q1 m m) :: (Value.slice q2 m m) :: c27 :: c28 :: c29 :: c30 :: c31 :: c32 :: c33 :: (Value.slice (some ⟨bs, 0, none⟩) ni ni) :: (Value.int .i64 q) :: (Value.slice ll (L q) (lc q)) :: c37 :: (Value.int .i64 (kn (F q) G (L q))) :: (Value.int .i64 (L q)) :: u40 :: c41 :: c42 :: c43 :: c44 :: c45 :: c46 :: c47 :: c48 :: c49 :: c50 :: c51 :: c52 :: c53 :: c54 :: c55 :: c56 :: c57 :: c58 :: c59 :: c60 :: c61 :: c62 :: c63 :: c64 :: c65 :: c66 :: c67 :: c68 :: c69 :: c70 :: c71 :: c72 :: c73 :: c74 :: c75 :: c76 :: c77 :: c78 :: c79 :: c80 :: c81 :: c82 :: c83 :: c84 :: c85 :: c86 :: c87 :: c88 :: c89 :: c90 :: c91 :: c92 :: c93 :: c94 :: c95 :: c96 :: c97 :: c98 :: c99 :: c100 :: c101 :: c102 :: c103 :: c104 :: c105 :: c106 :: c107 :: c108 :: c109 :: c110 :: c111 :: c112 :: c113 :: c114 :: c115 :: c116 :: c117 :: c118 :: c119 :: c120 :: c121 :: c122 :: c123 :: c124 :: c125 :: c126 :: c127 :: c128 :: c129 :: c130 :: c131 :: c132 :: c133 :: c134 :: c135 :: c136 :: c137 :: c138 :: c139 :: c140 :: c141 :: c142 :: c143 :: c144 :: c145 :: c146 :: c147 :: c148 :: c149 :: c150 :: c151 :: c152 :: c153 :: c154 :: c155 :: c156 :: c157 :: c158 :: c159 :: c160 :: c161 :: c162 :: c163 :: c164 :: c165 :: c166 :: c167 :: c168 :: c169 :: c170 :: c171 :: c172 :: c173 :: c174 :: c175 :: c176 :: c177 :: c178 :: c179 :: c180 :: c181 :: c182 :: c183 :: c184 :: c185 :: c186 :: c187 :: c188 :: c189 :: c190 :: c191 :: c192 :: c193 :: c194 :: c195 :: c196 :: c197 :: c198 :: c199 :: c200 :: c201 :: c202 :: c203 :: c204 :: c205 :: c206 :: c207 :: c208 :: c209 :: c210 :: c211 :: c212 :: c213 :: c214 :: c215 :: c216 :: c217 :: c218 :: c219 :: c220 :: c221 :: c222 :: c223 :: c224 :: c225 :: c226 :: c227 :: c228 :: c229 :: c230 :: c231 :: c232 :: c233 :: c234 :: c235 :: c236 :: c237 :: c238 :: c239 :: c240 :: c241 :: c242 :: c243 :: c244 :: c245 :: c246 :: c247 :: c248 :: c249 :: c250 :: c251 :: c252 :: c253 :: c254 :: c255 :: c256 :: c257 :: c258 :: c259 :: c260 :: c261 :: c262 :: c263 :: c264 :: c265 :: c266 :: c267 :: c268 :: c269 :: c270 :: c271 :: c272 :: c273 :: c274 :: c275 :: c276 :: c277 :: c278 :: c279 :: c280 :: c281 :: c282 :: c283 :: c284 :: c285 :: c286 :: c287 :: c288 :: c289 :: c290 :: c291 :: c292 :: c293 :: c294 :: c295 :: c296 :: c297 :: c298 :: c299 :: c300 :: c301 :: c302 :: c303 :: c304 :: c305 :: c306 :: c307 :: c308 :: c309 :: c310 :: c311 :: c312 :: c313 :: c314 :: c315 :: c316 :: c317 :: c318 :: c319 :: c320 :: c321 :: c322 :: c323 :: c324 :: c325 :: c326 :: c327 :: c328 :: c329 :: c330 :: c331 :: c332 :: c333 :: c334 :: c335 :: c336 :: u337 :: u338 :: u339 :: u340 :: u341 :: u342 :: u343 :: u344 :: u345 :: u346 :: u347 :: u348 :: u349 :: u350 :: u351 :: u352 :: u353 :: u354 :: u355 :: u356 :: u357 :: u358 :: u359 :: u360 :: u361 :: u362 :: u363 :: u364 :: u365 :: u366 :: u367 :: u368 :: u369 :: u370 :: u371 :: u372 :: u373 :: u374 :: u375 :: u376 :: u377 :: u378 :: u379 :: u380 :: u381 :: u382 :: u383 :: u384 :: u385 :: u386 :: u387 :: u388 :: u389 :: u390 :: u391 :: u392 :: u393 :: u394 :: u395 :: u396 :: u397 :: u398 :: u399 :: u400 :: u401 :: u402 :: u403 :: u404 :: u405 :: u406 :: u407 :: u408 :: c409 :: c410 :: c411 :: c412 :: c413 :: c414 :: c415 :: []).toArray, []⟩ w') :
    Code.wp Try.prog (Code.loop lp5_4) Q0 ⟨(c0 :: c1 :: (Value.slice i2 ni d2) :: c3 :: c4 :: c5 :: c6 :: c7 :: c8 :: c9 :: c10 :: c11 :: c12 :: c13 :: c14 :: c15 :: c16 :: c17 :: u18 :: c19 :: c20 :: c21 :: c22 :: c23 :: c24 :: (Value.slice q1 m m) :: (Value.slice q2 m m) :: c27 :: c28 :: c29 :: c30 :: c31 :: c32 :: c33 :: (Value.slice (some ⟨bs, 0, none⟩) ni ni) :: (Value.int .i64 q) :: (Value.slice ll (L q) (lc q)) :: c37 :: (Value.int .i64 0) :: (Value.int .i64 0) :: u40 :: c41 :: c42 :: c43 :: c44 :: c45 :: c46 :: c47 :: c48 :: c49 :: c50 :: c51 :: c52 :: c53 :: c54 :: c55 :: c56 :: c57 :: c58 :: c59 :: c60 :: c61 :: c62 :: c63 :: c64 :: c65 :: c66 :: c67 :: c68 :: c69 :: c70 :: c71 :: c72 :: c73 :: c74 :: c75 :: c76 :: c77 :: c78 :: c79 :: c80 :: c81 :: c82 :: c83 :: c84 :: c85 :: c86 :: c87 :: c88 :: c89 :: c90 :: c91 :: c92 :: c93 :: c94 :: c95 :: c96 :: c97 :: c98 :: c99 :: c100 :: c101 :: c102 :: c103 :: c104 :: c105 :: c106 :: c107 :: c108 :: c109 :: c110 :: c111 :: c112 :: c113 :: c114 :: c115 :: c116 :: c117 :: c118 :: c119 :: c120 :: c121 :: c122 :: c123 :: c124 :: c125 :: c126 :: c127 :: c128 :: c129 :: c130 :: c131 :: c132 :: c133 :: c134 :: c135 :: c136 :: c137 :: c138 :: c139 :: c140 :: c141 :: c142 :: c143 :: c144 :: c145 :: c146 :: c147 :: c148 :: c149 :: c150 :: c151 :: c152 :: c153 :: c154 :: c155 :: c156 :: c157 :: c158 :: c159 :: c160 :: c161 :: c162 :: c163 :: c164 :: c165 :: c166 :: c167 :: c168 :: c169 :: c170 :: c171 :: c172 :: c173 :: c174 :: c175 :: c176 :: c177 :: c178 :: c179 :: c180 :: c181 :: c182 :: c183 :: c184 :: c185 :: c186 :: c187 :: c188 :: c189 :: c190 :: c191 :: c192 :: c193 :: c194 :: c195 :: c196 :: c197 :: c198 :: c199 :: c200 :: c201 :: c202 :: c203 :: c204 :: c205 :: c206 :: c207 :: c208 :: c209 :: c210 :: c211 :: c212 :: c213 :: c214 :: c215 :: c216 :: c217 :: c218 :: c219 :: c220 :: c221 :: c222 :: c223 :: c224 :: c225 :: c226 :: c227 :: c228 :: c229 :: c230 :: c231 :: c232 :: c233 :: c234 :: c235 :: c236 :: c237 :: c238 :: c239 :: c240 :: c241 :: c242 :: c243 :: c244 :: c245 :: c246 :: c247 :: c248 :: c249 :: c250 :: c251 :: c252 :: c253 :: c254 :: c255 :: c256 :: c257 :: c258 :: c259 :: c260 :: c261 :: c262 :: c263 :: c264 :: c265 :: c266 :: c267 :: c268 :: c269 :: c270 :: c271 :: c272 :: c273 :: c274 :: c275 :: c276 :: c277 :: c278 :: c279 :: c280 :: c281 :: c282 :: c283 :: c284 :: c285 :: c286 :: c287 :: c288 :: c289 :: c290 :: c291 :: c292 :: c293 :: c294 :: c295 :: c296 :: c297 :: c298 :: c299 :: c300 :: c301 :: c302 :: c303 :: c304 :: c305 :: c306 :: c307 :: c308 :: c309 :: c310 :: c311 :: c312 :: c313 :: c314 :: c315 :: c316 :: c317 :: c318 :: c319 :: c320 :: c321 :: c322 :: c323 :: c324 :: c325 :: c326 :: c327 :: c328 :: c329 :: c330 :: c331 :: c332 :: c333 :: c334 :: c335 :: c336 :: u337 :: u338 :: u339 :: u340 :: u341 :: u342 :: u343 :: u344 :: u345 :: u346 :: u347 :: u348 :: u349 :: u350 :: u351 :: u352 :: u353 :: u354 :: u355 :: u356 :: u357 :: u358 :: u359 :: u360 :: u361 :: u362 :: u363 :: u364 :: u365 :: u366 :: u367 :: u368 :: u369 :: u370 :: u371 :: u372 :: u373 :: u374 :: u375 :: u376 :: u377 :: u378 :: u379 :: u380 :: u381 :: u382 :: u383 :: u384 :: u385 :: u386 :: u387 :: u388 :: u389 :: u390 :: u391 :: u392 :: u393 :: u394 :: u395 :: u396 :: u397 :: u398 :: u399 :: u400 :: u401 :: u402 :: u403 :: u404 :: u405 :: u406 :: u407 :: u408 :: c409 :: c410 :: c411 :: c412 :: c413 :: c414 :: c415 :: []).toArray, []⟩ wr := by
  have HS := hide hS
  have Hll := hide hll
  have HG := hide hG
  have HOK := hide hOK
  have HL1 := hide hL1
  have HRw := hide hRw
  have HQ := hide hQ
  clear hll hG hOK hL1 hRw hQ
  clear hS
  let bp0 : Exit → Act → World → Prop := bodyPost Try.prog Try.f5 (fun _ _ => True)
  refine Code.wp_mono (Q := NoPanic Q0) (fun e a w h => NoPanic.imp e a w h) ?_
  conv => arg 2; arg 1; whnf
  go_loopw [38, 39] (fun s1 s2 wr => ∃ (j : Nat) (S : Nat → Int), U4 w0 ni (L q) bs (F q) G s1 s2 wr j S) (fun _ s _ => L q - (intOf s).toNat)
  case atStart => exact ⟨0, _, HQ.out⟩
  case round =>
    obtain ⟨j, S, hR⟩ := hrel
    have HR := hide hR
    obtain rfl := hR.s1
    obtain rfl := hR.s2
    have hj := hR.hj
    clear hR HQ
    by_cases hlt : j < L q
    · have HS2 := hide (HS.out.below HR.out.bel)
      have hok := HOK.out j hlt
      obtain ⟨x, hx⟩ := Int.eq_ofNat_of_zero_le hok.1.1
      have hxn : x < ni := by omega
      have hE3 := HS.out.ls.el q hqm
      simp only [Hll.out] at hE3
      obtain ⟨b5, o5, rfl, hb5, c5⟩ := rowCell hE3 (by omega)
      have x5 := (HR.out.bel.cell (p := ⟨b5, o5 + j * 2, none⟩) hb5).trans (c5 (j * 2) (by omega))
      have x6 := (HR.out.bel.cell (p := ⟨b5, o5 + (j * 2 + 1), none⟩) hb5).trans (c5 (j * 2 + 1) (by omega))
      rw [← Nat.add_assoc] at x6
      rw [hx] at x5
      have HX := hide hx
      obtain ⟨b0, o0, rfl, hb0, c0⟩ := rowCell HS.out.it (by omega)
      have y0 := (HR.out.bel.cell (p := ⟨b0, o0 + x * 3, none⟩) hb0).trans (c0 (x * 3) (by omega))
      have y2 := (HR.out.bel.cell (p := ⟨b0, o0 + (x * 3 + 2), none⟩) hb0).trans (c0 (x * 3 + 2) (by omega))
      rw [← Nat.add_assoc] at y2
      have n0 : b0 ≠ bs := by omega
      have s1 := HR.out.blk.rcell x hxn
      have s2 := HR.out.blk.free
      have lbs := HR.out.blk.lt
      have lb0 : b0 < wr.heap.size := Nat.lt_of_lt_of_le hb0 HR.out.bel.size
      rw [HR.out.c x hxn] at s1
      have hcle := cm_le (F q) G x j
      clear hok hx c5 c0 hE3
      obtain ⟨u, hu⟩ : ∃ u, F q (j * 2 + 1) = u := ⟨_, rfl⟩
      obtain ⟨g, hg⟩ : ∃ g, G (x * 3) = g := ⟨_, rfl⟩
      obtain ⟨z, hz⟩ : ∃ z, G (x * 3 + 2) = z := ⟨_, rfl⟩
      have hzr := HG.out (x * 3 + 2)
      rw [hu] at x6
      rw [hg] at y0
      rw [hz] at y2 hzr
      have HU := hide hu
      have HGx := hide hg
      have HZ := hide hz
      clear hu hg hz
      have hX : Hid ((F q (j * 2)).toNat = x) := by unfold Hid; rw [HX.out]; rfl
      by_cases he : g = u
      · have HM : Hid (G (x * 3) = F q (j * 2 + 1)) := by unfold Hid; rw [HGx.out, HU.out]; exact he
        subst he
        by_cases hb : rst z ≤ (cm (F q) G x j : Int) + 1
        · have HB : Hid (¬ kpt (F q) G j) := by
            unfold Hid kpt
            rw [hX.out, HZ.out]
            intro hk
            have := hk.2
            omega
          as_aux_lemma =>
            go_wp2
            go_quiet (fail)
            go_wp2
            go_quiet (exact Calls.quiet_of_same (reset_any _ hzr _))
            go_wp2
            go_roundw
            case rel =>
              refine ⟨j + 1, _, by rw [kn_skip HB.out], by go_num, by omega, (((HR.out.blk.alloc _).drewN _).rset x ((cm (F q) G x j : Nat) + 1)).drewN _, fun y hy => ?_, below_drewN ((below_drewN (HR.out.bel.alloc HR.out.bel.size _) _).setCell hbs _) _⟩
              by_cases e : y = x
              · subst e; rw [upd_same, cm_hit HX.out HM.out]; rfl
              · rw [upd_other _ _ _ _ e, cm_other HX.out e]; exact HR.out.c y hy
            case measure => simp [intOf]; omega
        · have HB : Hid (kpt (F q) G j) := by
            unfold Hid kpt
            rw [hX.out, HZ.out]
            exact ⟨HM.out, by omega⟩
          have hkl : kn (F q) G j < kn (F q) G (L q) := kn_lt _ _ hlt HB.out
          have hrow := HRw.out j hlt HB.out
          obtain ⟨b1, o1, rfl, hb1, g1⟩ := slCell HS.out.t1.hd hqm
          obtain ⟨b2, o2, rfl, hb2, g2⟩ := slCell HS.out.t2.hd hqm
          have hE1 := HS.out.t1.el q hqm
          have hE2 := HS.out.t2.el q hqm
          simp only [HL1.out] at g1 g2 hE1 hE2
          obtain ⟨b3, o3, e3, hb3, c3⟩ := rowCell hE1 (by omega)
          obtain ⟨b4, o4, e4, hb4, c4⟩ := rowCell hE2 (by omega)
          rw [e3] at g1
          rw [e4] at g2
          have v1 := (HR.out.bel.cell (p := ⟨b1, o1 + q, none⟩) hb1).trans g1
          have v2 := (HR.out.bel.cell (p := ⟨b2, o2 + q, none⟩) hb2).trans g2
          have v3 := (HR.out.bel.cell (p := ⟨b3, o3 + kn (F q) G j, none⟩) hb3).trans (c3 (kn (F q) G j) (by omega))
          have v4 := (HR.out.bel.cell (p := ⟨b4, o4 + kn (F q) G j, none⟩) hb4).trans (c4 (kn (F q) G j) (by omega))
          simp only [hrow.1, hrow.2, HX.out, HU.out] at v3 v4
          have n1 : b1 ≠ bs := by omega
          have n2 : b2 ≠ bs := by omega
          have n3 : b3 ≠ bs := by omega
          have n4 : b4 ≠ bs := by omega
          have l1' : b1 < wr.heap.size := Nat.lt_of_lt_of_le hb1 HR.out.bel.size
          have l2' : b2 < wr.heap.size := Nat.lt_of_lt_of_le hb2 HR.out.bel.size
          have l3' : b3 < wr.heap.size := Nat.lt_of_lt_of_le hb3 HR.out.bel.size
          have l4' : b4 < wr.heap.size := Nat.lt_of_lt_of_le hb4 HR.out.bel.size
          have hkll := kn_le (F q) G (L q)
          clear hE1 hE2 c3 c4 e3 e4 g1 g2 hrow
          as_aux_lemma =>
            go_wp2
            go_quiet (fail)
            go_wp2
            go_quiet (exact Calls.quiet_of_same (reset_any _ hzr _))
            go_wp2
            go_quiet (fail)
            go_wp2
            go_roundw
            case rel =>
              refine ⟨j + 1, _, by rw [kn_keep HB.out]; rfl, by go_num, by omega, (((HR.out.blk.alloc _).drewN _).rset x ((cm (F q) G x j : Nat) + 1)).drewN _, fun y hy => ?_, below_drewN ((below_drewN (HR.out.bel.alloc HR.out.bel.size _) _).setCell hbs _) _⟩
              by_cases e : y = x
              · subst e; rw [upd_same, cm_hit HX.out HM.out]; rfl
              · rw [upd_other _ _ _ _ e, cm_other HX.out e]; exact HR.out.c y hy
            case measure => simp [intOf]; omega
      · have e1 : (g != u) = true := by simpa using he
        have HM : Hid (¬ G (x * 3) = F q (j * 2 + 1)) := by unfold Hid; rw [HGx.out, HU.out]; exact he
        have HB : Hid (¬ kpt (F q) G j) := by
          unfold Hid kpt
          rw [hX.out]
          exact fun hk => HM.out hk.1
        clear he
        as_aux_lemma =>
          go_wp2
          go_quiet (fail)
          go_wp2
          go_roundw
          case rel =>
            refine ⟨j + 1, _, by rw [kn_skip HB.out], by go_num, by omega, (HR.out.blk.alloc _).drewN _, fun y hy => ?_, below_drewN (HR.out.bel.alloc HR.out.bel.size _) _⟩
            rw [HR.out.c y hy]
            by_cases e : y = x
            · subst e
              simp only [cm]
              rw [if_neg (fun hh => HM.out hh.2)]
              rfl
            · rw [cm_other HX.out e]
          case measure => simp [intOf]; omega
    · obtain rfl : j = L q := by omega
      as_aux_lemma =>
        go_wp2
        first | exact hexit HR.out | exact ⟨_, HR.out⟩ | exact HR.out
end Go.Proofs.Qxb6605516a
