import Derived.Test.Qxb6605516aHwJ
namespace Go.Proofs.Qxb6605516a
open Go.RowKit
set_option linter.unusedVariables false
theorem mul_bound {c : Nat} {d : Int} (hc : c ≤ 1048576) (hd : -2147483648 ≤ d ∧ d ≤ 2147483647) : -2251799813685248 ≤ (c : Int) * d ∧ (c : Int) * d ≤ 2251799813685248 := by
  have h1 : (c : Int) * d ≤ (c : Int) * 2147483647 := Int.mul_le_mul_of_nonneg_left hd.2 (by omega)
  have h2 : (c : Int) * (-2147483648) ≤ (c : Int) * d := Int.mul_le_mul_of_nonneg_left hd.1 (by omega)
  omega
/-- The copy of an item, in memory. -/
structure U9 (w0 w' : World) (bw : Nat) (e0 e1 e2 : Int) : Prop where
  blk : Blk w' bw #[.int .i32 e0, .int .i32 e1, .int .i32 e2] 62
  hb : w0.heap.size ≤ bw
  bel : Below w0.heap.size w0 w'

set_option maxRecDepth 100000 in
set_option maxHeartbeats 8000000 in
theorem l5_1 {c0 c1 c3 c4 c5 c6 c7 c9 c10 c11 c12 c13 c14 c15 c16 c17 c19 c20 c21 c25 c26 c27 c28 c29 c30 c34 c35 c36 c37 c38 c39 c40 c41 c42 c43 c44 c45 c46 c47 c48 c49 c50 c51 c52 c53 c54 c55 c56 c57 c58 c59 c60 c61 c62 c63 c64 c65 c66 c67 c68 c69 c70 c71 c72 c73 c74 c75 c76 c77 c78 c79 c80 c81 c82 c83 c84 c85 c86 c87 c88 c89 c90 c91 c92 c93 c94 c95 c96 c97 c98 c99 c100 c101 c102 c103 c104 c105 c106 c107 c108 c109 c110 c111 c112 c113 c114 c115 c116 c117 c118 c119 c120 c121 c122 c123 c124 c125 c126 c127 c128 c129 c130 c131 c132 c133 c134 c135 c136 c137 c138 c139 c140 c141 c142 c143 c144 c145 c146 c147 c148 c149 c150 c151 c152 c153 c154 c155 c156 c157 c158 c159 c160 c161 c162 c163 c164 c165 c166 c167 c168 c169 c170 c171 c172 c173 c174 c175 c176 c177 c178 c179 c180 c181 c182 c183 c184 c257 c258 c259 c260 c261 c262 c263 c264 c265 c266 c267 c268 c269 c270 c271 c272 c273 c274 c275 c276 c277 c278 c279 c280 c281 c282 c283 c284 c285 c286 c287 c288 c289 c290 c291 c292 c293 c294 c295 c296 c297 c298 c299 c300 c301 c302 c303 c304 c305 c306 c307 c308 c309 c310 c311 c312 c313 c314 c315 c316 c317 c318 c319 c320 c321 c322 c323 c324 c325 c326 c327 c328 c329 c330 c331 c332 c333 c334 c335 c336 c337 c338 c339 c340 c341 c342 c343 c344 c345 c346 c347 c348 c349 c350 c351 c352 c353 c354 c355 c356 c357 c358 c359 c360 c361 c362 c363 c364 c365 c366 c367 c368 c369 c370 c371 c372 c373 c374 c375 c376 c377 c378 c379 c380 c381 c382 c383 c384 c385 c386 c387 c388 c389 c390 c391 c392 c393 c394 c395 c396 c397 c398 c399 c400 c401 c402 c403 c404 c405 c406 c407 c408 c409 c410 c411 c412 c413 c414 c415 u18 u33 u185 u186 u187 u188 u189 u190 u191 u192 u193 u194 u195 u196 u197 u198 u199 u200 u201 u202 u203 u204 u205 u206 u207 u208 u209 u210 u211 u212 u213 u214 u215 u216 u217 u218 u219 u220 u221 u222 u223 u224 u225 u226 u227 u228 u229 u230 u231 u232 u233 u234 u235 u236 u237 u238 u239 u240 u241 u242 u243 u244 u245 u246 u247 u248 u249 u250 u251 u252 u253 u254 u255 u256 : Value} {Q0 : Exit → Act → World → Prop} {w w0 wr : World} {ni m : Nat} {G H : Nat → Int} {L L1 : Nat → Nat} {F F1 : Nat → Nat → Int} {i2 h3 : Option Addr} {d2 d3 : Nat} {la : Nat → Option Addr} {lc : Nat → Nat} {p1 p2 p3 q1 q2 : Option Addr} {l1 l2 : Nat → Option Addr} {k1 k2 : Nat → Nat} {d : Int} {bc : Nat} {C : Nat → Int} {cx : Nat → Nat} (hni : ni ≤ 65536) (hm : m ≤ 65536) (hS : S5 w w0 ni m G H L L1 F F1 i2 h3 la lc p1 p2 p3 q1 q2 l1 l2 k1 k2) (hd : -2147483648 ≤ d ∧ d ≤ 2147483647) (hG : ∀ c, -2147483648 ≤ G c ∧ G c ≤ 2147483647) (hBC : Blk w0 bc (irow .i64 ni C) 2) (hC : ∀ x, x < ni → C x = (cx x : Nat)) (hCx : ∀ x, cx x ≤ 1048576) (hI : ∀ x, x < ni → H (x * 3) = itE G x (cx x) ∧ H (x * 3 + 1) = itW d G x (cx x) ∧ H (x * 3 + 2) = itS G x (cx x)) (hQ : U1 w0 ni (.int .i64 0) wr 0)
    (hexit : ∀ {u18 u33 u185 u186 u187 u188 u189 u190 u191 u192 u193 u194 u195 u196 u197 u198 u199 u200 u201 u202 u203 u204 u205 u206 u207 u208 u209 u210 u211 u212 u213 u214 u215 u216 u217 u218 u219 u220 u221 u222 u223 u224 u225 u226 u227 u228 u229 u230 u231 u232 u233 u234 u235 u236 u237 u238 u239 u240 u241 u242 u243 u244 u245 u246 u247 u248 u249 u250 u251 u252 u253 u254 u255 u256 : Value}  {w' : World}, U1 w0 ni (.int .i64 ni) w' ni → Q0 (.exit 0) ⟨(c0 :: c1 :: (Value.slice i2 ni d2) :: c3 :: c4 :: c5 :: c6 :: c7 :: (Value.int .i32 d) :: c9 :: c10 :: c11 :: c12 :: c13 :: c14 :: c15 :: c16 :: c17 :: u18 :: c19 :: c20 :: c21 :: (Value.slice p1 ni ni) :: (Value.slice p2 ni ni) :: (Value.slice p3 ni ni) :: c25 :: c26 :: c27 :: c28 :: c29 :: c30 :: (Value.slice (some ⟨bc, 0, none⟩) ni ni) :: (Value.int .i64 ni) :: u33 :: c34 :: c35 :: c36 :: c37 :: c38 :: c39 :: c40 :: c41 :: c42 :: c43 :: c44 :: c45 :: c46 :: c47 :: c48 :: c49 :: c50 :: c51 :: c52 :: c53 :: c54 :: c55 :: c56 :: c57 :: c58 :: c59 :: c60 :: c61 :: c62 :: c63 :: c64 :: c65 :: c66 :: c67 :: c68 :: c69 :: c70 :: c71 :: c72 :: c73 :: c74 :: c75 :: c76 :: c77 :: c78 :: c79 :: c80 :: c81 :: c82 :: c83 :: c84 :: c85 :: c86 :: c87 :: c88 :: c89 :: c90 :: c91 :: c92 :: c93 :: c94 :: c95 :: c96 :: c97 :: c98 :: c99 :: c100 :: c101 :: c102 :: c103 :: c104 :: c105 :: c106 :: c107 :: c108 :: c109 :: c110 :: c111 :: c112 :: c113 :: c114 :: c115 :: c116 :: c117 :: c118 :: c119 :: c120 :: c121 :: c122 :: c123 :: c124 :: c125 :: c126 :: c127 :: c128 :: c129 :: c130 :: c131 :: c132 :: c133 :: c134 :: c135 :: c136 :: c137 :: c138 :: c139 :: c140 :: c141 :: c142 :: c143 :: c144 :: c145 :: c146 :: c147 :: c148 :: c149 :: c150 :: c151 :: c152 :: c153 :: c154 :: c155 :: c156 :: c157 :: c158 :: c159 :: c160 :: c161 :: c162 :: c163 :: c164 :: c165 :: c166 :: c167 :: c168 :: c169 :: c170 :: c171 :: c172 :: c173 :: c174 :: c175 :: c176 :: c177 :: c178 :: c179 :: c180 :: c181 :: c182 :: c183 :: c184 :: u185 :: u186 :: u187 :: u188 :: u189 :: u190 :: u191 :: u192 :: u193 :: u194 :: u195 :: u196 :: u197 :: u198 :: u199 :: u200 :: u201 :: u202 :: u203 :: u204 :: u205 :: u206 :: u207 :: u208 :: u209 :: u210 :: u211 :: u212 :: u213 :: u214 :: u215 :: u216 :: u217 :: u218 :: u219 :: u220 :: u221 :: u222 :: u223 :: u224 :: u225 :: u226 :: u227 :: u228 :: u229 :: u230 :: u231 :: u232 :: u233 :: u234 :: u235 :: u236 :: u237 :: u238 :: u239 :: u240 :: u241 :: u242 :: u243 :: u244 :: u245 :: u246 :: u247 :: u248 :: u249 :: u250 :: u251 :: u252 :: u253 :: u254 :: u255 :: u256 :: c257 :: c258 :: c259 :: c260 :: c261 :: c262 :: c263 :: c264 :: c265 :: c266 :: c267 :: c268 :: c269 :: c270 :: c271 :: c272 :: c273 :: c274 :: c275 :: c276 :: c277 :: c278 :: c279 :: c280 :: c281 :: c282 :: c283 :: c284 :: c285 :: c286 :: c287 :: c288 :: c289 :: c290 :: c291 :: c292 :: c293 :: c294 :: c295 :: c296 :: c297 :: c298 :: c299 :: c300 :: c301 :: c302 :: c303 :: c304 :: c305 :: c306 :: c307 :: c308 :: c309 :: c310 :: c311 :: c312 :: c313 :: c314 :: c315 :: c316 :: c317 :: c318 :: c319 :: c320 :: c321 :: c322 :: c323 :: c324 :: c325 :: c326 :: c327 :: c328 :: c329 :: c330 :: c331 :: c332 :: c333 :: c334 :: c335 :: c336 :: c337 :: c338 :: c339 :: c340 :: c341 :: c342 :: c343 :: c344 :: c345 :: c346 :: c347 :: c348 :: c349 :: c350 :: c351 :: c352 :: c353 :: c354 :: c355 :: c356 :: c357 :: c358 :: c359 :: c360 :: c361 :: c362 :: c363 :: c364 :: c365 :: c366 :: c367 :: c368 :: c369 :: c370 :: c371 :: c372 :: c373 :: c374 :: c375 :: c376 :: c377 :: c378 :: c379 :: c380 :: c381 :: c382 :: c383 :: c384 :: c385 :: c386 :: c387 :: c388 :: c389 :: c390 :: c391 :: c392 :: c393 :: c394 :: c395 :: c396 :: c397 :: c398 :: c399 :: c400 :: c401 :: c402 :: c403 :: c404 :: c405 :: c406 :: c407 :: c408 :: c409 :: c410 :: c411 :: c412 :: c413 :: c414 :: c415 :: []).toArray, []⟩ w') :
    Code.wp Try.prog (Code.loop lp5_1) Q0 ⟨(c0 :: c1 :: (Value.slice i2 ni d2) :: c3 :: c4 :: c5 :: c6 :: c7 :: (Value.int .i32 d) :: c9 :: c10 :: c11 :: c12 :: c13 :: c14 :: c15 :: c16 :: c17 :: u18 :: c19 :: c20 :: c21 :: (Value.slice p1 ni ni) :: (Value.slice p2 ni ni) :: (Value.slice p3 ni ni) :: c25 :: c26 :: c27 :: c28 :: c29 :: c30 :: (Value.slice (some ⟨bc, 0, none⟩) ni ni) :: (Value.int .i64 0) :: u33 :: c34 :: c35 :: c36 :: c37 :: c38 :: c39 :: c40 :: c41 :: c42 :: c43 :: c44 :: c45 :: c46 :: c47 :: c48 :: c49 :: c50 :: c51 :: c52 :: c53 :: c54 :: c55 :: c56 :: c57 :: c58 :: c59 :: c60 :: c61 :: c62 :: c63 :: c64 :: c65 :: c66 :: c67 :: c68 :: c69 :: c70 :: c71 :: c72 :: c73 :: c74 :: c75 :: c76 :: c77 :: c78 :: c79 :: c80 :: c81 :: c82 :: c83 :: c84 :: c85 :: c86 :: c87 :: c88 :: c89 :: c90 :: c91 :: c92 :: c93 :: c94 :: c95 :: c96 :: c97 :: c98 :: c99 :: c100 :: c101 :: c102 :: c103 :: c104 :: c105 :: c106 :: c107 :: c108 :: c109 :: c110 :: c111 :: c112 :: c113 :: c114 :: c115 :: c116 :: c117 :: c118 :: c119 :: c120 :: c121 :: c122 :: c123 :: c124 :: c125 :: c126 :: c127 :: c128 :: c129 :: c130 :: c131 :: c132 :: c133 :: c134 :: c135 :: c136 :: c137 :: c138 :: c139 :: c140 :: c141 :: c142 :: c143 :: c144 :: c145 :: c146 :: c147 :: c148 :: c149 :: c150 :: c151 :: c152 :: c153 :: c154 :: c155 :: c156 :: c157 :: c158 :: c159 :: c160 :: c161 :: c162 :: c163 :: c164 :: c165 :: c166 :: c167 :: c168 :: c169 :: c170 :: c171 :: c172 :: c173 :: c174 :: c175 :: c176 :: c177 :: c178 :: c179 :: c180 :: c181 :: c182 :: c183 :: c184 :: u185 :: u186 :: u187 :: u188 :: u189 :: u190 :: u191 :: u192 :: u193 :: u194 :: u195 :: u196 :: u197 :: u198 :: u199 :: u200 :: u201 :: u202 :: u203 :: u204 :: u205 :: u206 :: u207 :: u208 :: u209 :: u210 :: u211 :: u212 :: u213 :: u214 :: u215 :: u216 :: u217 :: u218 :: u219 :: u220 :: u221 :: u222 :: u223 :: u224 :: u225 :: u226 :: u227 :: u228 :: u229 :: u230 :: u231 :: u232 :: u233 :: u234 :: u235 :: u236 :: u237 :: u238 :: u239 :: u240 :: u241 :: u242 :: u243 :: u244 :: u245 :: u246 :: u247 :: u248 :: u249 :: u250 :: u251 :: u252 :: u253 :: u254 :: u255 :: u256 :: c257 :: c258 :: c259 :: c260 :: c261 :: c262 :: c263 :: c264 :: c265 :: c266 :: c267 :: c268 :: c269 :: c270 :: c271 :: c272 :: c273 :: c274 :: c275 :: c276 :: c277 :: c278 :: c279 :: c280 :: c281 :: c282 :: c283 :: c284 :: c285 :: c286 :: c287 :: c288 :: c289 :: c290 :: c291 :: c292 :: c293 :: c294 :: c295 :: c296 :: c297 :: c298 :: c299 :: c300 :: c301 :: c302 :: c303 :: c304 :: c305 :: c306 :: c307 :: c308 :: c309 :: c310 :: c311 :: c312 :: c313 :: c314 :: c315 :: c316 :: c317 :: c318 :: c319 :: c320 :: c321 :: c322 :: c323 :: c324 :: c325 :: c326 :: c327 :: c328 :: c329 :: c330 :: c331 :: c332 :: c333 :: c334 :: c335 :: c336 :: c337 :: c338 :: c339 :: c340 :: c341 :: c342 :: c343 :: c344 :: c345 :: c346 :: c347 :: c348 :: c349 :: c350 :: c351 :: c352 :: c353 :: c354 :: c355 :: c356 :: c357 :: c358 :: c359 :: c360 :: c361 :: c362 :: c363 :: c364 :: c365 :: c366 :: c367 :: c368 :: c369 :: c370 :: c371 :: c372 :: c373 :: c374 :: c375 :: c376 :: c377 :: c378 :: c379 :: c380 :: c381 :: c382 :: c383 :: c384 :: c385 :: c386 :: c387 :: c388 :: c389 :: c390 :: c391 :: c392 :: c393 :: c394 :: c395 :: c396 :: c397 :: c398 :: c399 :: c400 :: c401 :: c402 :: c403 :: c404 :: c405 :: c406 :: c407 :: c408 :: c409 :: c410 :: c411 :: c412 :: c413 :: c414 :: c415 :: []).toArray, []⟩ wr := by
  have HS := hide hS
  have Hd := hide hd
  have HG := hide hG
  have HBC := hide hBC
  have HC := hide hC
  have HCx := hide hCx
  have HI := hide hI
  have HQ := hide hQ
  clear hd hG hBC hC hCx hI hQ
  clear hS
  let bp0 : Exit → Act → World → Prop := bodyPost Try.prog Try.f5 (fun _ _ => True)
  refine Code.wp_mono (Q := NoPanic Q0) (fun e a w h => NoPanic.imp e a w h) ?_
  conv => arg 2; arg 1; whnf
  go_loopw [32] (fun s wr => ∃ (x : Nat), U1 w0 ni s wr x) (fun s _ => ni - (intOf s).toNat)
  case atStart => exact ⟨0, HQ.out⟩
  case round =>
    obtain ⟨x, hR⟩ := hrel
    have HR := hide hR
    obtain rfl := hR.s
    have hx := hR.hp
    clear hR HQ
    by_cases hlt : x < ni
    · have HS2 := hide (HS.out.below HR.out.bel)
      obtain ⟨b0, o0, rfl, hb0, c0⟩ := rowCell HS2.out.it (by omega)
      obtain ⟨b1, o1, rfl, hb1, c1⟩ := rowCell HS2.out.r1 (by omega)
      obtain ⟨b2, o2, rfl, hb2, c2⟩ := rowCell HS2.out.r2 (by omega)
      obtain ⟨b3, o3, rfl, hb3, c3⟩ := rowCell HS2.out.r3 (by omega)
      have y0 := c0 (x * 3) (by omega)
      have y1 := c0 (x * 3 + 1) (by omega)
      have y2 := c0 (x * 3 + 2) (by omega)
      rw [← Nat.add_assoc] at y1 y2
      have v1 := c1 x (by omega)
      have v2 := c2 x (by omega)
      have v3 := c3 x (by omega)
      have hbB := HBC.out.below HR.out.bel HBC.out.lt
      have s1 := hbB.rcell x hlt
      have lbc := hbB.lt
      rw [HC.out x hlt] at s1
      have hI := HI.out x hlt
      simp only [hI.1, hI.2.1, hI.2.2] at v1 v2 v3
      have hcx := HCx.out x
      have hg0 := HG.out (x * 3)
      have hg1 := HG.out (x * 3 + 1)
      have hg2 := HG.out (x * 3 + 2)
      clear c0 c1 c2 c3 hbB hI
      unfold itE at v1
      unfold itW at v2
      unfold itS at v3
      obtain ⟨a0, ha0⟩ : ∃ a0, G (x * 3) = a0 := ⟨_, rfl⟩
      obtain ⟨a1, ha1⟩ : ∃ a1, G (x * 3 + 1) = a1 := ⟨_, rfl⟩
      obtain ⟨a2, ha2⟩ : ∃ a2, G (x * 3 + 2) = a2 := ⟨_, rfl⟩
      obtain ⟨c, hc⟩ : ∃ c, cx x = c := ⟨_, rfl⟩
      rw [ha0] at y0 hg0 v1
      rw [ha1] at y1 hg1 v2
      rw [ha2] at y2 hg2 v1 v2 v3
      rw [hc] at s1 v1 v2 v3 hcx
      clear ha0 ha1 ha2 hc
      have K1 := hide v1
      have K2 := hide v2
      have K3 := hide v3
      have hle0 := HR.out.bel.size
      clear v1 v2 v3
      go_upto_region 35 with fail
      go_cut [33] (fun c w' => ∃ bw, c = .pointer (some ⟨bw, 0, none⟩) ∧ U9 wr w' bw a0 a1 a2)
      case first =>
        as_aux_lemma =>
          go_wp2
          go_meet
          case rel => exact ⟨_, rfl, Blk.new _ _ _, Nat.le_refl _, (Below.refl _ _).alloc (Nat.le_refl _) _⟩
      obtain ⟨bw, rfl, hU⟩ := hcut
      have HU0 := hide hU
      have s1c := (hU.bel.cell (p := ⟨bc, x, none⟩) lbc).trans s1
      have lbc' : bc < wc.heap.size := Nat.lt_of_lt_of_le lbc hU.bel.size
      have lbw := hU.blk.lt
      have nbc : bc ≠ bw := by have := hU.hb; omega
      clear hU y0 y1 y2
      go_upto_region 36 with fail
      go_cut [199] (fun c' w' => c' = .bool (decide (0 < (c : Int))) ∧ w' = wc)
      case first =>
        as_aux_lemma =>
          go_wp2
          go_meet
          case rel => exact ⟨by simp, rfl⟩
      obtain ⟨rfl, rfl⟩ := hcut
      go_step
      go_cut [] (fun w' => U9 wr w' bw (if c = 0 then a0 else if rst a2 ≤ (c : Int) then 0 else a0) (if c = 0 then a1 else if rst a2 ≤ (c : Int) then 0 else wrap32 (a1 + (c : Int) * d)) (if c = 0 then a2 else if rst a2 ≤ (c : Int) then 0 else wrap32 (a2 - (c : Int))))
      case first =>
        by_cases hc0 : c = 0
        · subst hc0
          as_aux_lemma =>
            go_wp2
            go_meet
            case rel => exact HU0.out
        · have hcp : 0 < c := by omega
          have HC0 := hide hc0
          have u2 : wc.cell? ⟨bw, 2, none⟩ = some (.int .i32 a2) := HU0.out.blk.cell 2
          have u1 : wc.cell? ⟨bw, 1, none⟩ = some (.int .i32 a1) := HU0.out.blk.cell 1
          have u0 : wc.cell? ⟨bw, 0, none⟩ = some (.int .i32 a0) := HU0.out.blk.cell 0
          have uf := HU0.out.blk.free
          clear hc0
          by_cases hb : rst a2 ≤ (c : Int)
          · as_aux_lemma =>
              go_wp2
              go_quiet (exact Calls.quiet_of_same (reset_any _ hg2 _))
              go_wp2
              go_meet
              case rel =>
                rw [if_neg HC0.out, if_neg HC0.out, if_neg HC0.out, if_pos hb, if_pos hb, if_pos hb]
                exact ⟨(((HU0.out.blk.drewN _).set 0 _).set 1 _).set 2 _, HU0.out.hb, (((below_drewN HU0.out.bel _).setCell HU0.out.hb _).setCell HU0.out.hb _).setCell HU0.out.hb _⟩
          · have HNB := hide hb
            have hcd := mul_bound hcx Hd.out
            have w1 : IntKind.i64.wrap a1 = a1 := IntWalk.i64_in _ (by omega)
            have w2 : IntKind.i64.wrap d = d := IntWalk.i64_in _ (by have := Hd.out; omega)
            have w3 : IntKind.i64.wrap ((c : Int) * d) = (c : Int) * d := IntWalk.i64_in _ (by omega)
            have w4 : IntKind.i64.wrap (a1 + (c : Int) * d) = a1 + (c : Int) * d := IntWalk.i64_in _ (by omega)
            have w5 : IntKind.i32.wrap (a1 + (c : Int) * d) = wrap32 (a1 + (c : Int) * d) := IntWalk.i32_left _
            have w6 : IntKind.i64.wrap a2 = a2 := IntWalk.i64_in _ (by omega)
            have w7 : IntKind.i64.wrap (a2 - (c : Int)) = a2 - (c : Int) := IntWalk.i64_in _ (by omega)
            have w8 : IntKind.i32.wrap (a2 - (c : Int)) = wrap32 (a2 - (c : Int)) := IntWalk.i32_left _
            go_upto_region 37 with fail
            go_cut [207] (fun c' w' => c' = .bool false ∧ U9 wr w' bw a0 a1 a2)
            case first =>
              as_aux_lemma =>
                go_wp2
                go_quiet (exact Calls.quiet_of_same (reset_any _ hg2 _))
                go_wp2
                go_meet
                case rel => exact ⟨by rw [decide_eq_false (show ¬ rst a2 ≤ (c : Int) by have := HNB.out; omega)], HU0.out.blk.drewN _, HU0.out.hb, below_drewN HU0.out.bel _⟩
            obtain ⟨rfl, hU⟩ := hcut
            rename World => wd
            have HU1 := hide hU
            have s1d := (hU.bel.cell (p := ⟨bc, x, none⟩) lbc).trans s1
            have t2 : wd.cell? ⟨bw, 2, none⟩ = some (.int .i32 a2) := hU.blk.cell 2
            have t1 : wd.cell? ⟨bw, 1, none⟩ = some (.int .i32 a1) := hU.blk.cell 1
            have t0 : wd.cell? ⟨bw, 0, none⟩ = some (.int .i32 a0) := hU.blk.cell 0
            have tf := hU.blk.free
            clear hU u0 u1 u2 uf s1c
            go_step
            go_upto_region 39 with fail
            go_cut [] (fun w' => U9 wr w' bw a0 (wrap32 (a1 + (c : Int) * d)) a2)
            case first =>
              as_aux_lemma =>
                go_wp2
                go_still_tail 13, (by kernel_rfl)
                go_wp2
                go_meet
                case rel => exact ⟨(HU1.out.blk.set 1 _).drew, HU1.out.hb, (HU1.out.bel.setCell HU1.out.hb _).drew⟩
            rename World => we
            have HU2 := hide hcut
            have s1e := (hcut.bel.cell (p := ⟨bc, x, none⟩) lbc).trans s1
            have r2 : we.cell? ⟨bw, 2, none⟩ = some (.int .i32 a2) := hcut.blk.cell 2
            have r1 : we.cell? ⟨bw, 1, none⟩ = some (.int .i32 (wrap32 (a1 + (c : Int) * d))) := hcut.blk.cell 1
            have rf := hcut.blk.free
            clear hcut t0 t1 t2 tf s1d
            as_aux_lemma =>
              go_step
              go_wp2
              go_still_tail 10, (by kernel_rfl)
              go_wp2
              go_meet
              case rel =>
                have hnb : ¬ rst a2 ≤ (c : Int) := by have := HNB.out; omega
                rw [if_neg HC0.out, if_neg HC0.out, if_neg HC0.out, if_neg hnb, if_neg hnb, if_neg hnb]
                exact ⟨(HU2.out.blk.set 2 _).drew, HU2.out.hb, (HU2.out.bel.setCell HU2.out.hb _).drew⟩
      rename World => wf
      have HUF := hide hcut
      have t0 := hcut.blk.cell 0
      have t1 := hcut.blk.cell 1
      have t2 := hcut.blk.cell 2
      have z1 := (hcut.bel.cell (p := ⟨b1, o1 + x, none⟩) hb1).trans K1.out
      have z2 := (hcut.bel.cell (p := ⟨b2, o2 + x, none⟩) hb2).trans K2.out
      have z3 := (hcut.bel.cell (p := ⟨b3, o3 + x, none⟩) hb3).trans K3.out
      have q0 : ∀ (A B C' : Value), (#[A, B, C'] : Array Value)[0]? = some A := fun _ _ _ => rfl
      have q1 : ∀ (A B C' : Value), (#[A, B, C'] : Array Value)[1]? = some B := fun _ _ _ => rfl
      have q2 : ∀ (A B C' : Value), (#[A, B, C'] : Array Value)[2]? = some C' := fun _ _ _ => rfl
      rw [q0] at t0
      rw [q1] at t1
      rw [q2] at t2
      clear hcut q0 q1 q2 s1c
      obtain ⟨e0, he0⟩ : ∃ e0, (if c = 0 then a0 else if rst a2 ≤ (c : Int) then 0 else a0) = e0 := ⟨_, rfl⟩
      obtain ⟨e1, he1⟩ : ∃ e1, (if c = 0 then a1 else if rst a2 ≤ (c : Int) then 0 else wrap32 (a1 + (c : Int) * d)) = e1 := ⟨_, rfl⟩
      obtain ⟨e2, he2⟩ : ∃ e2, (if c = 0 then a2 else if rst a2 ≤ (c : Int) then 0 else wrap32 (a2 - (c : Int))) = e2 := ⟨_, rfl⟩
      rw [he0] at t0 z1
      rw [he1] at t1 z2
      rw [he2] at t2 z3
      clear he0 he1 he2
      as_aux_lemma =>
        go_step
        go_wp2
        go_quiet (fail)
        go_wp2
        go_roundw
        case rel => exact ⟨x + 1, by omega, by go_num, below_drewN (HR.out.bel.trans (HUF.out.bel.mono HR.out.bel.size)) _⟩
        case measure => simp [intOf]; omega
    · obtain rfl : x = ni := by omega
      as_aux_lemma =>
        go_wp2
        first | exact hexit HR.out | exact HR.out
end Go.Proofs.Qxb6605516a
