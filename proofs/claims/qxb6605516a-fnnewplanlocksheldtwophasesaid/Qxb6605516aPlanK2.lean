import Derived.Test.Qxb6605516aPlanK
namespace Go.Proofs.Qxb6605516a
open Go.RowKit
set_option linter.unusedVariables false

set_option maxRecDepth 100000 in
set_option maxHeartbeats 8000000 in
theorem l4_2 {c1 c2 c3 c4 c5 c6 c7 c8 c9 c11 c12 c13 c15 c16 c17 c19 c24 c29 c30 c31 c32 c33 c34 c35 c36 c37 c38 c39 c40 c41 c42 c43 c44 c45 c46 c47 c48 c49 c50 c51 c52 c53 c54 c55 c56 c57 c58 c59 c60 c61 c62 c63 c64 c65 c66 c67 c68 c69 c70 c71 c72 c73 c74 c75 c76 c77 c78 c79 c80 c81 c82 c83 c84 c85 c86 c87 c88 c89 c90 c91 c92 c93 c94 c95 c96 c97 c98 c99 c100 c101 c102 c103 c104 c105 c106 c107 c108 c109 c110 c111 c112 c113 c114 c115 c116 c117 c118 c119 c120 c121 c122 c123 c124 c125 c126 c127 c128 c129 c130 c131 c132 c133 c134 c135 c136 c137 c138 c139 c140 c141 c142 c143 c144 c145 c146 c147 c148 c149 c150 c151 c152 c153 c154 c155 c156 c157 c158 c159 c160 c161 c162 c163 c164 c165 c166 c167 c168 c169 c170 c171 c172 c173 c174 c175 c176 c177 c178 c179 c180 c181 c182 c183 c184 c185 c186 c187 c188 c189 c190 c191 c192 c193 c194 c259 c260 c261 c262 c263 c264 c265 c266 c267 c268 c269 c270 c271 c272 c273 c274 c275 c276 c277 c278 c279 c280 c281 c282 c283 c284 c285 c286 c287 c288 c289 c290 c291 c292 c293 c294 c295 c296 c297 c298 c299 c300 c301 c302 c303 c304 c305 c306 c307 c308 c309 c310 c311 c312 c313 c314 c315 c316 c317 c318 c319 c320 c321 c322 c323 c324 c325 c326 c327 c328 c329 c330 c331 c332 c333 c334 c335 c336 c337 c338 c339 c340 c341 c342 c343 c344 c345 c346 c347 c348 c349 c350 c351 c352 c353 c354 c355 c356 c357 c358 c359 c360 c361 c362 c363 c364 c365 c366 c367 c368 c369 c370 c371 c372 c373 c374 c375 c376 c377 c378 c379 c380 c381 c382 c383 c384 c385 c386 c387 c388 c389 c390 c391 c392 c393 c394 c395 c396 c397 c398 c399 c400 c401 c402 c403 c404 c405 c406 c407 c408 c409 c410 c411 c412 c413 c414 c415 c416 c417 c418 c419 c420 c421 c422 c423 c424 c425 c426 c427 c428 c429 c430 u10 u195 u196 u197 u198 u199 u200 u201 u202 u203 u204 u205 u206 u207 u208 u209 u210 u211 u212 u213 u214 u215 u216 u217 u218 u219 u220 u221 u222 u223 u224 u225 u226 u227 u228 u229 u230 u231 u232 u233 u234 u235 u236 u237 u238 u239 u240 u241 u242 u243 u244 u245 u246 u247 u248 u249 u250 u251 u252 u253 u254 u255 u256 u257 u258 : Value} {Q0 : Exit → Act → World → Prop} {w w0 wr : World} {v : Int} {n nt : Nat} {K T X M A N CI CM CF G : Nat → Int} {len : Nat} {oa : Option Addr} {oc bm af nx bi bc cf bg : Nat} {rl fr p t : Nat} {g0 : Int} {R0 FR0 : Nat → Int} (hn : n ≤ 4096) (hS : S3 w w0 v n nt K T X M A N CI CM CF G len oa bm af nx bi bc cf bg) (hG : ∀ q, q < n → FoIs K T X n q (G q)) (hA : AInv K T X n v (Run K T n) A N) (hrl : w0.heap.size ≤ rl) (hfr : w0.heap.size ≤ fr) (hne : rl ≠ fr) (hpn : p < n) (htn : t < nt) (hTp : T p = (t : Int)) (hQ : Z2 w0 n nt rl fr K T X v p (.int .i32 (-1)) (.int .i64 0) (.int .i32 g0) wr (-1) 0 g0 R0 FR0)
    (hexit : ∀ {u10 u195 u196 u197 u198 u199 u200 u201 u202 u203 u204 u205 u206 u207 u208 u209 u210 u211 u212 u213 u214 u215 u216 u217 u218 u219 u220 u221 u222 u223 u224 u225 u226 u227 u228 u229 u230 u231 u232 u233 u234 u235 u236 u237 u238 u239 u240 u241 u242 u243 u244 u245 u246 u247 u248 u249 u250 u251 u252 u253 u254 u255 u256 u257 u258 : Value} {prev : Int} {steps : Nat} {R FR : Nat → Int} {w' : World}, Z2 w0 n nt rl fr K T X v p (.int .i32 prev) (.int .i64 steps) (.int .i32 (-1)) w' prev steps (-1) R FR → Q0 (.exit 2) ⟨((Value.slice oa n oc) :: c1 :: c2 :: c3 :: c4 :: c5 :: c6 :: c7 :: c8 :: c9 :: u10 :: c11 :: c12 :: c13 :: (Value.slice (some ⟨nx, 0, none⟩) n n) :: c15 :: c16 :: c17 :: (Value.int .i64 n) :: c19 :: (Value.slice (some ⟨bg, 0, none⟩) n n) :: (Value.slice (some ⟨rl, 0, none⟩) n n) :: (Value.slice (some ⟨fr, 0, none⟩) nt nt) :: (Value.int .i64 p) :: c24 :: (Value.int .i32 t) :: (Value.int .i32 prev) :: (Value.int .i64 steps) :: (Value.int .i32 (-1)) :: c29 :: c30 :: c31 :: c32 :: c33 :: c34 :: c35 :: c36 :: c37 :: c38 :: c39 :: c40 :: c41 :: c42 :: c43 :: c44 :: c45 :: c46 :: c47 :: c48 :: c49 :: c50 :: c51 :: c52 :: c53 :: c54 :: c55 :: c56 :: c57 :: c58 :: c59 :: c60 :: c61 :: c62 :: c63 :: c64 :: c65 :: c66 :: c67 :: c68 :: c69 :: c70 :: c71 :: c72 :: c73 :: c74 :: c75 :: c76 :: c77 :: c78 :: c79 :: c80 :: c81 :: c82 :: c83 :: c84 :: c85 :: c86 :: c87 :: c88 :: c89 :: c90 :: c91 :: c92 :: c93 :: c94 :: c95 :: c96 :: c97 :: c98 :: c99 :: c100 :: c101 :: c102 :: c103 :: c104 :: c105 :: c106 :: c107 :: c108 :: c109 :: c110 :: c111 :: c112 :: c113 :: c114 :: c115 :: c116 :: c117 :: c118 :: c119 :: c120 :: c121 :: c122 :: c123 :: c124 :: c125 :: c126 :: c127 :: c128 :: c129 :: c130 :: c131 :: c132 :: c133 :: c134 :: c135 :: c136 :: c137 :: c138 :: c139 :: c140 :: c141 :: c142 :: c143 :: c144 :: c145 :: c146 :: c147 :: c148 :: c149 :: c150 :: c151 :: c152 :: c153 :: c154 :: c155 :: c156 :: c157 :: c158 :: c159 :: c160 :: c161 :: c162 :: c163 :: c164 :: c165 :: c166 :: c167 :: c168 :: c169 :: c170 :: c171 :: c172 :: c173 :: c174 :: c175 :: c176 :: c177 :: c178 :: c179 :: c180 :: c181 :: c182 :: c183 :: c184 :: c185 :: c186 :: c187 :: c188 :: c189 :: c190 :: c191 :: c192 :: c193 :: c194 :: u195 :: u196 :: u197 :: u198 :: u199 :: u200 :: u201 :: u202 :: u203 :: u204 :: u205 :: u206 :: u207 :: u208 :: u209 :: u210 :: u211 :: u212 :: u213 :: u214 :: u215 :: u216 :: u217 :: u218 :: u219 :: u220 :: u221 :: u222 :: u223 :: u224 :: u225 :: u226 :: u227 :: u228 :: u229 :: u230 :: u231 :: u232 :: u233 :: u234 :: u235 :: u236 :: u237 :: u238 :: u239 :: u240 :: u241 :: u242 :: u243 :: u244 :: u245 :: u246 :: u247 :: u248 :: u249 :: u250 :: u251 :: u252 :: u253 :: u254 :: u255 :: u256 :: u257 :: u258 :: c259 :: c260 :: c261 :: c262 :: c263 :: c264 :: c265 :: c266 :: c267 :: c268 :: c269 :: c270 :: c271 :: c272 :: c273 :: c274 :: c275 :: c276 :: c277 :: c278 :: c279 :: c280 :: c281 :: c282 :: c283 :: c284 :: c285 :: c286 :: c287 :: c288 :: c289 :: c290 :: c291 :: c292 :: c293 :: c294 :: c295 :: c296 :: c297 :: c298 :: c299 :: c300 :: c301 :: c302 :: c303 :: c304 :: c305 :: c306 :: c307 :: c308 :: c309 :: c310 :: c311 :: c312 :: c313 :: c314 :: c315 :: c316 :: c317 :: c318 :: c319 :: c320 :: c321 :: c322 :: c323 :: c324 :: c325 :: c326 :: c327 :: c328 :: c329 :: c330 :: c331 :: c332 :: c333 :: c334 :: c335 :: c336 :: c337 :: c338 :: c339 :: c340 :: c341 :: c342 :: c343 :: c344 :: c345 :: c346 :: c347 :: c348 :: c349 :: c350 :: c351 :: c352 :: c353 :: c354 :: c355 :: c356 :: c357 :: c358 :: c359 :: c360 :: c361 :: c362 :: c363 :: c364 :: c365 :: c366 :: c367 :: c368 :: c369 :: c370 :: c371 :: c372 :: c373 :: c374 :: c375 :: c376 :: c377 :: c378 :: c379 :: c380 :: c381 :: c382 :: c383 :: c384 :: c385 :: c386 :: c387 :: c388 :: c389 :: c390 :: c391 :: c392 :: c393 :: c394 :: c395 :: c396 :: c397 :: c398 :: c399 :: c400 :: c401 :: c402 :: c403 :: c404 :: c405 :: c406 :: c407 :: c408 :: c409 :: c410 :: c411 :: c412 :: c413 :: c414 :: c415 :: c416 :: c417 :: c418 :: c419 :: c420 :: c421 :: c422 :: c423 :: c424 :: c425 :: c426 :: c427 :: c428 :: c429 :: c430 :: []).toArray, []⟩ w') :
    Code.wp Try.prog (Code.loop lp4_2) Q0 ⟨((Value.slice oa n oc) :: c1 :: c2 :: c3 :: c4 :: c5 :: c6 :: c7 :: c8 :: c9 :: u10 :: c11 :: c12 :: c13 :: (Value.slice (some ⟨nx, 0, none⟩) n n) :: c15 :: c16 :: c17 :: (Value.int .i64 n) :: c19 :: (Value.slice (some ⟨bg, 0, none⟩) n n) :: (Value.slice (some ⟨rl, 0, none⟩) n n) :: (Value.slice (some ⟨fr, 0, none⟩) nt nt) :: (Value.int .i64 p) :: c24 :: (Value.int .i32 t) :: (Value.int .i32 (-1)) :: (Value.int .i64 0) :: (Value.int .i32 g0) :: c29 :: c30 :: c31 :: c32 :: c33 :: c34 :: c35 :: c36 :: c37 :: c38 :: c39 :: c40 :: c41 :: c42 :: c43 :: c44 :: c45 :: c46 :: c47 :: c48 :: c49 :: c50 :: c51 :: c52 :: c53 :: c54 :: c55 :: c56 :: c57 :: c58 :: c59 :: c60 :: c61 :: c62 :: c63 :: c64 :: c65 :: c66 :: c67 :: c68 :: c69 :: c70 :: c71 :: c72 :: c73 :: c74 :: c75 :: c76 :: c77 :: c78 :: c79 :: c80 :: c81 :: c82 :: c83 :: c84 :: c85 :: c86 :: c87 :: c88 :: c89 :: c90 :: c91 :: c92 :: c93 :: c94 :: c95 :: c96 :: c97 :: c98 :: c99 :: c100 :: c101 :: c102 :: c103 :: c104 :: c105 :: c106 :: c107 :: c108 :: c109 :: c110 :: c111 :: c112 :: c113 :: c114 :: c115 :: c116 :: c117 :: c118 :: c119 :: c120 :: c121 :: c122 :: c123 :: c124 :: c125 :: c126 :: c127 :: c128 :: c129 :: c130 :: c131 :: c132 :: c133 :: c134 :: c135 :: c136 :: c137 :: c138 :: c139 :: c140 :: c141 :: c142 :: c143 :: c144 :: c145 :: c146 :: c147 :: c148 :: c149 :: c150 :: c151 :: c152 :: c153 :: c154 :: c155 :: c156 :: c157 :: c158 :: c159 :: c160 :: c161 :: c162 :: c163 :: c164 :: c165 :: c166 :: c167 :: c168 :: c169 :: c170 :: c171 :: c172 :: c173 :: c174 :: c175 :: c176 :: c177 :: c178 :: c179 :: c180 :: c181 :: c182 :: c183 :: c184 :: c185 :: c186 :: c187 :: c188 :: c189 :: c190 :: c191 :: c192 :: c193 :: c194 :: u195 :: u196 :: u197 :: u198 :: u199 :: u200 :: u201 :: u202 :: u203 :: u204 :: u205 :: u206 :: u207 :: u208 :: u209 :: u210 :: u211 :: u212 :: u213 :: u214 :: u215 :: u216 :: u217 :: u218 :: u219 :: u220 :: u221 :: u222 :: u223 :: u224 :: u225 :: u226 :: u227 :: u228 :: u229 :: u230 :: u231 :: u232 :: u233 :: u234 :: u235 :: u236 :: u237 :: u238 :: u239 :: u240 :: u241 :: u242 :: u243 :: u244 :: u245 :: u246 :: u247 :: u248 :: u249 :: u250 :: u251 :: u252 :: u253 :: u254 :: u255 :: u256 :: u257 :: u258 :: c259 :: c260 :: c261 :: c262 :: c263 :: c264 :: c265 :: c266 :: c267 :: c268 :: c269 :: c270 :: c271 :: c272 :: c273 :: c274 :: c275 :: c276 :: c277 :: c278 :: c279 :: c280 :: c281 :: c282 :: c283 :: c284 :: c285 :: c286 :: c287 :: c288 :: c289 :: c290 :: c291 :: c292 :: c293 :: c294 :: c295 :: c296 :: c297 :: c298 :: c299 :: c300 :: c301 :: c302 :: c303 :: c304 :: c305 :: c306 :: c307 :: c308 :: c309 :: c310 :: c311 :: c312 :: c313 :: c314 :: c315 :: c316 :: c317 :: c318 :: c319 :: c320 :: c321 :: c322 :: c323 :: c324 :: c325 :: c326 :: c327 :: c328 :: c329 :: c330 :: c331 :: c332 :: c333 :: c334 :: c335 :: c336 :: c337 :: c338 :: c339 :: c340 :: c341 :: c342 :: c343 :: c344 :: c345 :: c346 :: c347 :: c348 :: c349 :: c350 :: c351 :: c352 :: c353 :: c354 :: c355 :: c356 :: c357 :: c358 :: c359 :: c360 :: c361 :: c362 :: c363 :: c364 :: c365 :: c366 :: c367 :: c368 :: c369 :: c370 :: c371 :: c372 :: c373 :: c374 :: c375 :: c376 :: c377 :: c378 :: c379 :: c380 :: c381 :: c382 :: c383 :: c384 :: c385 :: c386 :: c387 :: c388 :: c389 :: c390 :: c391 :: c392 :: c393 :: c394 :: c395 :: c396 :: c397 :: c398 :: c399 :: c400 :: c401 :: c402 :: c403 :: c404 :: c405 :: c406 :: c407 :: c408 :: c409 :: c410 :: c411 :: c412 :: c413 :: c414 :: c415 :: c416 :: c417 :: c418 :: c419 :: c420 :: c421 :: c422 :: c423 :: c424 :: c425 :: c426 :: c427 :: c428 :: c429 :: c430 :: []).toArray, []⟩ wr := by
  have HS := hide hS
  have HG := hide hG
  have HA := hide hA
  have HTp := hide hTp
  have HQ := hide hQ
  clear hA hTp hQ
  clear hS hG
  let bp0 : Exit → Act → World → Prop := bodyPost Try.prog Try.f4 (fun _ _ => True)
  refine Code.wp_mono (Q := NoPanic Q0) (fun e a w h => NoPanic.imp e a w h) ?_
  conv => arg 2; arg 1; whnf
  go_loopw [26, 27, 28] (fun s1 s2 s3 wr => ∃ (prev : Int) (steps : Nat) (g : Int) (R FR : Nat → Int), Z2 w0 n nt rl fr K T X v p s1 s2 s3 wr prev steps g R FR) (fun _ _ s3 _ => (8192 - (intOf s3 + 8192) % 8192).toNat)
  case atStart => exact ⟨_, _, _, _, _, HQ.out⟩
  case round =>
    obtain ⟨prev, steps, g, R, FR, hR⟩ := hrel
    have HR := hide hR
    obtain rfl := hR.s1
    obtain rfl := hR.s2
    obtain rfl := hR.s3
    have hst := hR.i.st
    clear hR HQ
    by_cases hg : g = -1
    · subst hg
      as_aux_lemma =>
        go_wp2
        first | exact hexit HR.out | exact ⟨_, _, _, _, HR.out⟩ | exact HR.out
    · obtain ⟨k, rfl, hkn, hkp, hpk, hrk, hR0⟩ := HR.out.i.at hg
      have HS2 := hide (HS.out.below HR.out.bel)
      have g1 := HS2.out.fo.rcell k hkn
      rw [(HG.out k hkn).fst.2 hrk.1] at g1
      have hTk : T k = (t : Int) := hrk.run.2.1.symm.trans HTp.out
      have HNx := HR.out.i.next HA.out hrk hTk htn
      have HN1 := hide HNx.1
      have HN2 := hide HNx.2
      have x1 := HS2.out.rn.rcell k hkn
      have hnk := ((HA.out.nx k hkn))
      have hnm : N k = -1 ∨ (k : Int) < N k := by
        rcases HNx.1.g with ⟨h1, -⟩ | ⟨j, h1, ⟨-, h2⟩, -⟩
        · exact .inl h1
        · exact .inr (by omega)
      have hnm2 : N k < 4096 := by
        rcases HNx.1.g with ⟨h1, -⟩ | ⟨j, h1, ⟨h2, -⟩, -⟩
        · omega
        · have := h2.1.1.1
          omega
      clear HNx hnk
      rcases HS2.out.ops with h0 | ⟨bo, off, rfl, hbl, hcl⟩
      · omega
      have c1 := hcl (k * 3 + 1) (by omega)
      rw [opCell1, ← Nat.add_assoc, hTk] at c1
      have r1 := HR.out.br.rcell k hkn
      have r2 := HR.out.br.free
      have q1 := HR.out.bf.rcell t htn
      have q2 := HR.out.bf.free
      have lr := HR.out.br.lt
      have lf := HR.out.bf.lt
      obtain ⟨rk, hrk'⟩ : ∃ rk, R k = rk := ⟨_, rfl⟩
      rw [hrk'] at r1 hR0
      obtain ⟨ft, hft⟩ : ∃ ft, FR t = ft := ⟨_, rfl⟩
      rw [hft] at q1
      obtain ⟨nk, hnk⟩ : ∃ nk, N k = nk := ⟨_, rfl⟩
      rw [hnk] at x1 HN1 HN2 hnm hnm2
      have HM1 := hide hnm
      have HM2 := hide hnm2
      have n1 : nx ≠ rl := by have := HS.out.rn.lt; omega
      have n2 : nx ≠ fr := by have := HS.out.rn.lt; omega
      have n3 := hne
      have n4 := hne.symm
      have e0 : ((k : Int) != -1) = true := by simp
      have hs1 : ¬ ((n : Int) < (steps : Int) + 1) := by omega
      have hs2 : ¬ ((k : Int) ≤ prev) := by omega
      have hk0 : ¬ ((k : Int) < 0) := by omega
      clear hnk hft hrk' hcl hbl hrk hTk hnm hnm2 hg hst
      by_cases hf0 : ft < 0
      · as_aux_lemma =>
          go_wp2
          go_roundw
          case rel => exact ⟨k, steps + 1, nk, _, _, rfl, rfl, rfl, (HR.out.br.rset k p).setOther n3 _, (HR.out.bf.setOther n4 _).rset t p, HN2.out, (HR.out.bel.setCell hrl _).setCell hfr _⟩
          case measure => have := HM1.out; have := HM2.out; simp [intOf]; omega
      · as_aux_lemma =>
          go_wp2
          go_roundw
          case rel => exact ⟨k, steps + 1, nk, _, _, rfl, rfl, rfl, HR.out.br.rset k p, HR.out.bf.setOther n4 _, HN1.out, HR.out.bel.setCell hrl _⟩
          case measure => have := HM1.out; have := HM2.out; simp [intOf]; omega
end Go.Proofs.Qxb6605516a
