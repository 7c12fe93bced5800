import Derived.Test.Qxb6605516aPlanK
namespace Go.Proofs.Qxb6605516a
open Go.RowKit
set_option linter.unusedVariables false

set_option maxRecDepth 100000 in
set_option maxHeartbeats 8000000 in
theorem l4_6 {c1 c2 c3 c4 c5 c6 c7 c8 c9 c11 c13 c14 c19 c21 c22 c23 c24 c25 c26 c27 c28 c29 c30 c31 c33 c37 c38 c39 c40 c41 c42 c43 c44 c45 c46 c47 c48 c49 c50 c51 c52 c53 c54 c55 c56 c57 c58 c59 c60 c61 c62 c63 c64 c65 c66 c67 c68 c69 c70 c71 c72 c73 c74 c75 c76 c77 c78 c79 c80 c81 c82 c83 c84 c85 c86 c87 c88 c89 c90 c91 c92 c93 c94 c95 c96 c97 c98 c99 c100 c101 c102 c103 c104 c105 c106 c107 c108 c109 c110 c111 c112 c113 c114 c115 c116 c117 c118 c119 c120 c121 c122 c123 c124 c125 c126 c127 c128 c129 c130 c131 c132 c133 c134 c135 c136 c137 c138 c139 c140 c141 c142 c143 c144 c145 c146 c147 c148 c149 c150 c151 c152 c153 c154 c155 c156 c157 c158 c159 c160 c161 c162 c163 c164 c165 c166 c167 c168 c169 c170 c171 c172 c173 c174 c175 c176 c177 c178 c179 c180 c181 c182 c183 c184 c185 c186 c187 c188 c189 c190 c191 c192 c193 c194 c195 c196 c197 c198 c199 c200 c201 c202 c203 c204 c205 c206 c207 c208 c209 c210 c211 c212 c213 c214 c215 c216 c217 c218 c219 c220 c221 c222 c223 c224 c225 c226 c227 c228 c229 c230 c231 c232 c233 c234 c235 c236 c237 c238 c239 c240 c241 c242 c243 c244 c245 c246 c247 c248 c249 c250 c251 c252 c253 c254 c255 c256 c257 c258 c259 c260 c261 c262 c263 c264 c265 c266 c267 c268 c269 c270 c271 c272 c273 c274 c275 c276 c277 c278 c279 c280 c281 c282 c283 c284 c285 c286 c287 c288 c289 c290 c291 c292 c293 c294 c295 c296 c297 c298 c299 c300 c301 c302 c303 c304 c305 c306 c307 c308 c309 c310 c311 c312 c313 c314 c315 c316 c317 c318 c319 c320 c321 c322 c323 c324 c325 c326 c327 c328 c329 c330 c331 c332 c333 c334 c335 c336 c337 c338 c339 c340 c341 c342 c343 c344 c345 c346 c347 c348 c349 c350 c351 c352 c353 c354 c355 c356 c357 c358 c359 c416 c417 c418 c419 c420 c421 c422 c423 c424 c425 c426 c427 c428 c429 c430 u10 u35 u36 u360 u361 u362 u363 u364 u365 u366 u367 u368 u369 u370 u371 u372 u373 u374 u375 u376 u377 u378 u379 u380 u381 u382 u383 u384 u385 u386 u387 u388 u389 u390 u391 u392 u393 u394 u395 u396 u397 u398 u399 u400 u401 u402 u403 u404 u405 u406 u407 u408 u409 u410 u411 u412 u413 u414 u415 : Value} {Q0 : Exit → Act → World → Prop} {w w0 wr : World} {v : Int} {n nt : Nat} {K T X M A N CI CM CF G : Nat → Int} {len : Nat} {oa : Option Addr} {oc bm af nx bi bc cf bg : Nat} {cu ni : Nat} {CU0 : Nat → Int} (hn : n ≤ 4096) (hS : S3 w w0 v n nt K T X M A N CI CM CF G len oa bm af nx bi bc cf bg) (hG : ∀ q, q < n → FoIs K T X n q (G q)) (hnt : nt ≤ 4096) (hV : v = 3) (hcu : w0.heap.size ≤ cu) (hD : Dom n nt ni K T X v) (hM : MInv K T X n (Run K T n) M) (hCI : CInv K T X n (Run K T n) CI CM len) (hFI : FInv K T X n nt CF) (hQ : Q9 w0 n nt cu K T X (.int .i64 0) wr 0 CU0)
    (hexit : ∀ {u10 u35 u36 u360 u361 u362 u363 u364 u365 u366 u367 u368 u369 u370 u371 u372 u373 u374 u375 u376 u377 u378 u379 u380 u381 u382 u383 u384 u385 u386 u387 u388 u389 u390 u391 u392 u393 u394 u395 u396 u397 u398 u399 u400 u401 u402 u403 u404 u405 u406 u407 u408 u409 u410 u411 u412 u413 u414 u415 : Value} {CU : Nat → Int} {w' : World}, Q9 w0 n nt cu K T X (.int .i64 n) w' n CU → Q0 (.exit 10) ⟨((Value.slice oa n oc) :: c1 :: c2 :: c3 :: c4 :: c5 :: c6 :: c7 :: c8 :: c9 :: u10 :: c11 :: (Value.slice (some ⟨bm, 0, none⟩) n n) :: c13 :: c14 :: (Value.slice (some ⟨bi, 0, none⟩) len len) :: (Value.slice (some ⟨bc, 0, none⟩) len len) :: (Value.slice (some ⟨cf, 0, none⟩) (nt + 1) (nt + 1)) :: (Value.int .i64 n) :: c19 :: (Value.slice (some ⟨bg, 0, none⟩) n n) :: c21 :: c22 :: c23 :: c24 :: c25 :: c26 :: c27 :: c28 :: c29 :: c30 :: c31 :: (Value.slice (some ⟨cu, 0, none⟩) nt nt) :: c33 :: (Value.int .i64 n) :: u35 :: u36 :: c37 :: c38 :: c39 :: c40 :: c41 :: c42 :: c43 :: c44 :: c45 :: c46 :: c47 :: c48 :: c49 :: c50 :: c51 :: c52 :: c53 :: c54 :: c55 :: c56 :: c57 :: c58 :: c59 :: c60 :: c61 :: c62 :: c63 :: c64 :: c65 :: c66 :: c67 :: c68 :: c69 :: c70 :: c71 :: c72 :: c73 :: c74 :: c75 :: c76 :: c77 :: c78 :: c79 :: c80 :: c81 :: c82 :: c83 :: c84 :: c85 :: c86 :: c87 :: c88 :: c89 :: c90 :: c91 :: c92 :: c93 :: c94 :: c95 :: c96 :: c97 :: c98 :: c99 :: c100 :: c101 :: c102 :: c103 :: c104 :: c105 :: c106 :: c107 :: c108 :: c109 :: c110 :: c111 :: c112 :: c113 :: c114 :: c115 :: c116 :: c117 :: c118 :: c119 :: c120 :: c121 :: c122 :: c123 :: c124 :: c125 :: c126 :: c127 :: c128 :: c129 :: c130 :: c131 :: c132 :: c133 :: c134 :: c135 :: c136 :: c137 :: c138 :: c139 :: c140 :: c141 :: c142 :: c143 :: c144 :: c145 :: c146 :: c147 :: c148 :: c149 :: c150 :: c151 :: c152 :: c153 :: c154 :: c155 :: c156 :: c157 :: c158 :: c159 :: c160 :: c161 :: c162 :: c163 :: c164 :: c165 :: c166 :: c167 :: c168 :: c169 :: c170 :: c171 :: c172 :: c173 :: c174 :: c175 :: c176 :: c177 :: c178 :: c179 :: c180 :: c181 :: c182 :: c183 :: c184 :: c185 :: c186 :: c187 :: c188 :: c189 :: c190 :: c191 :: c192 :: c193 :: c194 :: c195 :: c196 :: c197 :: c198 :: c199 :: c200 :: c201 :: c202 :: c203 :: c204 :: c205 :: c206 :: c207 :: c208 :: c209 :: c210 :: c211 :: c212 :: c213 :: c214 :: c215 :: c216 :: c217 :: c218 :: c219 :: c220 :: c221 :: c222 :: c223 :: c224 :: c225 :: c226 :: c227 :: c228 :: c229 :: c230 :: c231 :: c232 :: c233 :: c234 :: c235 :: c236 :: c237 :: c238 :: c239 :: c240 :: c241 :: c242 :: c243 :: c244 :: c245 :: c246 :: c247 :: c248 :: c249 :: c250 :: c251 :: c252 :: c253 :: c254 :: c255 :: c256 :: c257 :: c258 :: c259 :: c260 :: c261 :: c262 :: c263 :: c264 :: c265 :: c266 :: c267 :: c268 :: c269 :: c270 :: c271 :: c272 :: c273 :: c274 :: c275 :: c276 :: c277 :: c278 :: c279 :: c280 :: c281 :: c282 :: c283 :: c284 :: c285 :: c286 :: c287 :: c288 :: c289 :: c290 :: c291 :: c292 :: c293 :: c294 :: c295 :: c296 :: c297 :: c298 :: c299 :: c300 :: c301 :: c302 :: c303 :: c304 :: c305 :: c306 :: c307 :: c308 :: c309 :: c310 :: c311 :: c312 :: c313 :: c314 :: c315 :: c316 :: c317 :: c318 :: c319 :: c320 :: c321 :: c322 :: c323 :: c324 :: c325 :: c326 :: c327 :: c328 :: c329 :: c330 :: c331 :: c332 :: c333 :: c334 :: c335 :: c336 :: c337 :: c338 :: c339 :: c340 :: c341 :: c342 :: c343 :: c344 :: c345 :: c346 :: c347 :: c348 :: c349 :: c350 :: c351 :: c352 :: c353 :: c354 :: c355 :: c356 :: c357 :: c358 :: c359 :: u360 :: u361 :: u362 :: u363 :: u364 :: u365 :: u366 :: u367 :: u368 :: u369 :: u370 :: u371 :: u372 :: u373 :: u374 :: u375 :: u376 :: u377 :: u378 :: u379 :: u380 :: u381 :: u382 :: u383 :: u384 :: u385 :: u386 :: u387 :: u388 :: u389 :: u390 :: u391 :: u392 :: u393 :: u394 :: u395 :: u396 :: u397 :: u398 :: u399 :: u400 :: u401 :: u402 :: u403 :: u404 :: u405 :: u406 :: u407 :: u408 :: u409 :: u410 :: u411 :: u412 :: u413 :: u414 :: u415 :: c416 :: c417 :: c418 :: c419 :: c420 :: c421 :: c422 :: c423 :: c424 :: c425 :: c426 :: c427 :: c428 :: c429 :: c430 :: []).toArray, []⟩ w') :
    Code.wp Try.prog (Code.loop lp4_6) Q0 ⟨((Value.slice oa n oc) :: c1 :: c2 :: c3 :: c4 :: c5 :: c6 :: c7 :: c8 :: c9 :: u10 :: c11 :: (Value.slice (some ⟨bm, 0, none⟩) n n) :: c13 :: c14 :: (Value.slice (some ⟨bi, 0, none⟩) len len) :: (Value.slice (some ⟨bc, 0, none⟩) len len) :: (Value.slice (some ⟨cf, 0, none⟩) (nt + 1) (nt + 1)) :: (Value.int .i64 n) :: c19 :: (Value.slice (some ⟨bg, 0, none⟩) n n) :: c21 :: c22 :: c23 :: c24 :: c25 :: c26 :: c27 :: c28 :: c29 :: c30 :: c31 :: (Value.slice (some ⟨cu, 0, none⟩) nt nt) :: c33 :: (Value.int .i64 0) :: u35 :: u36 :: c37 :: c38 :: c39 :: c40 :: c41 :: c42 :: c43 :: c44 :: c45 :: c46 :: c47 :: c48 :: c49 :: c50 :: c51 :: c52 :: c53 :: c54 :: c55 :: c56 :: c57 :: c58 :: c59 :: c60 :: c61 :: c62 :: c63 :: c64 :: c65 :: c66 :: c67 :: c68 :: c69 :: c70 :: c71 :: c72 :: c73 :: c74 :: c75 :: c76 :: c77 :: c78 :: c79 :: c80 :: c81 :: c82 :: c83 :: c84 :: c85 :: c86 :: c87 :: c88 :: c89 :: c90 :: c91 :: c92 :: c93 :: c94 :: c95 :: c96 :: c97 :: c98 :: c99 :: c100 :: c101 :: c102 :: c103 :: c104 :: c105 :: c106 :: c107 :: c108 :: c109 :: c110 :: c111 :: c112 :: c113 :: c114 :: c115 :: c116 :: c117 :: c118 :: c119 :: c120 :: c121 :: c122 :: c123 :: c124 :: c125 :: c126 :: c127 :: c128 :: c129 :: c130 :: c131 :: c132 :: c133 :: c134 :: c135 :: c136 :: c137 :: c138 :: c139 :: c140 :: c141 :: c142 :: c143 :: c144 :: c145 :: c146 :: c147 :: c148 :: c149 :: c150 :: c151 :: c152 :: c153 :: c154 :: c155 :: c156 :: c157 :: c158 :: c159 :: c160 :: c161 :: c162 :: c163 :: c164 :: c165 :: c166 :: c167 :: c168 :: c169 :: c170 :: c171 :: c172 :: c173 :: c174 :: c175 :: c176 :: c177 :: c178 :: c179 :: c180 :: c181 :: c182 :: c183 :: c184 :: c185 :: c186 :: c187 :: c188 :: c189 :: c190 :: c191 :: c192 :: c193 :: c194 :: c195 :: c196 :: c197 :: c198 :: c199 :: c200 :: c201 :: c202 :: c203 :: c204 :: c205 :: c206 :: c207 :: c208 :: c209 :: c210 :: c211 :: c212 :: c213 :: c214 :: c215 :: c216 :: c217 :: c218 :: c219 :: c220 :: c221 :: c222 :: c223 :: c224 :: c225 :: c226 :: c227 :: c228 :: c229 :: c230 :: c231 :: c232 :: c233 :: c234 :: c235 :: c236 :: c237 :: c238 :: c239 :: c240 :: c241 :: c242 :: c243 :: c244 :: c245 :: c246 :: c247 :: c248 :: c249 :: c250 :: c251 :: c252 :: c253 :: c254 :: c255 :: c256 :: c257 :: c258 :: c259 :: c260 :: c261 :: c262 :: c263 :: c264 :: c265 :: c266 :: c267 :: c268 :: c269 :: c270 :: c271 :: c272 :: c273 :: c274 :: c275 :: c276 :: c277 :: c278 :: c279 :: c280 :: c281 :: c282 :: c283 :: c284 :: c285 :: c286 :: c287 :: c288 :: c289 :: c290 :: c291 :: c292 :: c293 :: c294 :: c295 :: c296 :: c297 :: c298 :: c299 :: c300 :: c301 :: c302 :: c303 :: c304 :: c305 :: c306 :: c307 :: c308 :: c309 :: c310 :: c311 :: c312 :: c313 :: c314 :: c315 :: c316 :: c317 :: c318 :: c319 :: c320 :: c321 :: c322 :: c323 :: c324 :: c325 :: c326 :: c327 :: c328 :: c329 :: c330 :: c331 :: c332 :: c333 :: c334 :: c335 :: c336 :: c337 :: c338 :: c339 :: c340 :: c341 :: c342 :: c343 :: c344 :: c345 :: c346 :: c347 :: c348 :: c349 :: c350 :: c351 :: c352 :: c353 :: c354 :: c355 :: c356 :: c357 :: c358 :: c359 :: u360 :: u361 :: u362 :: u363 :: u364 :: u365 :: u366 :: u367 :: u368 :: u369 :: u370 :: u371 :: u372 :: u373 :: u374 :: u375 :: u376 :: u377 :: u378 :: u379 :: u380 :: u381 :: u382 :: u383 :: u384 :: u385 :: u386 :: u387 :: u388 :: u389 :: u390 :: u391 :: u392 :: u393 :: u394 :: u395 :: u396 :: u397 :: u398 :: u399 :: u400 :: u401 :: u402 :: u403 :: u404 :: u405 :: u406 :: u407 :: u408 :: u409 :: u410 :: u411 :: u412 :: u413 :: u414 :: u415 :: c416 :: c417 :: c418 :: c419 :: c420 :: c421 :: c422 :: c423 :: c424 :: c425 :: c426 :: c427 :: c428 :: c429 :: c430 :: []).toArray, []⟩ wr := by
  have HS := hide hS
  have HG := hide hG
  have HV := hide hV
  have HD := hide hD
  have HM := hide hM
  have HCI := hide hCI
  have HFI := hide hFI
  have HQ := hide hQ
  clear hV hD hM hCI hFI hQ
  clear hS hG
  let bp0 : Exit → Act → World → Prop := bodyPost Try.prog Try.f4 (fun _ _ => True)
  refine Code.wp_mono (Q := NoPanic Q0) (fun e a w h => NoPanic.imp e a w h) ?_
  conv => arg 2; arg 1; whnf
  go_loopw [34] (fun s wr => ∃ (f : Nat) (CU : Nat → Int), Q9 w0 n nt cu K T X s wr f CU) (fun s _ => n - (intOf s).toNat)
  case atStart => exact ⟨0, _, HQ.out⟩
  case round =>
    obtain ⟨f, CU, hR⟩ := hrel
    have HR := hide hR
    obtain rfl := hR.s
    have hp := hR.hp
    clear hR HQ
    by_cases hlt : f < n
    · have HS2 := hide (HS.out.below HR.out.bel)
      have g1 := HS2.out.fo.rcell f hlt
      have HF := hide (HG.out f hlt).fst
      obtain ⟨g, hg⟩ : ∃ g, G f = g := ⟨_, rfl⟩
      rw [hg] at g1 HF
      clear hg
      by_cases hg0 : g = (f : Int)
      · have hfst := HF.out.1 hg0
        have hdt := HD.out.rw f hlt hfst.1.2.1
        obtain ⟨t, ht⟩ := Int.eq_ofNat_of_zero_le hdt.1
        have htn : t < nt := by omega
        have HFst := hide hfst
        have HTt := hide ht
        subst hg0
        rcases HS2.out.ops with h0 | ⟨bo, off, rfl, hbl, hcl⟩
        · omega
        have c1 := hcl (f * 3 + 1) (by omega)
        rw [opCell1, ← Nat.add_assoc, ht] at c1
        have c2 := hcl (f * 3 + 2) (by omega)
        rw [opCell2, ← Nat.add_assoc] at c2
        clear hcl hbl ht hdt hfst
        have s1 := HR.out.b.rcell t htn
        have s2 := HR.out.b.free
        rw [HR.out.c.pos HTt.out htn] at s1
        have hpl := pos_lt HCI.out HFst.out
        have hpf := HFI.out.pos htn HFst.out HTt.out
        have hln : len ≤ 4096 := by rw [HCI.out.len]; exact Nat.le_trans (cnt_le _ _) hn
        have hat := HCI.out.at_ f HFst.out HFst.out.1
        have d1 := (HS2.out.cl HV.out).1.rcell (pos K T X n f) hpl
        rw [hat.1] at d1
        have d2 := (HS2.out.cl HV.out).2.1.rcell (pos K T X n f) hpl
        rw [hat.2.uniq (HM.out.str HFst.out (fun q hq => hq.1))] at d2
        have d3 := HS2.out.mo.rcell f hlt
        have d4 := (HS2.out.cl HV.out).2.2.rcell (t + 1) (by omega)
        have HCU := hide (HR.out.c.add HFst.out HTt.out htn)
        rw [HR.out.c.pos HTt.out htn] at HCU
        clear hat
        obtain ⟨ps, hps⟩ : ∃ ps, pos K T X n f = ps := ⟨_, rfl⟩
        rw [hps] at s1 hpl d1 d2 HCU hpf
        obtain ⟨ce, hce⟩ : ∃ ce, CF (t + 1) = ce := ⟨_, rfl⟩
        rw [hce] at d4 hpf
        have hpf' : ¬ ce ≤ (ps : Int) := by omega
        have hw : IntKind.i32.wrap ((t : Int) + 1) = (t : Int) + 1 := IntWalk.i32_in _ (by omega)
        have h01 : (0 : Int) ≤ (t : Int) + 1 := by omega
        clear hps hce
        as_aux_lemma =>
          go_wp2
          go_quiet (fail)
          go_wp2
          go_roundw
          case rel => exact ⟨f + 1, _, by omega, rfl, (HR.out.b.drewN _).rset t ((ps : Int) + 1), HCU.out, (below_drewN HR.out.bel _).setCell hcu _⟩
          case measure => simp [intOf]; omega
      · have HNF : Hid (¬ Fst K T X n f) := fun h => hg0 (HF.out.2 h)
        have e1 : (g != (f : Int)) = true := by simpa using hg0
        clear hg0
        as_aux_lemma =>
          go_wp2
          go_roundw
          case rel => exact ⟨f + 1, _, by omega, rfl, HR.out.b, HR.out.c.skip HNF.out, HR.out.bel⟩
          case measure => simp [intOf]; omega
    · obtain rfl : f = n := by omega
      as_aux_lemma =>
        go_wp2
        first | exact hexit HR.out | exact ⟨_, HR.out⟩ | exact HR.out
end Go.Proofs.Qxb6605516a
