import Derived.Test.Qxb6605516aPlanM
namespace Go.Proofs.Qxb6605516a
open Go.RowKit
set_option linter.unusedVariables false

set_option maxRecDepth 100000 in
set_option maxHeartbeats 8000000 in
theorem l3_3 {c1 c2 c3 c5 c6 c7 c8 c9 c10 c11 c12 c13 c14 c15 c16 c17 c19 c23 c24 c25 c27 c35 c36 c37 c38 c39 c40 c41 c42 c43 c44 c45 c46 c47 c48 c49 c50 c51 c52 c53 c54 c55 c56 c57 c58 c59 c60 c61 c62 c63 c64 c65 c66 c67 c68 c69 c70 c71 c72 c73 c74 c75 c76 c77 c78 c79 c80 c81 c82 c83 c84 c85 c86 c87 c88 c89 c90 c91 c92 c93 c94 c95 c96 c97 c98 c99 c100 c101 c102 c103 c104 c105 c106 c107 c108 c109 c110 c111 c112 c113 c114 c115 c116 c117 c118 c119 c120 c121 c122 c123 c124 c125 c126 c127 c128 c129 c130 c131 c132 c133 c134 c135 c136 c137 c138 c139 c140 c141 c142 c143 c144 c145 c146 c147 c148 c149 c150 c151 c152 c153 c154 c155 c156 c157 c158 c159 c160 c161 c162 c163 c164 c165 c166 c167 c168 c169 c170 c171 c239 c240 c241 c242 c243 c244 c245 c246 c247 c248 c249 c250 c251 c252 c253 c254 c255 c256 c257 c258 c259 c260 c261 c262 c263 c264 c265 c266 c267 c268 c269 c270 c271 c272 c273 c274 c275 c276 c277 c278 c279 c280 c281 c282 c283 c284 c285 c286 c287 c288 c289 c290 c291 c292 c293 c294 c295 c296 c297 c298 c299 c300 c301 c302 c303 c304 c305 c306 c307 c308 c309 c310 c311 c312 c313 c314 c315 c316 c317 c318 c319 c320 c321 c322 c323 c324 c325 c326 c327 c328 c329 c330 c331 c332 c333 c334 c335 c336 c337 c338 c339 c340 c341 c342 c343 c344 c345 c346 c347 c348 c349 c350 c351 c352 c353 c354 c355 c356 c357 c358 c359 c360 c361 c362 c363 c364 c365 c366 c367 c368 c369 c370 c371 c372 c373 c374 c375 c376 c377 c378 c379 c380 c381 c382 c383 c384 c385 c386 c387 c388 c389 c390 c391 c392 c393 c394 c395 c396 c397 c398 c399 c400 c401 c402 c403 c404 c405 c406 c407 c408 c409 c410 c411 c412 c413 c414 c415 c416 c417 c418 c419 c420 c421 c422 c423 c424 c425 c426 c427 c428 c429 c430 c431 c432 c433 c434 c435 c436 c437 c438 c439 c440 c441 c442 c443 u33 u34 u172 u173 u174 u175 u176 u177 u178 u179 u180 u181 u182 u183 u184 u185 u186 u187 u188 u189 u190 u191 u192 u193 u194 u195 u196 u197 u198 u199 u200 u201 u202 u203 u204 u205 u206 u207 u208 u209 u210 u211 u212 u213 u214 u215 u216 u217 u218 u219 u220 u221 u222 u223 u224 u225 u226 u227 u228 u229 u230 u231 u232 u233 u234 u235 u236 u237 u238 : Value} {Q0 : Exit → Act → World → Prop} {w w0 wr : World} {v : Int} {n nt : Nat} {K T X M A N CI CM CF G : Nat → Int} {len : Nat} {oa : Option Addr} {oc bm af nx bi bc cf bg : Nat} {st la lb ni em ea en ta : Nat} {ST LA LP : Nat → Int} (hn : n ≤ 4096) (hS : S3 w w0 v n nt K T X M A N CI CM CF G len oa bm af nx bi bc cf bg) (hG : ∀ q, q < n → FoIs K T X n q (G q)) (hd : Dom n nt ni K T X v) (hst : Blk w0 st (irow .u8 n ST) 5) (hla : Blk w0 la (irow .i32 n LA) 21) (hlb : Blk w0 lb (irow .i32 nt LP) 21) (hSM : MInv K T X n (fun q => q < n) ST) (hLA : LaInv K T X n n LA) (hLP : LpAll K T X n nt v LP) (hem : w0.heap.size ≤ em) (hea : w0.heap.size ≤ ea) (hen : w0.heap.size ≤ en) (hta : w0.heap.size ≤ ta) (y1 : em ≠ ea) (y2 : em ≠ en) (y3 : em ≠ ta) (y4 : ea ≠ en) (y5 : ea ≠ ta) (y6 : en ≠ ta) (hQ : Q3 w0 n em ea en ta K T X v ST (.int .i64 0) wr 0 (fun _ => 0) (fun _ => -1) (fun _ => -1) (fun _ => -1))
    (hexit : ∀ {u33 u34 u172 u173 u174 u175 u176 u177 u178 u179 u180 u181 u182 u183 u184 u185 u186 u187 u188 u189 u190 u191 u192 u193 u194 u195 u196 u197 u198 u199 u200 u201 u202 u203 u204 u205 u206 u207 u208 u209 u210 u211 u212 u213 u214 u215 u216 u217 u218 u219 u220 u221 u222 u223 u224 u225 u226 u227 u228 u229 u230 u231 u232 u233 u234 u235 u236 u237 u238 : Value} {EM EA EN TA : Nat → Int} {w' : World}, Q3 w0 n em ea en ta K T X v ST (.int .i64 n) w' n EM EA EN TA → Q0 (.exit 4) ⟨((Value.slice oa n oc) :: c1 :: c2 :: c3 :: (Value.int .u8 v) :: c5 :: c6 :: c7 :: c8 :: c9 :: c10 :: c11 :: c12 :: c13 :: c14 :: c15 :: c16 :: c17 :: (Value.int .i64 n) :: c19 :: (Value.slice (some ⟨bg, 0, none⟩) n n) :: (Value.slice (some ⟨st, 0, none⟩) n n) :: (Value.slice (some ⟨la, 0, none⟩) n n) :: c23 :: c24 :: c25 :: (Value.slice (some ⟨lb, 0, none⟩) nt nt) :: c27 :: (Value.slice (some ⟨em, 0, none⟩) n n) :: (Value.slice (some ⟨ea, 0, none⟩) n n) :: (Value.slice (some ⟨en, 0, none⟩) n n) :: (Value.slice (some ⟨ta, 0, none⟩) n n) :: (Value.int .i64 n) :: u33 :: u34 :: c35 :: c36 :: c37 :: c38 :: c39 :: c40 :: c41 :: c42 :: c43 :: c44 :: c45 :: c46 :: c47 :: c48 :: c49 :: c50 :: c51 :: c52 :: c53 :: c54 :: c55 :: c56 :: c57 :: c58 :: c59 :: c60 :: c61 :: c62 :: c63 :: c64 :: c65 :: c66 :: c67 :: c68 :: c69 :: c70 :: c71 :: c72 :: c73 :: c74 :: c75 :: c76 :: c77 :: c78 :: c79 :: c80 :: c81 :: c82 :: c83 :: c84 :: c85 :: c86 :: c87 :: c88 :: c89 :: c90 :: c91 :: c92 :: c93 :: c94 :: c95 :: c96 :: c97 :: c98 :: c99 :: c100 :: c101 :: c102 :: c103 :: c104 :: c105 :: c106 :: c107 :: c108 :: c109 :: c110 :: c111 :: c112 :: c113 :: c114 :: c115 :: c116 :: c117 :: c118 :: c119 :: c120 :: c121 :: c122 :: c123 :: c124 :: c125 :: c126 :: c127 :: c128 :: c129 :: c130 :: c131 :: c132 :: c133 :: c134 :: c135 :: c136 :: c137 :: c138 :: c139 :: c140 :: c141 :: c142 :: c143 :: c144 :: c145 :: c146 :: c147 :: c148 :: c149 :: c150 :: c151 :: c152 :: c153 :: c154 :: c155 :: c156 :: c157 :: c158 :: c159 :: c160 :: c161 :: c162 :: c163 :: c164 :: c165 :: c166 :: c167 :: c168 :: c169 :: c170 :: c171 :: u172 :: u173 :: u174 :: u175 :: u176 :: u177 :: u178 :: u179 :: u180 :: u181 :: u182 :: u183 :: u184 :: u185 :: u186 :: u187 :: u188 :: u189 :: u190 :: u191 :: u192 :: u193 :: u194 :: u195 :: u196 :: u197 :: u198 :: u199 :: u200 :: u201 :: u202 :: u203 :: u204 :: u205 :: u206 :: u207 :: u208 :: u209 :: u210 :: u211 :: u212 :: u213 :: u214 :: u215 :: u216 :: u217 :: u218 :: u219 :: u220 :: u221 :: u222 :: u223 :: u224 :: u225 :: u226 :: u227 :: u228 :: u229 :: u230 :: u231 :: u232 :: u233 :: u234 :: u235 :: u236 :: u237 :: u238 :: c239 :: c240 :: c241 :: c242 :: c243 :: c244 :: c245 :: c246 :: c247 :: c248 :: c249 :: c250 :: c251 :: c252 :: c253 :: c254 :: c255 :: c256 :: c257 :: c258 :: c259 :: c260 :: c261 :: c262 :: c263 :: c264 :: c265 :: c266 :: c267 :: c268 :: c269 :: c270 :: c271 :: c272 :: c273 :: c274 :: c275 :: c276 :: c277 :: c278 :: c279 :: c280 :: c281 :: c282 :: c283 :: c284 :: c285 :: c286 :: c287 :: c288 :: c289 :: c290 :: c291 :: c292 :: c293 :: c294 :: c295 :: c296 :: c297 :: c298 :: c299 :: c300 :: c301 :: c302 :: c303 :: c304 :: c305 :: c306 :: c307 :: c308 :: c309 :: c310 :: c311 :: c312 :: c313 :: c314 :: c315 :: c316 :: c317 :: c318 :: c319 :: c320 :: c321 :: c322 :: c323 :: c324 :: c325 :: c326 :: c327 :: c328 :: c329 :: c330 :: c331 :: c332 :: c333 :: c334 :: c335 :: c336 :: c337 :: c338 :: c339 :: c340 :: c341 :: c342 :: c343 :: c344 :: c345 :: c346 :: c347 :: c348 :: c349 :: c350 :: c351 :: c352 :: c353 :: c354 :: c355 :: c356 :: c357 :: c358 :: c359 :: c360 :: c361 :: c362 :: c363 :: c364 :: c365 :: c366 :: c367 :: c368 :: c369 :: c370 :: c371 :: c372 :: c373 :: c374 :: c375 :: c376 :: c377 :: c378 :: c379 :: c380 :: c381 :: c382 :: c383 :: c384 :: c385 :: c386 :: c387 :: c388 :: c389 :: c390 :: c391 :: c392 :: c393 :: c394 :: c395 :: c396 :: c397 :: c398 :: c399 :: c400 :: c401 :: c402 :: c403 :: c404 :: c405 :: c406 :: c407 :: c408 :: c409 :: c410 :: c411 :: c412 :: c413 :: c414 :: c415 :: c416 :: c417 :: c418 :: c419 :: c420 :: c421 :: c422 :: c423 :: c424 :: c425 :: c426 :: c427 :: c428 :: c429 :: c430 :: c431 :: c432 :: c433 :: c434 :: c435 :: c436 :: c437 :: c438 :: c439 :: c440 :: c441 :: c442 :: c443 :: []).toArray, []⟩ w') :
    Code.wp Try.prog (Code.loop lp3_3) Q0 ⟨((Value.slice oa n oc) :: c1 :: c2 :: c3 :: (Value.int .u8 v) :: c5 :: c6 :: c7 :: c8 :: c9 :: c10 :: c11 :: c12 :: c13 :: c14 :: c15 :: c16 :: c17 :: (Value.int .i64 n) :: c19 :: (Value.slice (some ⟨bg, 0, none⟩) n n) :: (Value.slice (some ⟨st, 0, none⟩) n n) :: (Value.slice (some ⟨la, 0, none⟩) n n) :: c23 :: c24 :: c25 :: (Value.slice (some ⟨lb, 0, none⟩) nt nt) :: c27 :: (Value.slice (some ⟨em, 0, none⟩) n n) :: (Value.slice (some ⟨ea, 0, none⟩) n n) :: (Value.slice (some ⟨en, 0, none⟩) n n) :: (Value.slice (some ⟨ta, 0, none⟩) n n) :: (Value.int .i64 0) :: u33 :: u34 :: c35 :: c36 :: c37 :: c38 :: c39 :: c40 :: c41 :: c42 :: c43 :: c44 :: c45 :: c46 :: c47 :: c48 :: c49 :: c50 :: c51 :: c52 :: c53 :: c54 :: c55 :: c56 :: c57 :: c58 :: c59 :: c60 :: c61 :: c62 :: c63 :: c64 :: c65 :: c66 :: c67 :: c68 :: c69 :: c70 :: c71 :: c72 :: c73 :: c74 :: c75 :: c76 :: c77 :: c78 :: c79 :: c80 :: c81 :: c82 :: c83 :: c84 :: c85 :: c86 :: c87 :: c88 :: c89 :: c90 :: c91 :: c92 :: c93 :: c94 :: c95 :: c96 :: c97 :: c98 :: c99 :: c100 :: c101 :: c102 :: c103 :: c104 :: c105 :: c106 :: c107 :: c108 :: c109 :: c110 :: c111 :: c112 :: c113 :: c114 :: c115 :: c116 :: c117 :: c118 :: c119 :: c120 :: c121 :: c122 :: c123 :: c124 :: c125 :: c126 :: c127 :: c128 :: c129 :: c130 :: c131 :: c132 :: c133 :: c134 :: c135 :: c136 :: c137 :: c138 :: c139 :: c140 :: c141 :: c142 :: c143 :: c144 :: c145 :: c146 :: c147 :: c148 :: c149 :: c150 :: c151 :: c152 :: c153 :: c154 :: c155 :: c156 :: c157 :: c158 :: c159 :: c160 :: c161 :: c162 :: c163 :: c164 :: c165 :: c166 :: c167 :: c168 :: c169 :: c170 :: c171 :: u172 :: u173 :: u174 :: u175 :: u176 :: u177 :: u178 :: u179 :: u180 :: u181 :: u182 :: u183 :: u184 :: u185 :: u186 :: u187 :: u188 :: u189 :: u190 :: u191 :: u192 :: u193 :: u194 :: u195 :: u196 :: u197 :: u198 :: u199 :: u200 :: u201 :: u202 :: u203 :: u204 :: u205 :: u206 :: u207 :: u208 :: u209 :: u210 :: u211 :: u212 :: u213 :: u214 :: u215 :: u216 :: u217 :: u218 :: u219 :: u220 :: u221 :: u222 :: u223 :: u224 :: u225 :: u226 :: u227 :: u228 :: u229 :: u230 :: u231 :: u232 :: u233 :: u234 :: u235 :: u236 :: u237 :: u238 :: c239 :: c240 :: c241 :: c242 :: c243 :: c244 :: c245 :: c246 :: c247 :: c248 :: c249 :: c250 :: c251 :: c252 :: c253 :: c254 :: c255 :: c256 :: c257 :: c258 :: c259 :: c260 :: c261 :: c262 :: c263 :: c264 :: c265 :: c266 :: c267 :: c268 :: c269 :: c270 :: c271 :: c272 :: c273 :: c274 :: c275 :: c276 :: c277 :: c278 :: c279 :: c280 :: c281 :: c282 :: c283 :: c284 :: c285 :: c286 :: c287 :: c288 :: c289 :: c290 :: c291 :: c292 :: c293 :: c294 :: c295 :: c296 :: c297 :: c298 :: c299 :: c300 :: c301 :: c302 :: c303 :: c304 :: c305 :: c306 :: c307 :: c308 :: c309 :: c310 :: c311 :: c312 :: c313 :: c314 :: c315 :: c316 :: c317 :: c318 :: c319 :: c320 :: c321 :: c322 :: c323 :: c324 :: c325 :: c326 :: c327 :: c328 :: c329 :: c330 :: c331 :: c332 :: c333 :: c334 :: c335 :: c336 :: c337 :: c338 :: c339 :: c340 :: c341 :: c342 :: c343 :: c344 :: c345 :: c346 :: c347 :: c348 :: c349 :: c350 :: c351 :: c352 :: c353 :: c354 :: c355 :: c356 :: c357 :: c358 :: c359 :: c360 :: c361 :: c362 :: c363 :: c364 :: c365 :: c366 :: c367 :: c368 :: c369 :: c370 :: c371 :: c372 :: c373 :: c374 :: c375 :: c376 :: c377 :: c378 :: c379 :: c380 :: c381 :: c382 :: c383 :: c384 :: c385 :: c386 :: c387 :: c388 :: c389 :: c390 :: c391 :: c392 :: c393 :: c394 :: c395 :: c396 :: c397 :: c398 :: c399 :: c400 :: c401 :: c402 :: c403 :: c404 :: c405 :: c406 :: c407 :: c408 :: c409 :: c410 :: c411 :: c412 :: c413 :: c414 :: c415 :: c416 :: c417 :: c418 :: c419 :: c420 :: c421 :: c422 :: c423 :: c424 :: c425 :: c426 :: c427 :: c428 :: c429 :: c430 :: c431 :: c432 :: c433 :: c434 :: c435 :: c436 :: c437 :: c438 :: c439 :: c440 :: c441 :: c442 :: c443 :: []).toArray, []⟩ wr := by
  have HS := hide hS
  have HG := hide hG
  have HQ := hide hQ
  have HD := hide hd
  have HST := hide hst
  have HLAb := hide hla
  have HLPb := hide hlb
  have HSM := hide hSM
  have HLA := hide hLA
  have HLP := hide hLP
  clear hQ hd hst hla hlb hSM hLA hLP
  clear hS hG
  refine Code.wp_mono (Q := NoPanic Q0) (fun e a w h => NoPanic.imp e a w h) ?_
  conv => arg 2; arg 1; whnf
  go_loopw [32] (fun s wr => ∃ (f : Nat) (EM EA EN TA : Nat → Int), Q3 w0 n em ea en ta K T X v ST s wr f EM EA EN TA) (fun s _ => n - (intOf s).toNat)
  case atStart => exact ⟨0, _, _, _, _, HQ.out⟩
  case round =>
    obtain ⟨f, EM, EA, EN, TA, hR⟩ := hrel
    have HR := hide hR
    obtain rfl := hR.s
    have hp := hR.hp
    clear hR HQ
    by_cases hlt : f < n
    · have HS2 := hide (HS.out.below HR.out.bel)
      have g1 := HS2.out.fo.rcell f hlt
      have HF := hide (HG.out f hlt).fst
      obtain ⟨g, hg⟩ : ∃ g, G f = g := ⟨_, rfl⟩
      rw [hg] at g1 HF
      clear hg
      by_cases hg0 : g = (f : Int)
      · have hfst := HF.out.1 hg0
        have hdt := HD.out.rw f hlt hfst.1.2.1
        obtain ⟨t, ht⟩ := Int.eq_ofNat_of_zero_le hdt.1
        have htn : t < nt := by omega
        have HFst := hide hfst
        obtain ⟨a, ha, han, hlst⟩ := HLA.out.done hfst
        have HLst := hide hlst
        obtain ⟨b, hb⟩ : ∃ b, LP t = b := ⟨_, rfl⟩
        have HLp : Hid (Lp K T X n v (T f) b) := by have h := HLP.out t htn; rw [hb, ← ht] at h; exact h
        have hbb := HLp.out.lt
        have HKp := hide (kp_of (v := v) HSM.out hfst)
        subst hg0
        rcases HS.out.ops with h0 | ⟨bo, off, rfl, hbl, hcl⟩
        · omega
        have c1 : wr.cell? ⟨bo, off + f * 3 + 1, none⟩ = some (.int .i32 t) := by
          have h := hcl (f * 3 + 1) (by omega)
          rw [opCell1, ← Nat.add_assoc, ht] at h
          rw [HR.out.bel.cell hbl]; exact h
        have s1 := (HST.out.below HR.out.bel HST.out.lt).rcell f hlt
        have l1 := (HLAb.out.below HR.out.bel HLAb.out.lt).rcell f hlt
        rw [ha] at l1
        have p1 := (HLPb.out.below HR.out.bel HLPb.out.lt).rcell t htn
        rw [hb] at p1
        have m1 := HR.out.bm.rcell f hlt
        have m2 := HR.out.bm.free
        have z1 : em ≠ st := by have := HST.out.lt; omega
        have z2 : em ≠ la := by have := HLAb.out.lt; omega
        have z3 : em ≠ lb := by have := HLPb.out.lt; omega
        have z4 : em ≠ bo := by omega
        have z1' := z1.symm
        have z2' := z2.symm
        have z3' := z3.symm
        have z4' := z4.symm
        have y1' := y1.symm
        have y2' := y2.symm
        have y3' := y3.symm
        have y4' := y4.symm
        have y5' := y5.symm
        have y6' := y6.symm
        clear hcl ht hdt hfst hlst hb ha
        by_cases h2 : v = 2
        · have e2 : (v == 2) = true := by simpa using h2
          by_cases h3 : ST f = 2
          · have e3 : (ST f == 2) = true := by simpa using h3
            have HK := hide (HKp.out.1 ⟨h2, h3⟩)
            clear h2 h3
            as_aux_lemma =>
              go_wp2
              go_roundw
              case rel => exact ⟨f + 1, _, _, _, _, by omega, rfl, HR.out.bm.rset f (ST f), HR.out.ba.setOther y1.symm _, HR.out.bn.setOther y2.symm _, HR.out.bt.setOther y3.symm _, HR.out.e.kept HFst.out HK.out, HR.out.bel.setCell hem _⟩
              case measure => simp [intOf]; omega
          · have e3 : (ST f == 2) = false := by simpa using h3
            have HNK : Hid (¬ Kp K T X n v f) := fun h => h3 (HKp.out.2 h).2
            clear h2 h3
            by_cases hba : b ≤ (a : Int)
            · have HRel := hide ((rel_of HFst.out HNK.out HLst.out HLp.out).1 hba)
              have hrn : a < n := HRel.out.run.1.1
              have a1 := HR.out.ba.rcell a hrn
              have a2 := HR.out.ba.free
              have t1 := HR.out.bt.rcell a hrn
              have t2 := HR.out.bt.free
              have b2 := HR.out.bn.free
              by_cases hx : EA a < 0
              · as_aux_lemma =>
                  go_wp2
                  go_roundw
                  case rel => exact ⟨f + 1, _, _, _, _, by omega, rfl, ((HR.out.bm.rset f (ST f)).setOther y1 _).setOther y3 _, ((HR.out.ba.setOther y1.symm _).rset a f).setOther y5 _, ((HR.out.bn.setOther y2.symm _).setOther y4.symm _).setOther y6 _, ((HR.out.bt.setOther y3.symm _).setOther y5.symm _).rset a f, HR.out.e.head HRel.out hrn hx, ((HR.out.bel.setCell hem _).setCell hea _).setCell hta _⟩
                  case measure => simp [intOf]; omega
              · obtain ⟨tl, htl, htn, hE⟩ := HR.out.e.more HRel.out hrn hx
                rw [htl] at t1
                have HE := hide hE
                clear hE htl
                have b1 := HR.out.bn.rcell tl htn
                as_aux_lemma =>
                  go_wp2
                  go_roundw
                  case rel => exact ⟨f + 1, _, _, _, _, by omega, rfl, ((HR.out.bm.rset f (ST f)).setOther y2 _).setOther y3 _, ((HR.out.ba.setOther y1.symm _).setOther y4 _).setOther y5 _, ((HR.out.bn.setOther y2.symm _).rset tl f).setOther y6 _, ((HR.out.bt.setOther y3.symm _).setOther y6.symm _).rset a f, HE.out, ((HR.out.bel.setCell hem _).setCell hen _).setCell hta _⟩
                  case measure => simp [intOf]; omega
            · have hb0 : 0 ≤ b := by omega
              have HRel := hide ((rel_of HFst.out HNK.out HLst.out HLp.out).2 b.toNat (by omega) (by omega))
              have hrn : b.toNat < n := HRel.out.run.1.1
              have a1 := HR.out.ba.rcell b.toNat hrn
              have a2 := HR.out.ba.free
              have t1 := HR.out.bt.rcell b.toNat hrn
              have t2 := HR.out.bt.free
              have b2 := HR.out.bn.free
              by_cases hx : EA b.toNat < 0
              · as_aux_lemma =>
                  go_wp2
                  go_roundw
                  case rel => exact ⟨f + 1, _, _, _, _, by omega, rfl, ((HR.out.bm.rset f (ST f)).setOther y1 _).setOther y3 _, ((HR.out.ba.setOther y1.symm _).rset b.toNat f).setOther y5 _, ((HR.out.bn.setOther y2.symm _).setOther y4.symm _).setOther y6 _, ((HR.out.bt.setOther y3.symm _).setOther y5.symm _).rset b.toNat f, HR.out.e.head HRel.out hrn hx, ((HR.out.bel.setCell hem _).setCell hea _).setCell hta _⟩
                  case measure => simp [intOf]; omega
              · obtain ⟨tl, htl, htn, hE⟩ := HR.out.e.more HRel.out hrn hx
                rw [htl] at t1
                have HE := hide hE
                clear hE htl
                have b1 := HR.out.bn.rcell tl htn
                as_aux_lemma =>
                  go_wp2
                  go_roundw
                  case rel => exact ⟨f + 1, _, _, _, _, by omega, rfl, ((HR.out.bm.rset f (ST f)).setOther y2 _).setOther y3 _, ((HR.out.ba.setOther y1.symm _).setOther y4 _).setOther y5 _, ((HR.out.bn.setOther y2.symm _).rset tl f).setOther y6 _, ((HR.out.bt.setOther y3.symm _).setOther y6.symm _).rset b.toNat f, HE.out, ((HR.out.bel.setCell hem _).setCell hen _).setCell hta _⟩
                  case measure => simp [intOf]; omega
        · have e2 : (v == 2) = false := by simpa using h2
          have HNK : Hid (¬ Kp K T X n v f) := fun h => h2 (HKp.out.2 h).1
          clear h2
          by_cases hba : b ≤ (a : Int)
          · have HRel := hide ((rel_of HFst.out HNK.out HLst.out HLp.out).1 hba)
            have hrn : a < n := HRel.out.run.1.1
            have a1 := HR.out.ba.rcell a hrn
            have a2 := HR.out.ba.free
            have t1 := HR.out.bt.rcell a hrn
            have t2 := HR.out.bt.free
            have b2 := HR.out.bn.free
            by_cases hx : EA a < 0
            · as_aux_lemma =>
                go_wp2
                go_roundw
                case rel => exact ⟨f + 1, _, _, _, _, by omega, rfl, ((HR.out.bm.rset f (ST f)).setOther y1 _).setOther y3 _, ((HR.out.ba.setOther y1.symm _).rset a f).setOther y5 _, ((HR.out.bn.setOther y2.symm _).setOther y4.symm _).setOther y6 _, ((HR.out.bt.setOther y3.symm _).setOther y5.symm _).rset a f, HR.out.e.head HRel.out hrn hx, ((HR.out.bel.setCell hem _).setCell hea _).setCell hta _⟩
                case measure => simp [intOf]; omega
            · obtain ⟨tl, htl, htn, hE⟩ := HR.out.e.more HRel.out hrn hx
              rw [htl] at t1
              have HE := hide hE
              clear hE htl
              have b1 := HR.out.bn.rcell tl htn
              as_aux_lemma =>
                go_wp2
                go_roundw
                case rel => exact ⟨f + 1, _, _, _, _, by omega, rfl, ((HR.out.bm.rset f (ST f)).setOther y2 _).setOther y3 _, ((HR.out.ba.setOther y1.symm _).setOther y4 _).setOther y5 _, ((HR.out.bn.setOther y2.symm _).rset tl f).setOther y6 _, ((HR.out.bt.setOther y3.symm _).setOther y6.symm _).rset a f, HE.out, ((HR.out.bel.setCell hem _).setCell hen _).setCell hta _⟩
                case measure => simp [intOf]; omega
          · have hb0 : 0 ≤ b := by omega
            have HRel := hide ((rel_of HFst.out HNK.out HLst.out HLp.out).2 b.toNat (by omega) (by omega))
            have hrn : b.toNat < n := HRel.out.run.1.1
            have a1 := HR.out.ba.rcell b.toNat hrn
            have a2 := HR.out.ba.free
            have t1 := HR.out.bt.rcell b.toNat hrn
            have t2 := HR.out.bt.free
            have b2 := HR.out.bn.free
            by_cases hx : EA b.toNat < 0
            · as_aux_lemma =>
                go_wp2
                go_roundw
                case rel => exact ⟨f + 1, _, _, _, _, by omega, rfl, ((HR.out.bm.rset f (ST f)).setOther y1 _).setOther y3 _, ((HR.out.ba.setOther y1.symm _).rset b.toNat f).setOther y5 _, ((HR.out.bn.setOther y2.symm _).setOther y4.symm _).setOther y6 _, ((HR.out.bt.setOther y3.symm _).setOther y5.symm _).rset b.toNat f, HR.out.e.head HRel.out hrn hx, ((HR.out.bel.setCell hem _).setCell hea _).setCell hta _⟩
                case measure => simp [intOf]; omega
            · obtain ⟨tl, htl, htn, hE⟩ := HR.out.e.more HRel.out hrn hx
              rw [htl] at t1
              have HE := hide hE
              clear hE htl
              have b1 := HR.out.bn.rcell tl htn
              as_aux_lemma =>
                go_wp2
                go_roundw
                case rel => exact ⟨f + 1, _, _, _, _, by omega, rfl, ((HR.out.bm.rset f (ST f)).setOther y2 _).setOther y3 _, ((HR.out.ba.setOther y1.symm _).setOther y4 _).setOther y5 _, ((HR.out.bn.setOther y2.symm _).rset tl f).setOther y6 _, ((HR.out.bt.setOther y3.symm _).setOther y6.symm _).rset b.toNat f, HE.out, ((HR.out.bel.setCell hem _).setCell hen _).setCell hta _⟩
                case measure => simp [intOf]; omega
      · have HNF : Hid (¬ Fst K T X n f) := fun h => hg0 (HF.out.2 h)
        have e1 : (g != (f : Int)) = true := by simpa using hg0
        clear hg0
        as_aux_lemma =>
          go_wp2
          go_roundw
          case rel => exact ⟨f + 1, _, _, _, _, by omega, rfl, HR.out.bm, HR.out.ba, HR.out.bn, HR.out.bt, HR.out.e.skip HNF.out, HR.out.bel⟩
          case measure => simp [intOf]; omega
    · obtain rfl : f = n := by omega
      as_aux_lemma =>
        go_wp2
        first | exact hexit HR.out | exact ⟨_, _, _, _, HR.out⟩ | exact HR.out
end Go.Proofs.Qxb6605516a
