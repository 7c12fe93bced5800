import Derived.Test.Qxb6605516aPlanK2
import Derived.Test.Qxb6605516aPlanK
namespace Go.Proofs.Qxb6605516a
open Go.RowKit
set_option linter.unusedVariables false

set_option maxRecDepth 100000 in
set_option maxHeartbeats 8000000 in
theorem l4_1 {c1 c2 c3 c5 c6 c7 c8 c9 c11 c15 c16 c17 c19 c29 c30 c31 c32 c33 c34 c35 c36 c37 c38 c39 c40 c41 c42 c43 c44 c45 c46 c47 c48 c49 c50 c51 c52 c53 c54 c55 c56 c57 c58 c59 c60 c61 c62 c63 c64 c65 c66 c67 c68 c69 c70 c71 c72 c73 c74 c75 c76 c77 c78 c79 c80 c81 c82 c83 c84 c85 c86 c87 c88 c89 c90 c91 c92 c93 c94 c95 c96 c97 c98 c99 c100 c101 c102 c103 c104 c105 c106 c107 c108 c109 c110 c111 c112 c113 c114 c259 c260 c261 c262 c263 c264 c265 c266 c267 c268 c269 c270 c271 c272 c273 c274 c275 c276 c277 c278 c279 c280 c281 c282 c283 c284 c285 c286 c287 c288 c289 c290 c291 c292 c293 c294 c295 c296 c297 c298 c299 c300 c301 c302 c303 c304 c305 c306 c307 c308 c309 c310 c311 c312 c313 c314 c315 c316 c317 c318 c319 c320 c321 c322 c323 c324 c325 c326 c327 c328 c329 c330 c331 c332 c333 c334 c335 c336 c337 c338 c339 c340 c341 c342 c343 c344 c345 c346 c347 c348 c349 c350 c351 c352 c353 c354 c355 c356 c357 c358 c359 c360 c361 c362 c363 c364 c365 c366 c367 c368 c369 c370 c371 c372 c373 c374 c375 c376 c377 c378 c379 c380 c381 c382 c383 c384 c385 c386 c387 c388 c389 c390 c391 c392 c393 c394 c395 c396 c397 c398 c399 c400 c401 c402 c403 c404 c405 c406 c407 c408 c409 c410 c411 c412 c413 c414 c415 c416 c417 c418 c419 c420 c421 c422 c423 c424 c425 c426 c427 c428 c429 c430 u10 u24 u25 u26 u27 u28 u115 u116 u117 u118 u119 u120 u121 u122 u123 u124 u125 u126 u127 u128 u129 u130 u131 u132 u133 u134 u135 u136 u137 u138 u139 u140 u141 u142 u143 u144 u145 u146 u147 u148 u149 u150 u151 u152 u153 u154 u155 u156 u157 u158 u159 u160 u161 u162 u163 u164 u165 u166 u167 u168 u169 u170 u171 u172 u173 u174 u175 u176 u177 u178 u179 u180 u181 u182 u183 u184 u185 u186 u187 u188 u189 u190 u191 u192 u193 u194 u195 u196 u197 u198 u199 u200 u201 u202 u203 u204 u205 u206 u207 u208 u209 u210 u211 u212 u213 u214 u215 u216 u217 u218 u219 u220 u221 u222 u223 u224 u225 u226 u227 u228 u229 u230 u231 u232 u233 u234 u235 u236 u237 u238 u239 u240 u241 u242 u243 u244 u245 u246 u247 u248 u249 u250 u251 u252 u253 u254 u255 u256 u257 u258 : Value} {Q0 : Exit → Act → World → Prop} {w w0 wr : World} {v : Int} {n nt : Nat} {K T X M A N CI CM CF G : Nat → Int} {len : Nat} {oa : Option Addr} {oc bm af nx bi bc cf bg : Nat} {rl fr ni : Nat} {R0 FR0 : Nat → Int} (hn : n ≤ 4096) (hS : S3 w w0 v n nt K T X M A N CI CM CF G len oa bm af nx bi bc cf bg) (hG : ∀ q, q < n → FoIs K T X n q (G q)) (hA : AInv K T X n v (Run K T n) A N) (hM : MInv K T X n (Run K T n) M) (hrl : w0.heap.size ≤ rl) (hfr : w0.heap.size ≤ fr) (hne : rl ≠ fr) (hD : Dom n nt ni K T X v) (hQ : Z1 w0 n nt rl fr K T X v (.int .i64 0) wr 0 R0 FR0)
    (hexit : ∀ {u10 u24 u25 u26 u27 u28 u115 u116 u117 u118 u119 u120 u121 u122 u123 u124 u125 u126 u127 u128 u129 u130 u131 u132 u133 u134 u135 u136 u137 u138 u139 u140 u141 u142 u143 u144 u145 u146 u147 u148 u149 u150 u151 u152 u153 u154 u155 u156 u157 u158 u159 u160 u161 u162 u163 u164 u165 u166 u167 u168 u169 u170 u171 u172 u173 u174 u175 u176 u177 u178 u179 u180 u181 u182 u183 u184 u185 u186 u187 u188 u189 u190 u191 u192 u193 u194 u195 u196 u197 u198 u199 u200 u201 u202 u203 u204 u205 u206 u207 u208 u209 u210 u211 u212 u213 u214 u215 u216 u217 u218 u219 u220 u221 u222 u223 u224 u225 u226 u227 u228 u229 u230 u231 u232 u233 u234 u235 u236 u237 u238 u239 u240 u241 u242 u243 u244 u245 u246 u247 u248 u249 u250 u251 u252 u253 u254 u255 u256 u257 u258 : Value} {R FR : Nat → Int} {w' : World}, Z1 w0 n nt rl fr K T X v (.int .i64 n) w' n R FR → Q0 (.exit 0) ⟨((Value.slice oa n oc) :: c1 :: c2 :: c3 :: (Value.int .u8 v) :: c5 :: c6 :: c7 :: c8 :: c9 :: u10 :: c11 :: (Value.slice (some ⟨bm, 0, none⟩) n n) :: (Value.slice (some ⟨af, 0, none⟩) n n) :: (Value.slice (some ⟨nx, 0, none⟩) n n) :: c15 :: c16 :: c17 :: (Value.int .i64 n) :: c19 :: (Value.slice (some ⟨bg, 0, none⟩) n n) :: (Value.slice (some ⟨rl, 0, none⟩) n n) :: (Value.slice (some ⟨fr, 0, none⟩) nt nt) :: (Value.int .i64 n) :: u24 :: u25 :: u26 :: u27 :: u28 :: c29 :: c30 :: c31 :: c32 :: c33 :: c34 :: c35 :: c36 :: c37 :: c38 :: c39 :: c40 :: c41 :: c42 :: c43 :: c44 :: c45 :: c46 :: c47 :: c48 :: c49 :: c50 :: c51 :: c52 :: c53 :: c54 :: c55 :: c56 :: c57 :: c58 :: c59 :: c60 :: c61 :: c62 :: c63 :: c64 :: c65 :: c66 :: c67 :: c68 :: c69 :: c70 :: c71 :: c72 :: c73 :: c74 :: c75 :: c76 :: c77 :: c78 :: c79 :: c80 :: c81 :: c82 :: c83 :: c84 :: c85 :: c86 :: c87 :: c88 :: c89 :: c90 :: c91 :: c92 :: c93 :: c94 :: c95 :: c96 :: c97 :: c98 :: c99 :: c100 :: c101 :: c102 :: c103 :: c104 :: c105 :: c106 :: c107 :: c108 :: c109 :: c110 :: c111 :: c112 :: c113 :: c114 :: u115 :: u116 :: u117 :: u118 :: u119 :: u120 :: u121 :: u122 :: u123 :: u124 :: u125 :: u126 :: u127 :: u128 :: u129 :: u130 :: u131 :: u132 :: u133 :: u134 :: u135 :: u136 :: u137 :: u138 :: u139 :: u140 :: u141 :: u142 :: u143 :: u144 :: u145 :: u146 :: u147 :: u148 :: u149 :: u150 :: u151 :: u152 :: u153 :: u154 :: u155 :: u156 :: u157 :: u158 :: u159 :: u160 :: u161 :: u162 :: u163 :: u164 :: u165 :: u166 :: u167 :: u168 :: u169 :: u170 :: u171 :: u172 :: u173 :: u174 :: u175 :: u176 :: u177 :: u178 :: u179 :: u180 :: u181 :: u182 :: u183 :: u184 :: u185 :: u186 :: u187 :: u188 :: u189 :: u190 :: u191 :: u192 :: u193 :: u194 :: u195 :: u196 :: u197 :: u198 :: u199 :: u200 :: u201 :: u202 :: u203 :: u204 :: u205 :: u206 :: u207 :: u208 :: u209 :: u210 :: u211 :: u212 :: u213 :: u214 :: u215 :: u216 :: u217 :: u218 :: u219 :: u220 :: u221 :: u222 :: u223 :: u224 :: u225 :: u226 :: u227 :: u228 :: u229 :: u230 :: u231 :: u232 :: u233 :: u234 :: u235 :: u236 :: u237 :: u238 :: u239 :: u240 :: u241 :: u242 :: u243 :: u244 :: u245 :: u246 :: u247 :: u248 :: u249 :: u250 :: u251 :: u252 :: u253 :: u254 :: u255 :: u256 :: u257 :: u258 :: c259 :: c260 :: c261 :: c262 :: c263 :: c264 :: c265 :: c266 :: c267 :: c268 :: c269 :: c270 :: c271 :: c272 :: c273 :: c274 :: c275 :: c276 :: c277 :: c278 :: c279 :: c280 :: c281 :: c282 :: c283 :: c284 :: c285 :: c286 :: c287 :: c288 :: c289 :: c290 :: c291 :: c292 :: c293 :: c294 :: c295 :: c296 :: c297 :: c298 :: c299 :: c300 :: c301 :: c302 :: c303 :: c304 :: c305 :: c306 :: c307 :: c308 :: c309 :: c310 :: c311 :: c312 :: c313 :: c314 :: c315 :: c316 :: c317 :: c318 :: c319 :: c320 :: c321 :: c322 :: c323 :: c324 :: c325 :: c326 :: c327 :: c328 :: c329 :: c330 :: c331 :: c332 :: c333 :: c334 :: c335 :: c336 :: c337 :: c338 :: c339 :: c340 :: c341 :: c342 :: c343 :: c344 :: c345 :: c346 :: c347 :: c348 :: c349 :: c350 :: c351 :: c352 :: c353 :: c354 :: c355 :: c356 :: c357 :: c358 :: c359 :: c360 :: c361 :: c362 :: c363 :: c364 :: c365 :: c366 :: c367 :: c368 :: c369 :: c370 :: c371 :: c372 :: c373 :: c374 :: c375 :: c376 :: c377 :: c378 :: c379 :: c380 :: c381 :: c382 :: c383 :: c384 :: c385 :: c386 :: c387 :: c388 :: c389 :: c390 :: c391 :: c392 :: c393 :: c394 :: c395 :: c396 :: c397 :: c398 :: c399 :: c400 :: c401 :: c402 :: c403 :: c404 :: c405 :: c406 :: c407 :: c408 :: c409 :: c410 :: c411 :: c412 :: c413 :: c414 :: c415 :: c416 :: c417 :: c418 :: c419 :: c420 :: c421 :: c422 :: c423 :: c424 :: c425 :: c426 :: c427 :: c428 :: c429 :: c430 :: []).toArray, []⟩ w') :
    Code.wp Try.prog (Code.loop lp4_1) Q0 ⟨((Value.slice oa n oc) :: c1 :: c2 :: c3 :: (Value.int .u8 v) :: c5 :: c6 :: c7 :: c8 :: c9 :: u10 :: c11 :: (Value.slice (some ⟨bm, 0, none⟩) n n) :: (Value.slice (some ⟨af, 0, none⟩) n n) :: (Value.slice (some ⟨nx, 0, none⟩) n n) :: c15 :: c16 :: c17 :: (Value.int .i64 n) :: c19 :: (Value.slice (some ⟨bg, 0, none⟩) n n) :: (Value.slice (some ⟨rl, 0, none⟩) n n) :: (Value.slice (some ⟨fr, 0, none⟩) nt nt) :: (Value.int .i64 0) :: u24 :: u25 :: u26 :: u27 :: u28 :: c29 :: c30 :: c31 :: c32 :: c33 :: c34 :: c35 :: c36 :: c37 :: c38 :: c39 :: c40 :: c41 :: c42 :: c43 :: c44 :: c45 :: c46 :: c47 :: c48 :: c49 :: c50 :: c51 :: c52 :: c53 :: c54 :: c55 :: c56 :: c57 :: c58 :: c59 :: c60 :: c61 :: c62 :: c63 :: c64 :: c65 :: c66 :: c67 :: c68 :: c69 :: c70 :: c71 :: c72 :: c73 :: c74 :: c75 :: c76 :: c77 :: c78 :: c79 :: c80 :: c81 :: c82 :: c83 :: c84 :: c85 :: c86 :: c87 :: c88 :: c89 :: c90 :: c91 :: c92 :: c93 :: c94 :: c95 :: c96 :: c97 :: c98 :: c99 :: c100 :: c101 :: c102 :: c103 :: c104 :: c105 :: c106 :: c107 :: c108 :: c109 :: c110 :: c111 :: c112 :: c113 :: c114 :: u115 :: u116 :: u117 :: u118 :: u119 :: u120 :: u121 :: u122 :: u123 :: u124 :: u125 :: u126 :: u127 :: u128 :: u129 :: u130 :: u131 :: u132 :: u133 :: u134 :: u135 :: u136 :: u137 :: u138 :: u139 :: u140 :: u141 :: u142 :: u143 :: u144 :: u145 :: u146 :: u147 :: u148 :: u149 :: u150 :: u151 :: u152 :: u153 :: u154 :: u155 :: u156 :: u157 :: u158 :: u159 :: u160 :: u161 :: u162 :: u163 :: u164 :: u165 :: u166 :: u167 :: u168 :: u169 :: u170 :: u171 :: u172 :: u173 :: u174 :: u175 :: u176 :: u177 :: u178 :: u179 :: u180 :: u181 :: u182 :: u183 :: u184 :: u185 :: u186 :: u187 :: u188 :: u189 :: u190 :: u191 :: u192 :: u193 :: u194 :: u195 :: u196 :: u197 :: u198 :: u199 :: u200 :: u201 :: u202 :: u203 :: u204 :: u205 :: u206 :: u207 :: u208 :: u209 :: u210 :: u211 :: u212 :: u213 :: u214 :: u215 :: u216 :: u217 :: u218 :: u219 :: u220 :: u221 :: u222 :: u223 :: u224 :: u225 :: u226 :: u227 :: u228 :: u229 :: u230 :: u231 :: u232 :: u233 :: u234 :: u235 :: u236 :: u237 :: u238 :: u239 :: u240 :: u241 :: u242 :: u243 :: u244 :: u245 :: u246 :: u247 :: u248 :: u249 :: u250 :: u251 :: u252 :: u253 :: u254 :: u255 :: u256 :: u257 :: u258 :: c259 :: c260 :: c261 :: c262 :: c263 :: c264 :: c265 :: c266 :: c267 :: c268 :: c269 :: c270 :: c271 :: c272 :: c273 :: c274 :: c275 :: c276 :: c277 :: c278 :: c279 :: c280 :: c281 :: c282 :: c283 :: c284 :: c285 :: c286 :: c287 :: c288 :: c289 :: c290 :: c291 :: c292 :: c293 :: c294 :: c295 :: c296 :: c297 :: c298 :: c299 :: c300 :: c301 :: c302 :: c303 :: c304 :: c305 :: c306 :: c307 :: c308 :: c309 :: c310 :: c311 :: c312 :: c313 :: c314 :: c315 :: c316 :: c317 :: c318 :: c319 :: c320 :: c321 :: c322 :: c323 :: c324 :: c325 :: c326 :: c327 :: c328 :: c329 :: c330 :: c331 :: c332 :: c333 :: c334 :: c335 :: c336 :: c337 :: c338 :: c339 :: c340 :: c341 :: c342 :: c343 :: c344 :: c345 :: c346 :: c347 :: c348 :: c349 :: c350 :: c351 :: c352 :: c353 :: c354 :: c355 :: c356 :: c357 :: c358 :: c359 :: c360 :: c361 :: c362 :: c363 :: c364 :: c365 :: c366 :: c367 :: c368 :: c369 :: c370 :: c371 :: c372 :: c373 :: c374 :: c375 :: c376 :: c377 :: c378 :: c379 :: c380 :: c381 :: c382 :: c383 :: c384 :: c385 :: c386 :: c387 :: c388 :: c389 :: c390 :: c391 :: c392 :: c393 :: c394 :: c395 :: c396 :: c397 :: c398 :: c399 :: c400 :: c401 :: c402 :: c403 :: c404 :: c405 :: c406 :: c407 :: c408 :: c409 :: c410 :: c411 :: c412 :: c413 :: c414 :: c415 :: c416 :: c417 :: c418 :: c419 :: c420 :: c421 :: c422 :: c423 :: c424 :: c425 :: c426 :: c427 :: c428 :: c429 :: c430 :: []).toArray, []⟩ wr := by
  have HS := hide hS
  have HG := hide hG
  have HA := hide hA
  have HM := hide hM
  have HD := hide hD
  have HQ := hide hQ
  clear hA hM hD hQ
  clear hS hG
  let bp0 : Exit → Act → World → Prop := bodyPost Try.prog Try.f4 (fun _ _ => True)
  refine Code.wp_mono (Q := NoPanic Q0) (fun e a w h => NoPanic.imp e a w h) ?_
  conv => arg 2; arg 1; whnf
  go_loopw [23] (fun s wr => ∃ (p : Nat) (R FR : Nat → Int), Z1 w0 n nt rl fr K T X v s wr p R FR) (fun s _ => n - (intOf s).toNat)
  case atStart => exact ⟨0, _, _, HQ.out⟩
  case round =>
    obtain ⟨p, R, FR, hR⟩ := hrel
    have HR := hide hR
    obtain rfl := hR.s
    have hp := hR.hp
    clear hR HQ
    by_cases hlt : p < n
    · have HS2 := hide (HS.out.below HR.out.bel)
      have g1 := HS2.out.fo.rcell p hlt
      have HF := hide (HG.out p hlt)
      obtain ⟨g, hg⟩ : ∃ g, G p = g := ⟨_, rfl⟩
      rw [hg] at g1 HF
      clear hg
      by_cases hg0 : g < 0
      · have HNR : Hid (¬ Run K T n p) := fun h => by have := HF.out.run.1 h; omega
        have m1 := HS2.out.mo.rcell p hlt
        rw [md_zero HM.out hlt (fun h => HNR.out h.1)] at m1
        have a1 := HS2.out.ra.rcell p hlt
        rw [af_none HA.out hlt HNR.out] at a1
        as_aux_lemma =>
          go_wp2
          go_roundw
          case rel => exact ⟨p + 1, _, _, by omega, rfl, HR.out.br, HR.out.bf, HR.out.ri.congr (skip_d HNR.out), HR.out.fi.congr (skip_d HNR.out), HR.out.bel⟩
          case measure => simp [intOf]; omega
      · obtain ⟨f, rfl, hfn, htch⟩ := HF.out.at hg0
        have hdt := HD.out.rw p hlt htch.1.2.1
        obtain ⟨t, ht⟩ := Int.eq_ofNat_of_zero_le hdt.1
        have htn : t < nt := by omega
        have HTt := hide ht
        have Htch := hide htch
        rcases HS2.out.ops with h0 | ⟨bo, off, rfl, hbl, hcl⟩
        · omega
        have c0 := hcl (p * 3) (by omega)
        rw [opCell0] at c0
        have c1 := hcl (p * 3 + 1) (by omega)
        rw [opCell1, ← Nat.add_assoc, ht] at c1
        clear hcl hbl ht hdt htch HF
        go_upto_region 33 with fail
        go_cut [146] (fun c w' => (∃ b : Bool, c = .bool b ∧ (b = true ↔ f = p)) ∧ w' = wr)
        case first =>
          by_cases hfp : f = p
          · subst hfp
            as_aux_lemma =>
              go_wp2
              go_meet
              case rel => exact ⟨⟨_, rfl, by simp⟩, rfl⟩
          · have ef : ((f : Int) == (p : Int)) = false := by simp; omega
            have HN := hide hfp
            clear hfp
            as_aux_lemma =>
              go_wp2
              go_meet
              case rel => exact ⟨⟨_, rfl, by simp [HN.out]⟩, rfl⟩
        obtain ⟨⟨b, rfl, hb⟩, rfl⟩ := hcut
        have Hb := hide hb
        clear hb
        go_step
        go_cut [] (fun w' => w' = wc)
        case first =>
          have m1 := HS2.out.mo.rcell p hlt
          cases b
          · have hfp : ¬ f = p := fun e => by have := Hb.out.2 e; simp at this
            rw [md_zero HM.out hlt (fun h => hfp (Htch.out.uniq h.self))] at m1
            clear hfp
            as_aux_lemma =>
              go_wp2
              go_meet
              case rel => exact rfl
          · have hfp : f = p := Hb.out.1 rfl
            subst hfp
            have hmd := md_first HM.out Htch.out.2.1
            obtain ⟨mp, hmp⟩ : ∃ mp, M f = mp := ⟨_, rfl⟩
            rw [hmp] at m1 hmd
            clear hmp
            by_cases hv : v = 3
            · have ev : (v != 3) = false := by simp [hv]
              clear hv
              rcases hmd with rfl | rfl
              · as_aux_lemma =>
                  go_wp2
                  go_meet
                  case rel => exact rfl
              · as_aux_lemma =>
                  go_wp2
                  go_meet
                  case rel => exact rfl
            · have ev : (v != 3) = true := by simpa using hv
              have hf0 := fr_none HR.out.fi hv Htch.out.2.1 HTt.out htn
              have q1 := HR.out.bf.rcell t htn
              obtain ⟨ft, hft⟩ : ∃ ft, FR t = ft := ⟨_, rfl⟩
              rw [hft] at q1 hf0
              clear hft hv
              rcases hmd with rfl | rfl
              · as_aux_lemma =>
                  go_wp2
                  go_meet
                  case rel => exact rfl
              · as_aux_lemma =>
                  go_wp2
                  go_meet
                  case rel => exact rfl
        obtain rfl := hcut
        go_upto_region 40 with fail
        go_cut [190] (fun c w' => c = .bool false ∧ ∃ k, w' = wc.drewN k)
        case first =>
          have m2 := HS2.out.mo.rcell f hfn
          have hm2 := md_need HM.out Htch.out
          have eN : needAt K p = need (K p) := rfl
          rw [eN] at hm2
          have r1 := HR.out.br.rcell f hfn
          have hr1 := r_none HR.out.ri Htch.out
          obtain ⟨mf, hmf⟩ : ∃ mf, M f = mf := ⟨_, rfl⟩
          rw [hmf] at m2 hm2
          obtain ⟨rf, hrf⟩ : ∃ rf, R f = rf := ⟨_, rfl⟩
          rw [hrf] at r1 hr1
          have hm3 : ¬ mf < need (K p) := by omega
          clear hmf hrf eN hm2
          as_aux_lemma =>
            go_wp2
            go_quiet (exact Calls.quiet_of_same (plannee_any _ _))
            go_wp2
            go_meet
            case rel => exact ⟨by rw [decide_eq_false (show ¬ mf < need (K p) by omega), decide_eq_false (show ¬ 0 ≤ rf by omega)]; rfl, _, rfl⟩
        obtain ⟨rfl, kd, rfl⟩ := hcut
        have a1 := HS2.out.ra.rcell p hlt
        go_step
        go_wp2
        refine l4_2 (w0 := w0) hn HS.out HG.out HA.out hrl hfr hne hlt htn HTt.out ⟨rfl, rfl, rfl, HR.out.br.drewN _, HR.out.bf.drewN _, In2.start HR.out.ri HR.out.fi HA.out hlt, below_drewN HR.out.bel _⟩ ?_
        intros
        rename_i prev steps R2 FR2 w3 hq
        have HQ2 := hide hq
        clear hq
        as_aux_lemma =>
          go_step
          go_wp2
          go_roundw
          case rel => exact ⟨p + 1, _, _, by omega, rfl, HQ2.out.br, HQ2.out.bf, HQ2.out.i.none.1, HQ2.out.i.none.2, HQ2.out.bel⟩
          case measure => simp [intOf]; omega
    · obtain rfl : p = n := by omega
      as_aux_lemma =>
        go_wp2
        first | exact hexit HR.out | exact ⟨_, _, HR.out⟩ | exact HR.out
end Go.Proofs.Qxb6605516a
