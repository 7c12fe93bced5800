import Derived.Test.Qxb6605516aHwK3
import Derived.Test.Qxb6605516aHwK4
import Derived.Test.Qxb6605516aHwJ
namespace Go.Proofs.Qxb6605516a
open Go.RowKit
set_option linter.unusedVariables false

set_option maxRecDepth 100000 in
set_option maxHeartbeats 8000000 in
theorem l5_2 {c0 c1 c4 c5 c6 c7 c8 c9 c10 c11 c12 c13 c14 c15 c16 c17 c19 c20 c21 c22 c23 c24 c27 c28 c29 c31 c32 c33 c41 c42 c43 c44 c45 c46 c47 c48 c49 c50 c51 c52 c53 c54 c55 c56 c57 c58 c59 c60 c61 c62 c63 c64 c65 c66 c67 c68 c69 c70 c71 c72 c73 c74 c75 c76 c77 c78 c79 c80 c81 c82 c83 c84 c85 c86 c87 c88 c89 c90 c91 c92 c93 c94 c95 c96 c97 c98 c99 c100 c101 c102 c103 c104 c105 c106 c107 c108 c109 c110 c111 c112 c113 c114 c115 c116 c117 c118 c119 c120 c121 c122 c123 c124 c125 c126 c127 c128 c129 c130 c131 c132 c133 c134 c135 c136 c137 c138 c139 c140 c141 c142 c143 c144 c145 c146 c147 c148 c149 c150 c151 c152 c153 c154 c155 c156 c157 c158 c159 c160 c161 c162 c163 c164 c165 c166 c167 c168 c169 c170 c171 c172 c173 c174 c175 c176 c177 c178 c179 c180 c181 c182 c183 c184 c185 c186 c187 c188 c189 c190 c191 c192 c193 c194 c195 c196 c197 c198 c199 c200 c201 c202 c203 c204 c205 c206 c207 c208 c209 c210 c211 c212 c213 c214 c215 c216 c217 c218 c219 c220 c221 c222 c223 c224 c225 c226 c227 c228 c229 c230 c231 c232 c233 c234 c235 c236 c237 c238 c239 c240 c241 c242 c243 c244 c245 c246 c247 c248 c249 c250 c251 c252 c253 c254 c255 c256 c257 c258 c259 u18 u36 u37 u38 u39 u40 u260 u261 u262 u263 u264 u265 u266 u267 u268 u269 u270 u271 u272 u273 u274 u275 u276 u277 u278 u279 u280 u281 u282 u283 u284 u285 u286 u287 u288 u289 u290 u291 u292 u293 u294 u295 u296 u297 u298 u299 u300 u301 u302 u303 u304 u305 u306 u307 u308 u309 u310 u311 u312 u313 u314 u315 u316 u317 u318 u319 u320 u321 u322 u323 u324 u325 u326 u327 u328 u329 u330 u331 u332 u333 u334 u335 u336 u337 u338 u339 u340 u341 u342 u343 u344 u345 u346 u347 u348 u349 u350 u351 u352 u353 u354 u355 u356 u357 u358 u359 u360 u361 u362 u363 u364 u365 u366 u367 u368 u369 u370 u371 u372 u373 u374 u375 u376 u377 u378 u379 u380 u381 u382 u383 u384 u385 u386 u387 u388 u389 u390 u391 u392 u393 u394 u395 u396 u397 u398 u399 u400 u401 u402 u403 u404 u405 u406 u407 u408 u409 u410 u411 u412 u413 u414 u415 : Value} {Q0 : Exit → Act → World → Prop} {w w0 wr : World} {ni m : Nat} {G H : Nat → Int} {L L1 : Nat → Nat} {F F1 : Nat → Nat → Int} {i2 h3 : Option Addr} {d2 d3 : Nat} {la : Nat → Option Addr} {lc : Nat → Nat} {p1 p2 p3 q1 q2 : Option Addr} {l1 l2 : Nat → Option Addr} {k1 k2 : Nat → Nat} {p : Int} {bs : Nat} {S0 : Nat → Int} (hni : ni ≤ 65536) (hm : m ≤ 65536) (hS : S5 w w0 ni m G H L L1 F F1 i2 h3 la lc p1 p2 p3 q1 q2 l1 l2 k1 k2) (hLL : ∀ i, i < m → L i ≤ 1048576) (hG : ∀ c, -2147483648 ≤ G c ∧ G c ≤ 2147483647) (hbs : w0.heap.size ≤ bs) (hOth : ∀ i : Nat, (i : Int) ≠ p → L1 i = L i ∧ F1 i = F i) (hHit : ∀ q : Nat, (q : Int) = p → L1 q = kn (F q) G (L q) ∧ ∀ i, i < L q → kpt (F q) G i → F1 q (kn (F q) G i * 2) = F q (i * 2) ∧ F1 q (kn (F q) G i * 2 + 1) = F q (i * 2 + 1)) (hOK : ∀ q : Nat, (q : Int) = p → ∀ j, j < L q → (0 ≤ F q (j * 2) ∧ F q (j * 2) < ni) ∧ F q (j * 2 + 1) ≠ 0) (hZ : ∀ i, i < m → (l1 i = none ↔ la i = none)) (hQ : U2 w0 ni m bs p (.int .i64 0) wr 0 S0)
    (hexit : ∀ {u18 u36 u37 u38 u39 u40 u260 u261 u262 u263 u264 u265 u266 u267 u268 u269 u270 u271 u272 u273 u274 u275 u276 u277 u278 u279 u280 u281 u282 u283 u284 u285 u286 u287 u288 u289 u290 u291 u292 u293 u294 u295 u296 u297 u298 u299 u300 u301 u302 u303 u304 u305 u306 u307 u308 u309 u310 u311 u312 u313 u314 u315 u316 u317 u318 u319 u320 u321 u322 u323 u324 u325 u326 u327 u328 u329 u330 u331 u332 u333 u334 u335 u336 u337 u338 u339 u340 u341 u342 u343 u344 u345 u346 u347 u348 u349 u350 u351 u352 u353 u354 u355 u356 u357 u358 u359 u360 u361 u362 u363 u364 u365 u366 u367 u368 u369 u370 u371 u372 u373 u374 u375 u376 u377 u378 u379 u380 u381 u382 u383 u384 u385 u386 u387 u388 u389 u390 u391 u392 u393 u394 u395 u396 u397 u398 u399 u400 u401 u402 u403 u404 u405 u406 u407 u408 u409 u410 u411 u412 u413 u414 u415 : Value} {S : Nat → Int} {w' : World}, U2 w0 ni m bs p (.int .i64 m) w' m S → Q0 (.exit 2) ⟨(c0 :: c1 :: (Value.slice i2 ni d2) :: (Value.slice h3 m d3) :: c4 :: c5 :: c6 :: c7 :: c8 :: c9 :: c10 :: c11 :: c12 :: c13 :: c14 :: c15 :: c16 :: c17 :: u18 :: c19 :: c20 :: c21 :: c22 :: c23 :: c24 :: (Value.slice q1 m m) :: (Value.slice q2 m m) :: c27 :: c28 :: c29 :: (Value.int .i32 p) :: c31 :: c32 :: c33 :: (Value.slice (some ⟨bs, 0, none⟩) ni ni) :: (Value.int .i64 m) :: u36 :: u37 :: u38 :: u39 :: u40 :: c41 :: c42 :: c43 :: c44 :: c45 :: c46 :: c47 :: c48 :: c49 :: c50 :: c51 :: c52 :: c53 :: c54 :: c55 :: c56 :: c57 :: c58 :: c59 :: c60 :: c61 :: c62 :: c63 :: c64 :: c65 :: c66 :: c67 :: c68 :: c69 :: c70 :: c71 :: c72 :: c73 :: c74 :: c75 :: c76 :: c77 :: c78 :: c79 :: c80 :: c81 :: c82 :: c83 :: c84 :: c85 :: c86 :: c87 :: c88 :: c89 :: c90 :: c91 :: c92 :: c93 :: c94 :: c95 :: c96 :: c97 :: c98 :: c99 :: c100 :: c101 :: c102 :: c103 :: c104 :: c105 :: c106 :: c107 :: c108 :: c109 :: c110 :: c111 :: c112 :: c113 :: c114 :: c115 :: c116 :: c117 :: c118 :: c119 :: c120 :: c121 :: c122 :: c123 :: c124 :: c125 :: c126 :: c127 :: c128 :: c129 :: c130 :: c131 :: c132 :: c133 :: c134 :: c135 :: c136 :: c137 :: c138 :: c139 :: c140 :: c141 :: c142 :: c143 :: c144 :: c145 :: c146 :: c147 :: c148 :: c149 :: c150 :: c151 :: c152 :: c153 :: c154 :: c155 :: c156 :: c157 :: c158 :: c159 :: c160 :: c161 :: c162 :: c163 :: c164 :: c165 :: c166 :: c167 :: c168 :: c169 :: c170 :: c171 :: c172 :: c173 :: c174 :: c175 :: c176 :: c177 :: c178 :: c179 :: c180 :: c181 :: c182 :: c183 :: c184 :: c185 :: c186 :: c187 :: c188 :: c189 :: c190 :: c191 :: c192 :: c193 :: c194 :: c195 :: c196 :: c197 :: c198 :: c199 :: c200 :: c201 :: c202 :: c203 :: c204 :: c205 :: c206 :: c207 :: c208 :: c209 :: c210 :: c211 :: c212 :: c213 :: c214 :: c215 :: c216 :: c217 :: c218 :: c219 :: c220 :: c221 :: c222 :: c223 :: c224 :: c225 :: c226 :: c227 :: c228 :: c229 :: c230 :: c231 :: c232 :: c233 :: c234 :: c235 :: c236 :: c237 :: c238 :: c239 :: c240 :: c241 :: c242 :: c243 :: c244 :: c245 :: c246 :: c247 :: c248 :: c249 :: c250 :: c251 :: c252 :: c253 :: c254 :: c255 :: c256 :: c257 :: c258 :: c259 :: u260 :: u261 :: u262 :: u263 :: u264 :: u265 :: u266 :: u267 :: u268 :: u269 :: u270 :: u271 :: u272 :: u273 :: u274 :: u275 :: u276 :: u277 :: u278 :: u279 :: u280 :: u281 :: u282 :: u283 :: u284 :: u285 :: u286 :: u287 :: u288 :: u289 :: u290 :: u291 :: u292 :: u293 :: u294 :: u295 :: u296 :: u297 :: u298 :: u299 :: u300 :: u301 :: u302 :: u303 :: u304 :: u305 :: u306 :: u307 :: u308 :: u309 :: u310 :: u311 :: u312 :: u313 :: u314 :: u315 :: u316 :: u317 :: u318 :: u319 :: u320 :: u321 :: u322 :: u323 :: u324 :: u325 :: u326 :: u327 :: u328 :: u329 :: u330 :: u331 :: u332 :: u333 :: u334 :: u335 :: u336 :: u337 :: u338 :: u339 :: u340 :: u341 :: u342 :: u343 :: u344 :: u345 :: u346 :: u347 :: u348 :: u349 :: u350 :: u351 :: u352 :: u353 :: u354 :: u355 :: u356 :: u357 :: u358 :: u359 :: u360 :: u361 :: u362 :: u363 :: u364 :: u365 :: u366 :: u367 :: u368 :: u369 :: u370 :: u371 :: u372 :: u373 :: u374 :: u375 :: u376 :: u377 :: u378 :: u379 :: u380 :: u381 :: u382 :: u383 :: u384 :: u385 :: u386 :: u387 :: u388 :: u389 :: u390 :: u391 :: u392 :: u393 :: u394 :: u395 :: u396 :: u397 :: u398 :: u399 :: u400 :: u401 :: u402 :: u403 :: u404 :: u405 :: u406 :: u407 :: u408 :: u409 :: u410 :: u411 :: u412 :: u413 :: u414 :: u415 :: []).toArray, []⟩ w') :
    Code.wp Try.prog (Code.loop lp5_2) Q0 ⟨(c0 :: c1 :: (Value.slice i2 ni d2) :: (Value.slice h3 m d3) :: c4 :: c5 :: c6 :: c7 :: c8 :: c9 :: c10 :: c11 :: c12 :: c13 :: c14 :: c15 :: c16 :: c17 :: u18 :: c19 :: c20 :: c21 :: c22 :: c23 :: c24 :: (Value.slice q1 m m) :: (Value.slice q2 m m) :: c27 :: c28 :: c29 :: (Value.int .i32 p) :: c31 :: c32 :: c33 :: (Value.slice (some ⟨bs, 0, none⟩) ni ni) :: (Value.int .i64 0) :: u36 :: u37 :: u38 :: u39 :: u40 :: c41 :: c42 :: c43 :: c44 :: c45 :: c46 :: c47 :: c48 :: c49 :: c50 :: c51 :: c52 :: c53 :: c54 :: c55 :: c56 :: c57 :: c58 :: c59 :: c60 :: c61 :: c62 :: c63 :: c64 :: c65 :: c66 :: c67 :: c68 :: c69 :: c70 :: c71 :: c72 :: c73 :: c74 :: c75 :: c76 :: c77 :: c78 :: c79 :: c80 :: c81 :: c82 :: c83 :: c84 :: c85 :: c86 :: c87 :: c88 :: c89 :: c90 :: c91 :: c92 :: c93 :: c94 :: c95 :: c96 :: c97 :: c98 :: c99 :: c100 :: c101 :: c102 :: c103 :: c104 :: c105 :: c106 :: c107 :: c108 :: c109 :: c110 :: c111 :: c112 :: c113 :: c114 :: c115 :: c116 :: c117 :: c118 :: c119 :: c120 :: c121 :: c122 :: c123 :: c124 :: c125 :: c126 :: c127 :: c128 :: c129 :: c130 :: c131 :: c132 :: c133 :: c134 :: c135 :: c136 :: c137 :: c138 :: c139 :: c140 :: c141 :: c142 :: c143 :: c144 :: c145 :: c146 :: c147 :: c148 :: c149 :: c150 :: c151 :: c152 :: c153 :: c154 :: c155 :: c156 :: c157 :: c158 :: c159 :: c160 :: c161 :: c162 :: c163 :: c164 :: c165 :: c166 :: c167 :: c168 :: c169 :: c170 :: c171 :: c172 :: c173 :: c174 :: c175 :: c176 :: c177 :: c178 :: c179 :: c180 :: c181 :: c182 :: c183 :: c184 :: c185 :: c186 :: c187 :: c188 :: c189 :: c190 :: c191 :: c192 :: c193 :: c194 :: c195 :: c196 :: c197 :: c198 :: c199 :: c200 :: c201 :: c202 :: c203 :: c204 :: c205 :: c206 :: c207 :: c208 :: c209 :: c210 :: c211 :: c212 :: c213 :: c214 :: c215 :: c216 :: c217 :: c218 :: c219 :: c220 :: c221 :: c222 :: c223 :: c224 :: c225 :: c226 :: c227 :: c228 :: c229 :: c230 :: c231 :: c232 :: c233 :: c234 :: c235 :: c236 :: c237 :: c238 :: c239 :: c240 :: c241 :: c242 :: c243 :: c244 :: c245 :: c246 :: c247 :: c248 :: c249 :: c250 :: c251 :: c252 :: c253 :: c254 :: c255 :: c256 :: c257 :: c258 :: c259 :: u260 :: u261 :: u262 :: u263 :: u264 :: u265 :: u266 :: u267 :: u268 :: u269 :: u270 :: u271 :: u272 :: u273 :: u274 :: u275 :: u276 :: u277 :: u278 :: u279 :: u280 :: u281 :: u282 :: u283 :: u284 :: u285 :: u286 :: u287 :: u288 :: u289 :: u290 :: u291 :: u292 :: u293 :: u294 :: u295 :: u296 :: u297 :: u298 :: u299 :: u300 :: u301 :: u302 :: u303 :: u304 :: u305 :: u306 :: u307 :: u308 :: u309 :: u310 :: u311 :: u312 :: u313 :: u314 :: u315 :: u316 :: u317 :: u318 :: u319 :: u320 :: u321 :: u322 :: u323 :: u324 :: u325 :: u326 :: u327 :: u328 :: u329 :: u330 :: u331 :: u332 :: u333 :: u334 :: u335 :: u336 :: u337 :: u338 :: u339 :: u340 :: u341 :: u342 :: u343 :: u344 :: u345 :: u346 :: u347 :: u348 :: u349 :: u350 :: u351 :: u352 :: u353 :: u354 :: u355 :: u356 :: u357 :: u358 :: u359 :: u360 :: u361 :: u362 :: u363 :: u364 :: u365 :: u366 :: u367 :: u368 :: u369 :: u370 :: u371 :: u372 :: u373 :: u374 :: u375 :: u376 :: u377 :: u378 :: u379 :: u380 :: u381 :: u382 :: u383 :: u384 :: u385 :: u386 :: u387 :: u388 :: u389 :: u390 :: u391 :: u392 :: u393 :: u394 :: u395 :: u396 :: u397 :: u398 :: u399 :: u400 :: u401 :: u402 :: u403 :: u404 :: u405 :: u406 :: u407 :: u408 :: u409 :: u410 :: u411 :: u412 :: u413 :: u414 :: u415 :: []).toArray, []⟩ wr := by
  have HS := hide hS
  have HLL := hide hLL
  have HG := hide hG
  have HOth := hide hOth
  have HHit := hide hHit
  have HOK := hide hOK
  have HZ := hide hZ
  have HQ := hide hQ
  clear hLL hG hOth hHit hOK hZ hQ
  clear hS
  let bp0 : Exit → Act → World → Prop := bodyPost Try.prog Try.f5 (fun _ _ => True)
  refine Code.wp_mono (Q := NoPanic Q0) (fun e a w h => NoPanic.imp e a w h) ?_
  conv => arg 2; arg 1; whnf
  go_loopw [35] (fun s wr => ∃ (i : Nat) (S : Nat → Int), U2 w0 ni m bs p s wr i S) (fun s _ => m - (intOf s).toNat)
  case atStart => exact ⟨0, _, HQ.out⟩
  case round =>
    obtain ⟨i, S, hR⟩ := hrel
    have HR := hide hR
    obtain rfl := hR.s
    have hi := hR.hp
    clear hR HQ
    by_cases hlt : i < m
    · obtain ⟨b0, o0, rfl, hb0, g0w⟩ := slCell HS.out.ls.hd hlt
      obtain ⟨b1, o1, rfl, hb1, g1w⟩ := slCell HS.out.t1.hd hlt
      obtain ⟨b2, o2, rfl, hb2, g2w⟩ := slCell HS.out.t2.hd hlt
      obtain ⟨ll, hll⟩ : ∃ ll, la i = ll := ⟨_, rfl⟩
      obtain ⟨kk, hkk⟩ : ∃ kk, l1 i = kk := ⟨_, rfl⟩
      have hzz := HZ.out i hlt
      simp only [hll] at g0w
      simp only [hkk] at g1w
      rw [hll, hkk] at hzz
      have g0 := (HR.out.bel.cell (p := ⟨b0, o0 + i, none⟩) hb0).trans g0w
      have g1 := (HR.out.bel.cell (p := ⟨b1, o1 + i, none⟩) hb1).trans g1w
      have g2 := (HR.out.bel.cell (p := ⟨b2, o2 + i, none⟩) hb2).trans g2w
      have Hll := hide hll
      have HZZ := hide hzz
      have Hg1w := hide g1w
      have hLi := HLL.out i hlt
      have lbs := HR.out.blk.lt
      clear hll hkk hzz g0w g1w g2w
      go_upto_region 48 with fail
      go_cut [290] (fun c w' => c = .bool false ∧ ∃ k, w' = wr.drewN k)
      case first =>
        cases ll with
        | none =>
          obtain rfl := HZZ.out.2 rfl
          have n1 := fun w => Lib.run_eql_slice_nil (P := Try.prog) w 35 21 none (L1 i) (k1 i) 0 0 Try.underlying35
          have n2 := fun w => Lib.run_eql_slice_nil (P := Try.prog) w 64 66 none (L i) (lc i) 0 0 Try.underlying64
          as_aux_lemma =>
            go_wp2
            go_quiet (fail)
            go_wp2
            go_meet
            case rel => exact ⟨by simp, _, rfl⟩
        | some y =>
          obtain ⟨y1, rfl⟩ : ∃ y1, kk = some y1 := by
            cases kk with
            | none => have := HZZ.out.1 rfl; cases this
            | some y1 => exact ⟨y1, rfl⟩
          have n1 := fun w => Lib.run_eql_slice_nil (P := Try.prog) w 35 21 (some y1) (L1 i) (k1 i) 0 0 Try.underlying35
          have n2 := fun w => Lib.run_eql_slice_nil (P := Try.prog) w 64 66 (some y) (L i) (lc i) 0 0 Try.underlying64
          as_aux_lemma =>
            go_wp2
            go_quiet (fail)
            go_wp2
            go_meet
            case rel => exact ⟨by simp, _, rfl⟩
      obtain ⟨rfl, kd, rfl⟩ := hcut
      go_step
      by_cases hip : (i : Int) = p
      · subst hip
        have hh := HHit.out i rfl
        have HL1 := hide hh.1
        have HRw := hide hh.2
        have HOKi := hide (HOK.out i rfl)
        have HZ0 := hide (HR.out.z (Int.le_refl _))
        clear hh
        have g4w := Hg1w.out
        rw [HL1.out] at g4w
        have Hg4w := hide g4w
        clear g4w g1
        go_wp2
        refine l5_4 (w0 := w0) (d3 := 0) hni hm HS.out hlt hLi Hll.out hbs HG.out HOKi.out HL1.out HRw.out ⟨rfl, rfl, by omega, HR.out.blk.drewN _, fun x hx => by rw [HZ0.out x hx]; rfl, below_drewN HR.out.bel _⟩ ?_
        intros
        rename_i S4 w4 hq
        have HQ4 := hide hq
        have g4 := (hq.bel.cell (p := ⟨b1, o1 + i, none⟩) hb1).trans Hg4w.out
        clear hq
        as_aux_lemma =>
          go_step
          go_wp2
          go_roundw
          case rel => exact ⟨i + 1, _, by omega, by go_num, HQ4.out.blk, fun h => by omega, HQ4.out.bel⟩
          case measure => simp [intOf]; omega
      · have e5 : ((i : Int) != p) = true := by simpa using hip
        have ho := HOth.out i hip
        have HL1 := hide ho.1
        have HF1 := hide ho.2
        have HIP := hide hip
        clear hip ho
        rw [HL1.out] at g1
        have HBd := hide (below_drewN HR.out.bel kd)
        go_wp2
        refine l5_3 (w0 := wr.drewN kd) (d2 := 0) (d3 := 0) hni hm (HS.out.below HBd.out) hlt hLi Hll.out HL1.out HF1.out ⟨by omega, rfl, Below.refl _ _⟩ ?_
        intros
        rename_i w4 hq
        have HQ4 := hide hq
        clear hq
        as_aux_lemma =>
          go_step
          go_wp2
          go_roundw
          case rel => exact ⟨i + 1, _, by omega, by go_num, (HR.out.blk.drewN kd).below HQ4.out.bel lbs, fun h => HR.out.z (by omega), HBd.out.trans (HQ4.out.bel.mono HBd.out.size)⟩
          case measure => simp [intOf]; omega
    · obtain rfl : i = m := by omega
      as_aux_lemma =>
        go_wp2
        first | exact hexit HR.out | exact ⟨_, HR.out⟩ | exact HR.out
end Go.Proofs.Qxb6605516a
