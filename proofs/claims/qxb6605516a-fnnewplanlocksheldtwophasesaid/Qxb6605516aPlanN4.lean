import Derived.Test.Qxb6605516aPlanTk
import Derived.Test.Qxb6605516aPlanL
namespace Go.Proofs.Qxb6605516a
open Go.RowKit
set_option linter.unusedVariables false

set_option maxRecDepth 100000 in
set_option maxHeartbeats 8000000 in
theorem np_4 {c2 c3 c4 c7 c9 c10 c13 c15 c16 c17 c21 c22 c23 c24 c25 c26 c27 c28 c29 c30 c31 c32 c33 c34 c35 c36 c37 c38 c39 c40 c41 c42 c43 c44 c45 c46 c47 c48 c49 c50 c51 c52 c53 c54 c55 c56 c57 c58 c59 c60 c61 c62 c63 c64 c65 c66 c67 c68 c69 c70 c71 c72 c73 c74 c75 c76 c77 c78 c79 c80 c81 c82 c83 c84 c85 c86 c87 c88 c89 c90 c91 c92 c93 c94 c95 c96 c97 c98 c99 c100 c101 c102 c103 c104 c105 c106 c107 c108 c109 c110 c111 c112 c113 c114 c115 c116 c117 c118 c119 c120 c121 c122 c123 c124 c125 c126 c127 c128 c129 c130 c131 c132 c133 c134 c135 c136 c137 c138 c139 c140 c141 c142 c143 c144 c145 c146 c147 c148 c149 c150 c151 c152 c153 c154 c155 c156 c157 c158 c159 c160 c161 c162 c163 c164 c165 c166 c167 c168 c169 c170 c171 c172 c173 c174 c175 c176 c177 c178 c179 c180 c181 c182 c183 c184 c185 c186 c187 c188 c189 c190 c191 c192 c193 c194 c195 c196 c197 c198 c199 c200 c201 c202 c290 c291 c292 c293 c294 c295 c296 c297 c298 c299 c300 c301 c302 c303 c304 c305 u20 u203 u204 u205 u206 u207 u208 u209 u210 u211 u212 u213 u214 u215 u216 u217 u218 u219 u220 u221 u222 u223 u224 u225 u226 u227 u228 u229 u230 u231 u232 u233 u234 u235 u236 u237 u238 u239 u240 u241 u242 u243 u244 u245 u246 u247 u248 u249 u250 u251 u252 u253 u254 u255 u256 u257 u258 u259 u260 u261 u262 u263 u264 u265 u266 u267 u268 u269 u270 u271 u272 u273 u274 u275 u276 u277 u278 u279 u280 u281 u282 u283 u284 u285 u286 u287 u288 u289 : Value} {Q0 : Exit → Act → World → Prop} {w wr : World} {v : Int} {b : Bool} {n nt ni pl md af nx fi la fo lo cl cf bh : Nat} {K T X F L : Nat → Int} {t : Nat} {ha : Option Addr} {hc : Nat} {ta : Option Addr} {tc : Nat} {ia : Option Addr} {ic : Nat} {l : ByteArray} {LO M CF A0 N0 FO0 CI0 CM0 : Nat → Int} {len0 : Nat} {lp h0 : Int} (hn : n ≤ 4096) (hnt : nt ≤ 4096) (hni : ni ≤ 4096) (hd : Dom n nt ni K T X v) (hh : Hist w bh n nt ni K T X ha hc ta tc ia ic l) (hb : b = true ↔ v = 3)
    (hl2 : L2 K T X n v t ni (chd K T n n t) LO lp M)
    (h4 : R4 w v n nt ni pl md af nx fi la fo lo cl cf K T X F L LO M CF lp t (.int .i32 (-1)) (.int .i32 h0) wr [] (chd K T n n t) h0 A0 N0 FO0 CI0 CM0 len0 (-1))
    (hexit : ∀ {u20 u203 u204 u205 u206 u207 u208 u209 u210 u211 u212 u213 u214 u215 u216 u217 u218 u219 u220 u221 u222 u223 u224 u225 u226 u227 u228 u229 u230 u231 u232 u233 u234 u235 u236 u237 u238 u239 u240 u241 u242 u243 u244 u245 u246 u247 u248 u249 u250 u251 u252 u253 u254 u255 u256 u257 u258 u259 u260 u261 u262 u263 u264 u265 u266 u267 u268 u269 u270 u271 u272 u273 u274 u275 u276 u277 u278 u279 u280 u281 u282 u283 u284 u285 u286 u287 u288 u289 : Value} {tail : Int} {dn : List Nat} {A N FO CI CM : Nat → Int} {len : Nat} {w' : World}, R4 w v n nt ni pl md af nx fi la fo lo cl cf K T X F L LO M CF lp t (.int .i32 tail) (.int .i32 (-1)) w' dn [] (-1) A N FO CI CM len tail → Q0 (.exit 7) ⟨((Value.pointer (some ⟨bh, 0, none⟩)) :: (Value.int .u8 v) :: c2 :: c3 :: c4 :: (Value.pointer (some ⟨pl, 0, none⟩)) :: (Value.bool b) :: c7 :: (Value.slice (some ⟨la, 0, none⟩) n n) :: c9 :: c10 :: (Value.slice (some ⟨fo, 0, none⟩) ni ni) :: (Value.slice (some ⟨lo, 0, none⟩) ni ni) :: c13 :: (Value.int .i32 lp) :: c15 :: c16 :: c17 :: (Value.int .i32 tail) :: (Value.int .i32 (-1)) :: u20 :: c21 :: c22 :: c23 :: c24 :: c25 :: c26 :: c27 :: c28 :: c29 :: c30 :: c31 :: c32 :: c33 :: c34 :: c35 :: c36 :: c37 :: c38 :: c39 :: c40 :: c41 :: c42 :: c43 :: c44 :: c45 :: c46 :: c47 :: c48 :: c49 :: c50 :: c51 :: c52 :: c53 :: c54 :: c55 :: c56 :: c57 :: c58 :: c59 :: c60 :: c61 :: c62 :: c63 :: c64 :: c65 :: c66 :: c67 :: c68 :: c69 :: c70 :: c71 :: c72 :: c73 :: c74 :: c75 :: c76 :: c77 :: c78 :: c79 :: c80 :: c81 :: c82 :: c83 :: c84 :: c85 :: c86 :: c87 :: c88 :: c89 :: c90 :: c91 :: c92 :: c93 :: c94 :: c95 :: c96 :: c97 :: c98 :: c99 :: c100 :: c101 :: c102 :: c103 :: c104 :: c105 :: c106 :: c107 :: c108 :: c109 :: c110 :: c111 :: c112 :: c113 :: c114 :: c115 :: c116 :: c117 :: c118 :: c119 :: c120 :: c121 :: c122 :: c123 :: c124 :: c125 :: c126 :: c127 :: c128 :: c129 :: c130 :: c131 :: c132 :: c133 :: c134 :: c135 :: c136 :: c137 :: c138 :: c139 :: c140 :: c141 :: c142 :: c143 :: c144 :: c145 :: c146 :: c147 :: c148 :: c149 :: c150 :: c151 :: c152 :: c153 :: c154 :: c155 :: c156 :: c157 :: c158 :: c159 :: c160 :: c161 :: c162 :: c163 :: c164 :: c165 :: c166 :: c167 :: c168 :: c169 :: c170 :: c171 :: c172 :: c173 :: c174 :: c175 :: c176 :: c177 :: c178 :: c179 :: c180 :: c181 :: c182 :: c183 :: c184 :: c185 :: c186 :: c187 :: c188 :: c189 :: c190 :: c191 :: c192 :: c193 :: c194 :: c195 :: c196 :: c197 :: c198 :: c199 :: c200 :: c201 :: c202 :: u203 :: u204 :: u205 :: u206 :: u207 :: u208 :: u209 :: u210 :: u211 :: u212 :: u213 :: u214 :: u215 :: u216 :: u217 :: u218 :: u219 :: u220 :: u221 :: u222 :: u223 :: u224 :: u225 :: u226 :: u227 :: u228 :: u229 :: u230 :: u231 :: u232 :: u233 :: u234 :: u235 :: u236 :: u237 :: u238 :: u239 :: u240 :: u241 :: u242 :: u243 :: u244 :: u245 :: u246 :: u247 :: u248 :: u249 :: u250 :: u251 :: u252 :: u253 :: u254 :: u255 :: u256 :: u257 :: u258 :: u259 :: u260 :: u261 :: u262 :: u263 :: u264 :: u265 :: u266 :: u267 :: u268 :: u269 :: u270 :: u271 :: u272 :: u273 :: u274 :: u275 :: u276 :: u277 :: u278 :: u279 :: u280 :: u281 :: u282 :: u283 :: u284 :: u285 :: u286 :: u287 :: u288 :: u289 :: c290 :: c291 :: c292 :: c293 :: c294 :: c295 :: c296 :: c297 :: c298 :: c299 :: c300 :: c301 :: c302 :: c303 :: c304 :: c305 :: []).toArray, []⟩ w') :
    Code.wp Try.prog (Code.loop lp38_4) Q0 ⟨((Value.pointer (some ⟨bh, 0, none⟩)) :: (Value.int .u8 v) :: c2 :: c3 :: c4 :: (Value.pointer (some ⟨pl, 0, none⟩)) :: (Value.bool b) :: c7 :: (Value.slice (some ⟨la, 0, none⟩) n n) :: c9 :: c10 :: (Value.slice (some ⟨fo, 0, none⟩) ni ni) :: (Value.slice (some ⟨lo, 0, none⟩) ni ni) :: c13 :: (Value.int .i32 lp) :: c15 :: c16 :: c17 :: (Value.int .i32 (-1)) :: (Value.int .i32 h0) :: u20 :: c21 :: c22 :: c23 :: c24 :: c25 :: c26 :: c27 :: c28 :: c29 :: c30 :: c31 :: c32 :: c33 :: c34 :: c35 :: c36 :: c37 :: c38 :: c39 :: c40 :: c41 :: c42 :: c43 :: c44 :: c45 :: c46 :: c47 :: c48 :: c49 :: c50 :: c51 :: c52 :: c53 :: c54 :: c55 :: c56 :: c57 :: c58 :: c59 :: c60 :: c61 :: c62 :: c63 :: c64 :: c65 :: c66 :: c67 :: c68 :: c69 :: c70 :: c71 :: c72 :: c73 :: c74 :: c75 :: c76 :: c77 :: c78 :: c79 :: c80 :: c81 :: c82 :: c83 :: c84 :: c85 :: c86 :: c87 :: c88 :: c89 :: c90 :: c91 :: c92 :: c93 :: c94 :: c95 :: c96 :: c97 :: c98 :: c99 :: c100 :: c101 :: c102 :: c103 :: c104 :: c105 :: c106 :: c107 :: c108 :: c109 :: c110 :: c111 :: c112 :: c113 :: c114 :: c115 :: c116 :: c117 :: c118 :: c119 :: c120 :: c121 :: c122 :: c123 :: c124 :: c125 :: c126 :: c127 :: c128 :: c129 :: c130 :: c131 :: c132 :: c133 :: c134 :: c135 :: c136 :: c137 :: c138 :: c139 :: c140 :: c141 :: c142 :: c143 :: c144 :: c145 :: c146 :: c147 :: c148 :: c149 :: c150 :: c151 :: c152 :: c153 :: c154 :: c155 :: c156 :: c157 :: c158 :: c159 :: c160 :: c161 :: c162 :: c163 :: c164 :: c165 :: c166 :: c167 :: c168 :: c169 :: c170 :: c171 :: c172 :: c173 :: c174 :: c175 :: c176 :: c177 :: c178 :: c179 :: c180 :: c181 :: c182 :: c183 :: c184 :: c185 :: c186 :: c187 :: c188 :: c189 :: c190 :: c191 :: c192 :: c193 :: c194 :: c195 :: c196 :: c197 :: c198 :: c199 :: c200 :: c201 :: c202 :: u203 :: u204 :: u205 :: u206 :: u207 :: u208 :: u209 :: u210 :: u211 :: u212 :: u213 :: u214 :: u215 :: u216 :: u217 :: u218 :: u219 :: u220 :: u221 :: u222 :: u223 :: u224 :: u225 :: u226 :: u227 :: u228 :: u229 :: u230 :: u231 :: u232 :: u233 :: u234 :: u235 :: u236 :: u237 :: u238 :: u239 :: u240 :: u241 :: u242 :: u243 :: u244 :: u245 :: u246 :: u247 :: u248 :: u249 :: u250 :: u251 :: u252 :: u253 :: u254 :: u255 :: u256 :: u257 :: u258 :: u259 :: u260 :: u261 :: u262 :: u263 :: u264 :: u265 :: u266 :: u267 :: u268 :: u269 :: u270 :: u271 :: u272 :: u273 :: u274 :: u275 :: u276 :: u277 :: u278 :: u279 :: u280 :: u281 :: u282 :: u283 :: u284 :: u285 :: u286 :: u287 :: u288 :: u289 :: c290 :: c291 :: c292 :: c293 :: c294 :: c295 :: c296 :: c297 :: c298 :: c299 :: c300 :: c301 :: c302 :: c303 :: c304 :: c305 :: []).toArray, []⟩ wr := by
  have HD := hide hd
  have HH := hide hh
  have Hb := hide hb
  have lh := hh.blk.lt
  clear hd hh hb
  let bp0 : Exit → Act → World → Prop := bodyPost Try.prog Try.f38 (fun _ _ => True)
  have H4 := hide h4
  have HL2 := hide hl2
  clear h4 hl2
  refine Code.wp_mono (Q := NoPanic Q0) (fun e a w h => NoPanic.imp e a w h) ?_
  conv => arg 2; arg 1; whnf
  go_loopw [18, 19] (fun s1 s2 wr => ∃ (dn r : List Nat) (h : Int) (A N FO CI CM : Nat → Int) (len : Nat) (tail : Int), R4 w v n nt ni pl md af nx fi la fo lo cl cf K T X F L LO M CF lp t s1 s2 wr dn r h A N FO CI CM len tail) (fun _ s2 _ => (8192 - (intOf s2 + 8192) % 8192).toNat)
  case atStart => exact ⟨_, _, _, _, _, _, _, _, _, _, H4.out⟩
  case round =>
    obtain ⟨dn4, r, h, A, N, FO, CI, CM, len, tail, hR4⟩ := hrel
    have HR4 := hide hR4
    obtain rfl := hR4.s1
    obtain rfl := hR4.s2
    clear hR4 H4
    cases r with
    | nil =>
      obtain rfl : h = -1 := HR4.out.isl
      as_aux_lemma =>
        go_wp2
        first | exact hexit HR4.out | exact ⟨_, _, _, _, _, _, _, _, HR4.out⟩ | exact HR4.out
    | cons p r =>
      obtain rfl : h = (p : Int) := HR4.out.isl.1
      have hpr := HR4.out.at_.run
      have hpn : p < n := hpr.1.1
      have hdx := HD.out.rw p hpn hpr.1.2.1
      obtain ⟨x, hx⟩ := Int.eq_ofNat_of_zero_le hdx.2.2.1
      have hxn : x < ni := by omega
      clear hdx hpr
      have HX := hide hx
      have HH' := HH.out.below HR4.out.mem.bel
      obtain ⟨k0, -, -⟩ := HH'.cells
      rcases HH'.sl with h0 | ⟨bo, off, rfl, hbl, hcl⟩
      · omega
      have c2 := hcl (p * 3 + 2) (by omega)
      rw [opCell2, ← Nat.add_assoc, hx] at c2
      clear hcl HH' hx
      go_upto_region 38 with fail
      go_cut [20] (fun c w' => c = .int .i32 x ∧ w' = wr)
      case first =>
        as_aux_lemma =>
          go_wp2
          go_meet
          case rel => exact ⟨rfl, rfl⟩
      obtain ⟨rfl, rfl⟩ := hcut
      clear c2 k0
      have HLp := hide (HR4.out.at_.link HR4.out.isl.2)
      have q1 := HR4.out.mem.bfo.rcell x hxn
      have q2 := HR4.out.mem.bfo.free
      obtain ⟨q, hq⟩ : ∃ q, FO x = q := ⟨_, rfl⟩
      rw [hq] at q1
      have HQ := hide hq
      clear hq
      by_cases h0 : q = (p : Int)
      · subst h0
        go_upto_region 40 with fail
        go_cut [] (fun w' => NP w w' v n nt ni pl md af nx fi la fo lo cl cf M A N F L (upd FO x (-1)) LO CI CM CF len)
        case first =>
          as_aux_lemma =>
            go_wp2
            go_meet
            case rel => exact HR4.out.mem.set_fo x (-1)
        have HN4 := hide hcut
        have HF := hide (HR4.out.p2.got HR4.out.at_ HX.out hxn HQ.out).1
        clear hcut q1 q2
        go_step; go_step
        go_cut [] (fun w' => ∃ (CI2 CM2 : Nat → Int) (len2 : Nat), NP w w' v n nt ni pl md af nx fi la fo lo cl cf M A N F L (upd FO x (-1)) LO CI2 CM2 CF len2 ∧ (v = 3 → CInv K T X n (fun g => (Run K T n g ∧ T g < (t : Int)) ∨ g ∈ dn4 ++ [p]) CI2 CM2 len2))
        case first =>
          cases b
          · have e3 : ¬ v = 3 := fun e => by have := Hb.out.2 e; simp at this
            have E3 := hide e3
            clear e3
            as_aux_lemma =>
              go_wp2
              go_meet
              case rel => exact ⟨_, _, _, HN4.out, fun e => absurd e E3.out⟩
          · have e3 : v = 3 := Hb.out.1 rfl
            have E3 := hide e3
            clear e3
            have hC := HR4.out.ci E3.out
            have hroom := (hC.room HR4.out.at_ HF.out).1
            have HC := hide hC
            clear hC
            have m0 : wc.cell? ⟨pl, 0, none⟩ = some (.slice (some ⟨md, 0, none⟩) n n) := HN4.out.bpl.cell 0
            have m3 : wc.cell? ⟨pl, 3, none⟩ = some (.slice (some ⟨cl, 0, none⟩) len n) := (HN4.out.bpl.cell 3).trans (by rw [E3.out, csV3]; rfl)
            have m5 := HN4.out.bmd.rcell p hpn
            have f0 := HN4.out.bpl.free
            have f1 := (HN4.out.bcl E3.out).free
            have s0 := (HN4.out.bcl E3.out).fcell (len * 2) (by omega)
            have s1 := (HN4.out.bcl E3.out).fcell (len * 2 + 1) (by omega)
            have t0 := HN4.out.bpl.lt
            have t1 := HN4.out.bmd.lt
            have t2 := (HN4.out.bcl E3.out).lt
            have n1 : cl ≠ pl := nd_ne (i := 8) (j := 0) HN4.out.nd rfl rfl (by decide)
            have n2 : cl ≠ md := nd_ne (i := 8) (j := 1) HN4.out.nd rfl rfl (by decide)
            have n3 : pl ≠ md := nd_ne (i := 0) (j := 1) HN4.out.nd rfl rfl (by decide)
            have n1' := n1.symm
            have n2' := n2.symm
            have n3' := n3.symm
            have hsc : ∀ (W : World) (i : Nat), (W.setCells cl (len * 2) [.int .i32 (x : Int), .int .u8 (M p)]).cell? ⟨pl, i, none⟩ = W.cell? ⟨pl, i, none⟩ := fun W i => World.cell?_setCells_out cl _ _ W _ (fun e _ => absurd e n1')
            have hsf : ∀ (W : World) (a : Addr), (W.setCells cl (len * 2) [.int .i32 (x : Int), .int .u8 (M p)]).frozen? a = W.frozen? a := fun W a => World.frozen?_setCells cl _ _ W a
            obtain ⟨i97, hi97, hs97⟩ := Option.map_eq_some_iff.1 info97
            as_aux_lemma =>
              go_wp2
              refine wp_region_e (n := 18) (S := fun W => W.cell? ⟨pl, 0, none⟩ = some (.slice (some ⟨md, 0, none⟩) n n) ∧ W.cell? ⟨pl, 3, none⟩ = some (.slice (some ⟨cl, 0, none⟩) len n) ∧ W.cell? ⟨md, p, none⟩ = some (.int .u8 (M p))) (by kernel_rfl) ⟨m0, m3, m5⟩ (fun hHeld => ?_)
              refine wpAnyE_take (i := 0) (v := ?v0) (by simp only [List.getElem?_toArray, List.getElem?_cons_zero]; rfl) (by kernel_rfl) (fun _ _ _ h => h) (Or.inl ⟨by rfl, ?hy0⟩) hHeld ?rest0
              case hy0 => first | (intro w hSw; (try dsimp only at hSw); go_simp; done) | (intro w hSw; (try dsimp only at hSw); go_simp; with_reducible rfl)
              simp only [Act.put, List.setIfInBounds_toArray, List.set_cons_zero, List.set_cons_succ]
              refine wpAnyE_take (i := 1) (v := ?v1) (by simp only [List.getElem?_toArray, List.getElem?_cons_succ, List.getElem?_cons_zero]; rfl) (by kernel_rfl) (fun _ _ _ h => h) (Or.inl ⟨by rfl, ?hy1⟩) hHeld ?rest1
              case hy1 => first | (intro w hSw; (try dsimp only at hSw); go_simp; done) | (intro w hSw; (try dsimp only at hSw); go_simp; with_reducible rfl)
              simp only [Act.put, List.setIfInBounds_toArray, List.set_cons_zero, List.set_cons_succ]
              refine wpAnyE_take (i := 2) (v := ?v2) (by simp only [List.getElem?_toArray, List.getElem?_cons_succ, List.getElem?_cons_zero]; rfl) (by kernel_rfl) (fun _ _ _ h => h) (Or.inl ⟨by rfl, ?hy2⟩) hHeld ?rest2
              case hy2 => first | (intro w hSw; (try dsimp only at hSw); go_simp; done) | (intro w hSw; (try dsimp only at hSw); go_simp; with_reducible rfl)
              simp only [Act.put, List.setIfInBounds_toArray, List.set_cons_zero, List.set_cons_succ]
              refine wpAnyE_take (i := 3) (v := ?v3) (by simp only [List.getElem?_toArray, List.getElem?_cons_succ, List.getElem?_cons_zero]; rfl) (by kernel_rfl) (fun _ _ _ h => h) (Or.inl ⟨by rfl, ?hy3⟩) hHeld ?rest3
              case hy3 => first | (intro w hSw; (try dsimp only at hSw); go_simp; done) | (intro w hSw; (try dsimp only at hSw); go_simp; with_reducible rfl)
              simp only [Act.put, List.setIfInBounds_toArray, List.set_cons_zero, List.set_cons_succ]
              refine wpAnyE_take (i := 4) (v := ?v4) (by simp only [List.getElem?_toArray, List.getElem?_cons_succ, List.getElem?_cons_zero]; rfl) (by kernel_rfl) (fun _ _ _ h => h) (Or.inl ⟨by rfl, ?hy4⟩) hHeld ?rest4
              case hy4 => first | (intro w hSw; (try dsimp only at hSw); go_simp; done) | (intro w hSw; (try dsimp only at hSw); go_simp; with_reducible rfl)
              simp only [Act.put, List.setIfInBounds_toArray, List.set_cons_zero, List.set_cons_succ]
              refine wpAnyE_take (i := 5) (v := ?v5) (by simp only [List.getElem?_toArray, List.getElem?_cons_succ, List.getElem?_cons_zero]; rfl) (by kernel_rfl) (fun _ _ _ h => h) (Or.inl ⟨by rfl, ?hy5⟩) hHeld ?rest5
              case hy5 => first | (intro w hSw; (try dsimp only at hSw); go_simp; done) | (intro w hSw; (try dsimp only at hSw); go_simp; with_reducible rfl)
              simp only [Act.put, List.setIfInBounds_toArray, List.set_cons_zero, List.set_cons_succ]
              refine wpAnyE_take (i := 6) (v := ?v6) (by simp only [List.getElem?_toArray, List.getElem?_cons_succ, List.getElem?_cons_zero]; rfl) (by kernel_rfl) (fun _ _ _ h => h) (Or.inl ⟨by rfl, ?hy6⟩) hHeld ?rest6
              case hy6 => first | (intro w hSw; (try dsimp only at hSw); go_simp; done) | (intro w hSw; (try dsimp only at hSw); go_simp; with_reducible rfl)
              simp only [Act.put, List.setIfInBounds_toArray, List.set_cons_zero, List.set_cons_succ]
              refine wpAnyE_take (i := 7) (v := ?v7) (by simp only [List.getElem?_toArray, List.getElem?_cons_succ, List.getElem?_cons_zero]; rfl) (by kernel_rfl) (fun _ _ _ h => h) (Or.inl ⟨by rfl, ?hy7⟩) hHeld ?rest7
              case hy7 => first | (intro w hSw; (try dsimp only at hSw); go_simp; done) | (intro w hSw; (try dsimp only at hSw); go_simp; with_reducible rfl)
              simp only [Act.put, List.setIfInBounds_toArray, List.set_cons_zero, List.set_cons_succ]
              refine wpAnyE_take (i := 8) (v := ?v8) (by simp only [List.getElem?_toArray, List.getElem?_cons_succ, List.getElem?_cons_zero]; rfl) (by kernel_rfl) (fun _ _ _ h => h) (Or.inl ⟨by rfl, ?hy8⟩) hHeld ?rest8
              case hy8 => first | (intro w hSw; (try dsimp only at hSw); go_simp; done) | (intro w hSw; (try dsimp only at hSw); go_simp; with_reducible rfl)
              simp only [Act.put, List.setIfInBounds_toArray, List.set_cons_zero, List.set_cons_succ]
              refine wpAnyE_take (i := 9) (v := ?v9) (by simp only [List.getElem?_toArray, List.getElem?_cons_succ, List.getElem?_cons_zero]; rfl) (by kernel_rfl) (fun _ _ _ h => h) (Or.inl ⟨by rfl, ?hy9⟩) hHeld ?rest9
              case hy9 => first | (intro w hSw; (try dsimp only at hSw); go_simp; done) | (intro w hSw; (try dsimp only at hSw); go_simp; with_reducible rfl)
              simp only [Act.put, List.setIfInBounds_toArray, List.set_cons_zero, List.set_cons_succ]
              refine wpAnyE_take (i := 10) (v := ?v10) (by simp only [List.getElem?_toArray, List.getElem?_cons_succ, List.getElem?_cons_zero]; rfl) (by kernel_rfl) (fun _ _ _ h => h) (Or.inl ⟨by rfl, ?hy10⟩) hHeld ?rest10
              case hy10 => first | (intro w hSw; (try dsimp only at hSw); go_simp; done) | (intro w hSw; (try dsimp only at hSw); go_simp; with_reducible rfl)
              simp only [Act.put, List.setIfInBounds_toArray, List.set_cons_zero, List.set_cons_succ]
              refine wpAnyE_take (i := 11) (v := ?v11) (by simp only [List.getElem?_toArray, List.getElem?_cons_succ, List.getElem?_cons_zero]; rfl) (by kernel_rfl) (fun _ _ _ h => h) (Or.inl ⟨by rfl, ?hy11⟩) hHeld ?rest11
              case hy11 => first | (intro w hSw; (try dsimp only at hSw); go_simp; done) | (intro w hSw; (try dsimp only at hSw); go_simp; with_reducible rfl)
              simp only [Act.put, List.setIfInBounds_toArray, List.set_cons_zero, List.set_cons_succ]
              refine wpAnyE_take (i := 12) (v := ?v12) (by simp only [List.getElem?_toArray, List.getElem?_cons_succ, List.getElem?_cons_zero]; rfl) (by kernel_rfl) (fun _ _ _ h => h) (Or.inl ⟨by rfl, ?hy12⟩) hHeld ?rest12
              case hy12 => first | (intro w hSw; (try dsimp only at hSw); go_simp; done) | (intro w hSw; (try dsimp only at hSw); go_simp; with_reducible rfl)
              simp only [Act.put, List.setIfInBounds_toArray, List.set_cons_zero, List.set_cons_succ]
              refine wpAnyE_take (i := 13) (v := ?v13) (by simp only [List.getElem?_toArray, List.getElem?_cons_succ, List.getElem?_cons_zero]; rfl) (by kernel_rfl) (fun _ _ _ h => h) (Or.inl ⟨by rfl, ?hy13⟩) hHeld ?rest13
              case hy13 => first | (intro w hSw; (try dsimp only at hSw); go_simp; done) | (intro w hSw; (try dsimp only at hSw); go_simp; with_reducible rfl)
              simp only [Act.put, List.setIfInBounds_toArray, List.set_cons_zero, List.set_cons_succ]
              clear hHeld
              refine wpAnyE_one (i := 14) (by simp only [List.getElem?_toArray, List.getElem?_cons_succ, List.getElem?_cons_zero]; rfl) (by kernel_rfl) (fun K hK => ?_)
              go_simp
              refine hK.out _ _ ?_ (fun hHeld => ?_)
              · exact ⟨(World.cell?_alloc_lt _ _ _ t0).trans m0, (World.cell?_alloc_lt _ _ _ t0).trans m3, (World.cell?_alloc_lt _ _ _ t1).trans m5⟩
              clear hK K hHeld
              try simp only [Act.put, List.setIfInBounds_toArray, List.set_cons_zero, List.set_cons_succ]
              refine wpAnyE_one (i := 15) (by simp only [List.getElem?_toArray, List.getElem?_cons_succ, List.getElem?_cons_zero]; rfl) (by kernel_rfl) (fun K hK => ?_)
              refine step_append_room rfl _ _ 92 rfl 97 i97 2 Try.underlying92 hi97 hs97 cl 0 len n (by rfl) _ 1 _ [.int .i32 (x : Int), .int .u8 (M p)] (by rfl) (by rfl) (app_news _ _ _) (app_one _ _) (by omega) (app_spare (HN4.out.bcl E3.out).drew hroom _) ?_
              refine hK.out _ _ ?_ (fun hHeld => ?_)
              · exact ⟨(World.cell?_setCells_out cl _ _ _ _ (fun e _ => absurd e n1')).trans ((World.cell?_alloc_lt _ _ _ t0).trans m0), (World.cell?_setCells_out cl _ _ _ _ (fun e _ => absurd e n1')).trans ((World.cell?_alloc_lt _ _ _ t0).trans m3), (World.cell?_setCells_out cl _ _ _ _ (fun e _ => absurd e n2')).trans ((World.cell?_alloc_lt _ _ _ t1).trans m5)⟩
              clear hK K
              try simp only [Act.put, List.setIfInBounds_toArray, List.set_cons_zero, List.set_cons_succ]
              refine wpAnyE_take (i := 16) (v := ?v16) (by simp only [List.getElem?_toArray, List.getElem?_cons_succ, List.getElem?_cons_zero]; rfl) (by kernel_rfl) (fun _ _ _ h => h) (Or.inl ⟨by rfl, ?hy16⟩) hHeld ?rest16
              case hy16 => first | (intro w hSw; (try dsimp only at hSw); go_simp; done) | (intro w hSw; (try dsimp only at hSw); go_simp; with_reducible rfl)
              simp only [Act.put, List.setIfInBounds_toArray, List.set_cons_zero, List.set_cons_succ]
              refine wpAnyE_take (i := 17) (v := ?v17) (by simp only [List.getElem?_toArray, List.getElem?_cons_succ, List.getElem?_cons_zero]; rfl) (by kernel_rfl) (fun _ _ _ h => h) (Or.inl ⟨by rfl, ?hy17⟩) hHeld ?rest17
              case hy17 => first | (intro w hSw; (try dsimp only at hSw); go_simp; done) | (intro w hSw; (try dsimp only at hSw); go_simp; with_reducible rfl)
              simp only [Act.put, List.setIfInBounds_toArray, List.set_cons_zero, List.set_cons_succ]
              refine wpAnyE_last (by simp only [List.getElem?_toArray, List.getElem?_cons_succ, List.getElem?_cons_zero]; rfl) (by kernel_rfl) (by kernel_rfl) (fun K hK => ?_)
              go_simp
              refine hK.out _ _ ?_
              go_step; go_step
              go_meet
              case rel => exact ⟨_, _, _, (HN4.out.drew).app E3.out _ x (M p), fun _ => by have := HC.out.add HR4.out.at_ HF.out (HL2.out.m.str HF.out (fun q hq => .inr ((HR4.out.at_.mem q).2 ⟨hq.1, hq.2.2.1.trans HR4.out.at_.run.2⟩))); rwa [HX.out] at this⟩
        clear HN4
        obtain ⟨CI2, CM2, len2, hN5, hC5⟩ := hcut
        have HN5 := hide hN5
        have HC5 := hide hC5
        clear hN5 hC5
        have HK := hide (HL2.out.kept HR4.out.at_ HF.out)
        have m1 := HN5.out.bmd.rcell p hpn
        have m3 : wc.cell? ⟨pl, 0, none⟩ = some (.slice (some ⟨md, 0, none⟩) n n) := HN5.out.bpl.cell 0
        obtain ⟨mp, hmp⟩ : ∃ mp, M p = mp := ⟨_, rfl⟩
        rw [hmp] at m1 HK
        clear hmp
        go_upto_region 43 with fail
        go_cut [256] (fun c w' => (∃ k : Bool, c = .bool k ∧ (k = true ↔ (v = 2 ∧ mp = 2))) ∧ w' = wc)
        case first =>
          by_cases h2 : v = 2
          · have e2 : (v == 2) = true := by simpa using h2
            have H2 := hide h2
            clear h2
            as_aux_lemma =>
              go_wp2
              go_meet
              case rel => exact ⟨⟨_, rfl, by simp [H2.out]⟩, rfl⟩
          · have e2 : (v == 2) = false := by simpa using h2
            have H2 := hide h2
            clear h2
            as_aux_lemma =>
              go_wp2
              go_meet
              case rel => exact ⟨⟨_, rfl, by simp [H2.out]⟩, rfl⟩
        obtain ⟨⟨k, rfl, hk⟩, rfl⟩ := hcut
        rw [← hk] at HK
        clear m1 m3 hk
        have m4 := HN5.out.bla.rcell p hpn
        cases k
        · have HK' : Hid (¬ Kp K T X n v p) := fun e => by have := HK.out.2 e; simp at this
          obtain ⟨g, hg, hgn, hlast⟩ := HL2.out.last HR4.out.at_ HX.out hxn HF.out
          have HLast := hide hlast
          have m5 := HN5.out.blo.rcell x hxn
          rw [hg] at m5
          clear hg hlast HK
          have hlpb := HL2.out.lp.lt
          by_cases hgl : lp < (g : Int)
          · have m6 : wc.cell? ⟨pl, 1, none⟩ = some (.slice (some ⟨af, 0, none⟩) n n) := HN5.out.bpl.cell 1
            have m7 := HN5.out.baf.rcell g hgn
            have m8 := HN5.out.baf.free
            have ne1 : af ≠ la := nd_ne (i := 2) (j := 5) HN5.out.nd rfl rfl (by decide)
            as_aux_lemma =>
              go_wp2
              go_region
              go_step; go_step
              go_wp2
              go_roundw
              case rel => exact ⟨_, _, _, _, _, _, _, _, _, _, HR4.out.at_.next, rfl, rfl, HR4.out.isl.2, (HN5.out.set_af g p).drew, HR4.out.p2.past HL2.out HR4.out.at_ HX.out hxn HQ.out HK'.out HLast.out hgl, HC5.out⟩
              case measure => have := HLp.out; simp [intOf]; omega
          · have hgb : g ≤ lp.toNat := by omega
            have hbn : lp.toNat < n := by omega
            have hlp0 : 0 ≤ lp := by omega
            have HBB := hide (show lp = ((lp.toNat : Nat) : Int) by omega)
            have htl := HR4.out.p2.tailAt HR4.out.at_
            by_cases ht0 : tail < 0
            · have m6 : wc.cell? ⟨pl, 1, none⟩ = some (.slice (some ⟨af, 0, none⟩) n n) := HN5.out.bpl.cell 1
              have m7 := HN5.out.baf.rcell lp.toNat hbn
              have m8 := HN5.out.baf.free
              have ne1 : af ≠ la := nd_ne (i := 2) (j := 5) HN5.out.nd rfl rfl (by decide)
              as_aux_lemma =>
                go_wp2
                go_roundw
                case rel => exact ⟨_, _, _, _, _, _, _, _, _, _, HR4.out.at_.next, rfl, rfl, HR4.out.isl.2, HN5.out.set_af lp.toNat p, HR4.out.p2.head HL2.out HR4.out.at_ HX.out hxn HQ.out HK'.out HLast.out HBB.out hgb ht0, HC5.out⟩
                case measure => have := HLp.out; simp [intOf]; omega
            · have htn : tail.toNat < n := by omega
              have ht1 : 0 ≤ tail := by omega
              have HTT := hide (show tail = ((tail.toNat : Nat) : Int) by omega)
              have m6 : wc.cell? ⟨pl, 2, none⟩ = some (.slice (some ⟨nx, 0, none⟩) n n) := HN5.out.bpl.cell 2
              have m7 := HN5.out.bnx.rcell tail.toNat htn
              have m8 := HN5.out.bnx.free
              have ne1 : nx ≠ la := nd_ne (i := 3) (j := 5) HN5.out.nd rfl rfl (by decide)
              as_aux_lemma =>
                go_wp2
                go_roundw
                case rel => exact ⟨_, _, _, _, _, _, _, _, _, _, HR4.out.at_.next, rfl, rfl, HR4.out.isl.2, HN5.out.set_nx tail.toNat p, HR4.out.p2.more HL2.out HR4.out.at_ HX.out hxn HQ.out HK'.out HLast.out HBB.out hgb HTT.out, HC5.out⟩
                case measure => have := HLp.out; simp [intOf]; omega
        · as_aux_lemma =>
            go_wp2
            go_roundw
            case rel => exact ⟨_, _, _, _, _, _, _, _, _, _, HR4.out.at_.next, rfl, rfl, HR4.out.isl.2, HN5.out, HR4.out.p2.kept HR4.out.at_ HX.out hxn HQ.out (HK.out.1 rfl), HC5.out⟩
            case measure => have := HLp.out; simp [intOf]; omega
      · have e1 : (q != (p : Int)) = true := by simpa using h0
        have m4 := HR4.out.mem.bla.rcell p hpn
        have H0 : Hid (FO x ≠ p) := by unfold Hid; rw [HQ.out]; exact h0
        clear h0
        as_aux_lemma =>
          go_wp2
          go_roundw
          case rel => exact ⟨_, _, _, _, _, _, _, _, _, _, HR4.out.at_.next, rfl, rfl, HR4.out.isl.2, HR4.out.mem, HR4.out.p2.skip HR4.out.at_ HX.out hxn H0.out, fun e => (HR4.out.ci e).skip (HR4.out.p2.notFst HR4.out.at_ HX.out hxn H0.out)⟩
          case measure => have := HLp.out; simp [intOf]; omega
end Go.Proofs.Qxb6605516a
