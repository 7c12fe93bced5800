import Derived.Test.Qxb6605516aPlanN3
import Derived.Test.Qxb6605516aPlanN4
namespace Go.Proofs.Qxb6605516a
open Go.RowKit
set_option linter.unusedVariables false

set_option maxRecDepth 100000 in
set_option maxHeartbeats 8000000 in
theorem np_2 {c2 c3 c4 c9 c10 c21 c22 c23 c24 c25 c26 c27 c28 c29 c30 c31 c32 c33 c34 c35 c36 c37 c38 c39 c40 c41 c42 c43 c44 c45 c46 c47 c48 c49 c50 c51 c52 c53 c54 c55 c56 c57 c58 c59 c60 c61 c62 c63 c64 c65 c66 c67 c68 c69 c70 c71 c72 c73 c74 c75 c76 c77 c78 c79 c80 c81 c82 c83 c84 c85 c86 c87 c88 c89 c90 c91 c92 c93 c94 c95 c96 c97 c98 c99 c100 c101 c102 c103 c104 c105 c106 c107 c108 c109 c110 c111 c112 c113 c114 c115 c116 c117 c118 c119 c120 c121 c122 c123 c124 c125 c126 c127 c128 c129 c130 c131 c132 c133 c305 u13 u14 u15 u16 u17 u18 u19 u20 u136 u137 u138 u139 u140 u141 u142 u143 u144 u145 u146 u147 u148 u149 u150 u151 u152 u153 u154 u155 u156 u157 u158 u159 u160 u161 u162 u163 u164 u165 u166 u167 u168 u169 u170 u171 u172 u173 u174 u175 u176 u177 u178 u179 u180 u181 u182 u183 u184 u185 u186 u187 u188 u189 u190 u191 u192 u193 u194 u195 u196 u197 u198 u199 u200 u201 u202 u203 u204 u205 u206 u207 u208 u209 u210 u211 u212 u213 u214 u215 u216 u217 u218 u219 u220 u221 u222 u223 u224 u225 u226 u227 u228 u229 u230 u231 u232 u233 u234 u235 u236 u237 u238 u239 u240 u241 u242 u243 u244 u245 u246 u247 u248 u249 u250 u251 u252 u253 u254 u255 u256 u257 u258 u259 u260 u261 u262 u263 u264 u265 u266 u267 u268 u269 u270 u271 u272 u273 u274 u275 u276 u277 u278 u279 u280 u281 u282 u283 u284 u285 u286 u287 u288 u289 u290 u291 u292 u293 u294 u295 u296 u297 u298 u299 u300 u301 u302 u303 u304 : Value} {Q0 : Exit → Act → World → Prop} {w wr : World} {v : Int} {b : Bool} {n nt ni pl md af nx fi la fo lo cl cf bh : Nat} {K T X F L : Nat → Int} {ha : Option Addr} {hc : Nat} {ta : Option Addr} {tc : Nat} {ia : Option Addr} {ic : Nat} {l : ByteArray} (hn : n ≤ 4096) (hnt : nt ≤ 4096) (hni : ni ≤ 4096) (hd : Dom n nt ni K T X v) (hh : Hist w bh n nt ni K T X ha hc ta tc ia ic l) (hb : b = true ↔ v = 3)
    (hT : Thr K T n nt n F L) (hNP : NP w wr v n nt ni pl md af nx fi la fo lo cl cf (fun _ => 0) minus minus F L minus (fun _ => 0) (fun _ => 0) (fun _ => 0) (fun _ => 0) 0)
    (hexit : ∀ {u13 u14 u15 u16 u17 u18 u19 u20 u136 u137 u138 u139 u140 u141 u142 u143 u144 u145 u146 u147 u148 u149 u150 u151 u152 u153 u154 u155 u156 u157 u158 u159 u160 u161 u162 u163 u164 u165 u166 u167 u168 u169 u170 u171 u172 u173 u174 u175 u176 u177 u178 u179 u180 u181 u182 u183 u184 u185 u186 u187 u188 u189 u190 u191 u192 u193 u194 u195 u196 u197 u198 u199 u200 u201 u202 u203 u204 u205 u206 u207 u208 u209 u210 u211 u212 u213 u214 u215 u216 u217 u218 u219 u220 u221 u222 u223 u224 u225 u226 u227 u228 u229 u230 u231 u232 u233 u234 u235 u236 u237 u238 u239 u240 u241 u242 u243 u244 u245 u246 u247 u248 u249 u250 u251 u252 u253 u254 u255 u256 u257 u258 u259 u260 u261 u262 u263 u264 u265 u266 u267 u268 u269 u270 u271 u272 u273 u274 u275 u276 u277 u278 u279 u280 u281 u282 u283 u284 u285 u286 u287 u288 u289 u290 u291 u292 u293 u294 u295 u296 u297 u298 u299 u300 u301 u302 u303 u304 : Value} {M A N FO LO CI CM CF : Nat → Int} {len : Nat} {w' : World}, R2 w v n nt ni pl md af nx fi la fo lo cl cf K T X F L (.int .i64 nt) w' nt M A N FO LO CI CM CF len → Q0 (.exit 3) ⟨((Value.pointer (some ⟨bh, 0, none⟩)) :: (Value.int .u8 v) :: c2 :: c3 :: c4 :: (Value.pointer (some ⟨pl, 0, none⟩)) :: (Value.bool b) :: (Value.slice (some ⟨fi, 0, none⟩) nt nt) :: (Value.slice (some ⟨la, 0, none⟩) n n) :: c9 :: c10 :: (Value.slice (some ⟨fo, 0, none⟩) ni ni) :: (Value.slice (some ⟨lo, 0, none⟩) ni ni) :: u13 :: u14 :: u15 :: u16 :: u17 :: u18 :: u19 :: u20 :: c21 :: c22 :: c23 :: c24 :: c25 :: c26 :: c27 :: c28 :: c29 :: c30 :: c31 :: c32 :: c33 :: c34 :: c35 :: c36 :: c37 :: c38 :: c39 :: c40 :: c41 :: c42 :: c43 :: c44 :: c45 :: c46 :: c47 :: c48 :: c49 :: c50 :: c51 :: c52 :: c53 :: c54 :: c55 :: c56 :: c57 :: c58 :: c59 :: c60 :: c61 :: c62 :: c63 :: c64 :: c65 :: c66 :: c67 :: c68 :: c69 :: c70 :: c71 :: c72 :: c73 :: c74 :: c75 :: c76 :: c77 :: c78 :: c79 :: c80 :: c81 :: c82 :: c83 :: c84 :: c85 :: c86 :: c87 :: c88 :: c89 :: c90 :: c91 :: c92 :: c93 :: c94 :: c95 :: c96 :: c97 :: c98 :: c99 :: c100 :: c101 :: c102 :: c103 :: c104 :: c105 :: c106 :: c107 :: c108 :: c109 :: c110 :: c111 :: c112 :: c113 :: c114 :: c115 :: c116 :: c117 :: c118 :: c119 :: c120 :: c121 :: c122 :: c123 :: c124 :: c125 :: c126 :: c127 :: c128 :: c129 :: c130 :: c131 :: c132 :: c133 :: (Value.int .i64 nt) :: (Value.int .i64 nt) :: u136 :: u137 :: u138 :: u139 :: u140 :: u141 :: u142 :: u143 :: u144 :: u145 :: u146 :: u147 :: u148 :: u149 :: u150 :: u151 :: u152 :: u153 :: u154 :: u155 :: u156 :: u157 :: u158 :: u159 :: u160 :: u161 :: u162 :: u163 :: u164 :: u165 :: u166 :: u167 :: u168 :: u169 :: u170 :: u171 :: u172 :: u173 :: u174 :: u175 :: u176 :: u177 :: u178 :: u179 :: u180 :: u181 :: u182 :: u183 :: u184 :: u185 :: u186 :: u187 :: u188 :: u189 :: u190 :: u191 :: u192 :: u193 :: u194 :: u195 :: u196 :: u197 :: u198 :: u199 :: u200 :: u201 :: u202 :: u203 :: u204 :: u205 :: u206 :: u207 :: u208 :: u209 :: u210 :: u211 :: u212 :: u213 :: u214 :: u215 :: u216 :: u217 :: u218 :: u219 :: u220 :: u221 :: u222 :: u223 :: u224 :: u225 :: u226 :: u227 :: u228 :: u229 :: u230 :: u231 :: u232 :: u233 :: u234 :: u235 :: u236 :: u237 :: u238 :: u239 :: u240 :: u241 :: u242 :: u243 :: u244 :: u245 :: u246 :: u247 :: u248 :: u249 :: u250 :: u251 :: u252 :: u253 :: u254 :: u255 :: u256 :: u257 :: u258 :: u259 :: u260 :: u261 :: u262 :: u263 :: u264 :: u265 :: u266 :: u267 :: u268 :: u269 :: u270 :: u271 :: u272 :: u273 :: u274 :: u275 :: u276 :: u277 :: u278 :: u279 :: u280 :: u281 :: u282 :: u283 :: u284 :: u285 :: u286 :: u287 :: u288 :: u289 :: u290 :: u291 :: u292 :: u293 :: u294 :: u295 :: u296 :: u297 :: u298 :: u299 :: u300 :: u301 :: u302 :: u303 :: u304 :: c305 :: []).toArray, []⟩ w') :
    Code.wp Try.prog (Code.loop lp38_2) Q0 ⟨((Value.pointer (some ⟨bh, 0, none⟩)) :: (Value.int .u8 v) :: c2 :: c3 :: c4 :: (Value.pointer (some ⟨pl, 0, none⟩)) :: (Value.bool b) :: (Value.slice (some ⟨fi, 0, none⟩) nt nt) :: (Value.slice (some ⟨la, 0, none⟩) n n) :: c9 :: c10 :: (Value.slice (some ⟨fo, 0, none⟩) ni ni) :: (Value.slice (some ⟨lo, 0, none⟩) ni ni) :: u13 :: u14 :: u15 :: u16 :: u17 :: u18 :: u19 :: u20 :: c21 :: c22 :: c23 :: c24 :: c25 :: c26 :: c27 :: c28 :: c29 :: c30 :: c31 :: c32 :: c33 :: c34 :: c35 :: c36 :: c37 :: c38 :: c39 :: c40 :: c41 :: c42 :: c43 :: c44 :: c45 :: c46 :: c47 :: c48 :: c49 :: c50 :: c51 :: c52 :: c53 :: c54 :: c55 :: c56 :: c57 :: c58 :: c59 :: c60 :: c61 :: c62 :: c63 :: c64 :: c65 :: c66 :: c67 :: c68 :: c69 :: c70 :: c71 :: c72 :: c73 :: c74 :: c75 :: c76 :: c77 :: c78 :: c79 :: c80 :: c81 :: c82 :: c83 :: c84 :: c85 :: c86 :: c87 :: c88 :: c89 :: c90 :: c91 :: c92 :: c93 :: c94 :: c95 :: c96 :: c97 :: c98 :: c99 :: c100 :: c101 :: c102 :: c103 :: c104 :: c105 :: c106 :: c107 :: c108 :: c109 :: c110 :: c111 :: c112 :: c113 :: c114 :: c115 :: c116 :: c117 :: c118 :: c119 :: c120 :: c121 :: c122 :: c123 :: c124 :: c125 :: c126 :: c127 :: c128 :: c129 :: c130 :: c131 :: c132 :: c133 :: (Value.int .i64 nt) :: (Value.int .i64 0) :: u136 :: u137 :: u138 :: u139 :: u140 :: u141 :: u142 :: u143 :: u144 :: u145 :: u146 :: u147 :: u148 :: u149 :: u150 :: u151 :: u152 :: u153 :: u154 :: u155 :: u156 :: u157 :: u158 :: u159 :: u160 :: u161 :: u162 :: u163 :: u164 :: u165 :: u166 :: u167 :: u168 :: u169 :: u170 :: u171 :: u172 :: u173 :: u174 :: u175 :: u176 :: u177 :: u178 :: u179 :: u180 :: u181 :: u182 :: u183 :: u184 :: u185 :: u186 :: u187 :: u188 :: u189 :: u190 :: u191 :: u192 :: u193 :: u194 :: u195 :: u196 :: u197 :: u198 :: u199 :: u200 :: u201 :: u202 :: u203 :: u204 :: u205 :: u206 :: u207 :: u208 :: u209 :: u210 :: u211 :: u212 :: u213 :: u214 :: u215 :: u216 :: u217 :: u218 :: u219 :: u220 :: u221 :: u222 :: u223 :: u224 :: u225 :: u226 :: u227 :: u228 :: u229 :: u230 :: u231 :: u232 :: u233 :: u234 :: u235 :: u236 :: u237 :: u238 :: u239 :: u240 :: u241 :: u242 :: u243 :: u244 :: u245 :: u246 :: u247 :: u248 :: u249 :: u250 :: u251 :: u252 :: u253 :: u254 :: u255 :: u256 :: u257 :: u258 :: u259 :: u260 :: u261 :: u262 :: u263 :: u264 :: u265 :: u266 :: u267 :: u268 :: u269 :: u270 :: u271 :: u272 :: u273 :: u274 :: u275 :: u276 :: u277 :: u278 :: u279 :: u280 :: u281 :: u282 :: u283 :: u284 :: u285 :: u286 :: u287 :: u288 :: u289 :: u290 :: u291 :: u292 :: u293 :: u294 :: u295 :: u296 :: u297 :: u298 :: u299 :: u300 :: u301 :: u302 :: u303 :: u304 :: c305 :: []).toArray, []⟩ wr := by
  have HD := hide hd
  have HH := hide hh
  have Hb := hide hb
  have lh := hh.blk.lt
  clear hd hh hb
  let bp0 : Exit → Act → World → Prop := bodyPost Try.prog Try.f38 (fun _ _ => True)
  have HT := hide hT
  have HNP := hide hNP
  clear hT hNP
  refine Code.wp_mono (Q := NoPanic Q0) (fun e a w h => NoPanic.imp e a w h) ?_
  conv => arg 2; arg 1; whnf
  go_loopw [135] (fun s wr => ∃ (t : Nat) (M A N FO LO CI CM CF : Nat → Int) (len : Nat), R2 w v n nt ni pl md af nx fi la fo lo cl cf K T X F L s wr t M A N FO LO CI CM CF len) (fun s _ => nt - (intOf s).toNat)
  case atStart => exact ⟨0, _, _, _, _, _, _, _, _, 0, r2_start HD.out HNP.out⟩
  case round =>
    obtain ⟨t, M, A, N, FO, LO, CI, CM, CF, len, hR⟩ := hrel
    have HR := hide hR
    obtain rfl := hR.s
    have ht := hR.ht
    clear hR HNP
    by_cases hlt : t < nt
    · have f1 := HR.out.mem.bfi.rcell t hlt
      have HTt := hide (HT.out t hlt)
      go_wp2
      clear f1
      refine np_3 hn hnt hni HD.out HH.out Hb.out (r3_start HR.out HTt.out) ?_
      intros
      rename_i lp dn M3 FO3 LO3 w3 hR3
      have HR3 := hide hR3
      have HL2 := hide (l2_of hR3)
      have f1 := hR3.mem.bfi.rcell t hlt
      clear hR3
      go_step
      go_wp2
      clear f1
      refine np_4 hn hnt hni HD.out HH.out Hb.out HL2.out (r4_start HR.out HTt.out HR3.out) ?_
      intros
      rename_i tail dn4 A4 N4 FO4 CI4 CM4 len4 w4 hR4
      have HR4 := hide hR4
      clear hR4 HR3
      cases b
      · have e3 : ¬ v = 3 := fun e => by have := Hb.out.2 e; simp at this
        have E3 := hide e3
        clear e3
        as_aux_lemma =>
          go_step
          go_wp2
          go_roundw
          case rel => exact ⟨_, _, _, _, _, _, _, _, _, _, r2_next hlt HR.out HL2.out HR4.out HR4.out.mem (fun e => absurd e E3.out)⟩
          case measure => simp [intOf]; omega
      · have e3 : v = 3 := Hb.out.1 rfl
        have E3 := hide e3
        clear e3
        have hlen : len4 ≤ 4096 := by
          have h1 := (HR4.out.ci E3.out).len
          have h2 := cnt_le (fun h => Fst K T X n h ∧ ((Run K T n h ∧ T h < (t : Int)) ∨ h ∈ dn4)) n
          omega
        have m3 : w4.cell? ⟨pl, 3, none⟩ = some (.slice (some ⟨cl, 0, none⟩) len4 n) := (HR4.out.mem.bpl.cell 3).trans (by rw [E3.out, csV3]; rfl)
        have m4 : w4.cell? ⟨pl, 4, none⟩ = some (.slice (some ⟨cf, 0, none⟩) (nt + 1) (nt + 1)) := (HR4.out.mem.bpl.cell 4).trans (by rw [E3.out, cfV3]; rfl)
        have q1 := (HR4.out.mem.bcf E3.out).rcell (t + 1) (by omega)
        have q2 := (HR4.out.mem.bcf E3.out).free
        as_aux_lemma =>
          go_step
          go_wp2
          go_region
          go_step; go_step
          go_wp2
          go_roundw
          case rel => exact ⟨_, _, _, _, _, _, _, _, _, _, r2_next hlt HR.out HL2.out HR4.out ((HR4.out.mem.set_cf (t + 1) len4).drew) (fun _ => rfl)⟩
          case measure => simp [intOf]; omega
    · obtain rfl : t = nt := by omega
      as_aux_lemma =>
        go_wp2
        first | exact hexit HR.out | exact ⟨_, _, _, _, _, _, _, _, _, HR.out⟩ | exact HR.out
end Go.Proofs.Qxb6605516a
