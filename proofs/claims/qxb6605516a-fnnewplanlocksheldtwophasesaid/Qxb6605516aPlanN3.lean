import Derived.Test.Qxb6605516aPlanL
namespace Go.Proofs.Qxb6605516a
open Go.RowKit
set_option linter.unusedVariables false

set_option maxRecDepth 100000 in
set_option maxHeartbeats 8000000 in
theorem np_3 {c2 c3 c4 c7 c9 c10 c13 c18 c19 c20 c21 c22 c23 c24 c25 c26 c27 c28 c29 c30 c31 c32 c33 c34 c35 c36 c37 c38 c39 c40 c41 c42 c43 c44 c45 c46 c47 c48 c49 c50 c51 c52 c53 c54 c55 c56 c57 c58 c59 c60 c61 c62 c63 c64 c65 c66 c67 c68 c69 c70 c71 c72 c73 c74 c75 c76 c77 c78 c79 c80 c81 c82 c83 c84 c85 c86 c87 c88 c89 c90 c91 c92 c93 c94 c95 c96 c97 c98 c99 c100 c101 c102 c103 c104 c105 c106 c107 c108 c109 c110 c111 c112 c113 c114 c115 c116 c117 c118 c119 c120 c121 c122 c123 c124 c125 c126 c127 c128 c129 c130 c131 c132 c133 c134 c135 c136 c137 c138 c139 c140 c141 c199 c200 c201 c202 c203 c204 c205 c206 c207 c208 c209 c210 c211 c212 c213 c214 c215 c216 c217 c218 c219 c220 c221 c222 c223 c224 c225 c226 c227 c228 c229 c230 c231 c232 c233 c234 c235 c236 c237 c238 c239 c240 c241 c242 c243 c244 c245 c246 c247 c248 c249 c250 c251 c252 c253 c254 c255 c256 c257 c258 c259 c260 c261 c262 c263 c264 c265 c266 c267 c268 c269 c270 c271 c272 c273 c274 c275 c276 c277 c278 c279 c280 c281 c282 c283 c284 c285 c286 c287 c288 c289 c290 c291 c292 c293 c294 c295 c296 c297 c298 c299 c300 c301 c302 c303 c304 c305 u16 u17 u142 u143 u144 u145 u146 u147 u148 u149 u150 u151 u152 u153 u154 u155 u156 u157 u158 u159 u160 u161 u162 u163 u164 u165 u166 u167 u168 u169 u170 u171 u172 u173 u174 u175 u176 u177 u178 u179 u180 u181 u182 u183 u184 u185 u186 u187 u188 u189 u190 u191 u192 u193 u194 u195 u196 u197 u198 : Value} {Q0 : Exit → Act → World → Prop} {w wr : World} {v : Int} {b : Bool} {n nt ni pl md af nx fi la fo lo cl cf bh : Nat} {K T X F L : Nat → Int} {t : Nat} {ha : Option Addr} {hc : Nat} {ta : Option Addr} {tc : Nat} {ia : Option Addr} {ic : Nat} {l : ByteArray} {A N CI CM CF M0 FO0 LO0 : Nat → Int} {len : Nat} {h0 : Int} (hn : n ≤ 4096) (hnt : nt ≤ 4096) (hni : ni ≤ 4096) (hd : Dom n nt ni K T X v) (hh : Hist w bh n nt ni K T X ha hc ta tc ia ic l) (hb : b = true ↔ v = 3)
    (h3 : R3 w v n nt ni pl md af nx fi la fo lo cl cf K T X F L A N CI CM CF len t (.int .i32 (-1)) (.int .i32 h0) wr [] (chd K T n n t) h0 M0 FO0 LO0 (-1))
    (hexit : ∀ {u16 u17 u142 u143 u144 u145 u146 u147 u148 u149 u150 u151 u152 u153 u154 u155 u156 u157 u158 u159 u160 u161 u162 u163 u164 u165 u166 u167 u168 u169 u170 u171 u172 u173 u174 u175 u176 u177 u178 u179 u180 u181 u182 u183 u184 u185 u186 u187 u188 u189 u190 u191 u192 u193 u194 u195 u196 u197 u198 : Value} {lp : Int} {dn : List Nat} {M FO LO : Nat → Int} {w' : World}, R3 w v n nt ni pl md af nx fi la fo lo cl cf K T X F L A N CI CM CF len t (.int .i32 lp) (.int .i32 (-1)) w' dn [] (-1) M FO LO lp → Q0 (.exit 5) ⟨((Value.pointer (some ⟨bh, 0, none⟩)) :: (Value.int .u8 v) :: c2 :: c3 :: c4 :: (Value.pointer (some ⟨pl, 0, none⟩)) :: (Value.bool b) :: c7 :: (Value.slice (some ⟨la, 0, none⟩) n n) :: c9 :: c10 :: (Value.slice (some ⟨fo, 0, none⟩) ni ni) :: (Value.slice (some ⟨lo, 0, none⟩) ni ni) :: c13 :: (Value.int .i32 lp) :: (Value.int .i32 (-1)) :: u16 :: u17 :: c18 :: c19 :: c20 :: c21 :: c22 :: c23 :: c24 :: c25 :: c26 :: c27 :: c28 :: c29 :: c30 :: c31 :: c32 :: c33 :: c34 :: c35 :: c36 :: c37 :: c38 :: c39 :: c40 :: c41 :: c42 :: c43 :: c44 :: c45 :: c46 :: c47 :: c48 :: c49 :: c50 :: c51 :: c52 :: c53 :: c54 :: c55 :: c56 :: c57 :: c58 :: c59 :: c60 :: c61 :: c62 :: c63 :: c64 :: c65 :: c66 :: c67 :: c68 :: c69 :: c70 :: c71 :: c72 :: c73 :: c74 :: c75 :: c76 :: c77 :: c78 :: c79 :: c80 :: c81 :: c82 :: c83 :: c84 :: c85 :: c86 :: c87 :: c88 :: c89 :: c90 :: c91 :: c92 :: c93 :: c94 :: c95 :: c96 :: c97 :: c98 :: c99 :: c100 :: c101 :: c102 :: c103 :: c104 :: c105 :: c106 :: c107 :: c108 :: c109 :: c110 :: c111 :: c112 :: c113 :: c114 :: c115 :: c116 :: c117 :: c118 :: c119 :: c120 :: c121 :: c122 :: c123 :: c124 :: c125 :: c126 :: c127 :: c128 :: c129 :: c130 :: c131 :: c132 :: c133 :: c134 :: c135 :: c136 :: c137 :: c138 :: c139 :: c140 :: c141 :: u142 :: u143 :: u144 :: u145 :: u146 :: u147 :: u148 :: u149 :: u150 :: u151 :: u152 :: u153 :: u154 :: u155 :: u156 :: u157 :: u158 :: u159 :: u160 :: u161 :: u162 :: u163 :: u164 :: u165 :: u166 :: u167 :: u168 :: u169 :: u170 :: u171 :: u172 :: u173 :: u174 :: u175 :: u176 :: u177 :: u178 :: u179 :: u180 :: u181 :: u182 :: u183 :: u184 :: u185 :: u186 :: u187 :: u188 :: u189 :: u190 :: u191 :: u192 :: u193 :: u194 :: u195 :: u196 :: u197 :: u198 :: c199 :: c200 :: c201 :: c202 :: c203 :: c204 :: c205 :: c206 :: c207 :: c208 :: c209 :: c210 :: c211 :: c212 :: c213 :: c214 :: c215 :: c216 :: c217 :: c218 :: c219 :: c220 :: c221 :: c222 :: c223 :: c224 :: c225 :: c226 :: c227 :: c228 :: c229 :: c230 :: c231 :: c232 :: c233 :: c234 :: c235 :: c236 :: c237 :: c238 :: c239 :: c240 :: c241 :: c242 :: c243 :: c244 :: c245 :: c246 :: c247 :: c248 :: c249 :: c250 :: c251 :: c252 :: c253 :: c254 :: c255 :: c256 :: c257 :: c258 :: c259 :: c260 :: c261 :: c262 :: c263 :: c264 :: c265 :: c266 :: c267 :: c268 :: c269 :: c270 :: c271 :: c272 :: c273 :: c274 :: c275 :: c276 :: c277 :: c278 :: c279 :: c280 :: c281 :: c282 :: c283 :: c284 :: c285 :: c286 :: c287 :: c288 :: c289 :: c290 :: c291 :: c292 :: c293 :: c294 :: c295 :: c296 :: c297 :: c298 :: c299 :: c300 :: c301 :: c302 :: c303 :: c304 :: c305 :: []).toArray, []⟩ w') :
    Code.wp Try.prog (Code.loop lp38_3) Q0 ⟨((Value.pointer (some ⟨bh, 0, none⟩)) :: (Value.int .u8 v) :: c2 :: c3 :: c4 :: (Value.pointer (some ⟨pl, 0, none⟩)) :: (Value.bool b) :: c7 :: (Value.slice (some ⟨la, 0, none⟩) n n) :: c9 :: c10 :: (Value.slice (some ⟨fo, 0, none⟩) ni ni) :: (Value.slice (some ⟨lo, 0, none⟩) ni ni) :: c13 :: (Value.int .i32 (-1)) :: (Value.int .i32 h0) :: u16 :: u17 :: c18 :: c19 :: c20 :: c21 :: c22 :: c23 :: c24 :: c25 :: c26 :: c27 :: c28 :: c29 :: c30 :: c31 :: c32 :: c33 :: c34 :: c35 :: c36 :: c37 :: c38 :: c39 :: c40 :: c41 :: c42 :: c43 :: c44 :: c45 :: c46 :: c47 :: c48 :: c49 :: c50 :: c51 :: c52 :: c53 :: c54 :: c55 :: c56 :: c57 :: c58 :: c59 :: c60 :: c61 :: c62 :: c63 :: c64 :: c65 :: c66 :: c67 :: c68 :: c69 :: c70 :: c71 :: c72 :: c73 :: c74 :: c75 :: c76 :: c77 :: c78 :: c79 :: c80 :: c81 :: c82 :: c83 :: c84 :: c85 :: c86 :: c87 :: c88 :: c89 :: c90 :: c91 :: c92 :: c93 :: c94 :: c95 :: c96 :: c97 :: c98 :: c99 :: c100 :: c101 :: c102 :: c103 :: c104 :: c105 :: c106 :: c107 :: c108 :: c109 :: c110 :: c111 :: c112 :: c113 :: c114 :: c115 :: c116 :: c117 :: c118 :: c119 :: c120 :: c121 :: c122 :: c123 :: c124 :: c125 :: c126 :: c127 :: c128 :: c129 :: c130 :: c131 :: c132 :: c133 :: c134 :: c135 :: c136 :: c137 :: c138 :: c139 :: c140 :: c141 :: u142 :: u143 :: u144 :: u145 :: u146 :: u147 :: u148 :: u149 :: u150 :: u151 :: u152 :: u153 :: u154 :: u155 :: u156 :: u157 :: u158 :: u159 :: u160 :: u161 :: u162 :: u163 :: u164 :: u165 :: u166 :: u167 :: u168 :: u169 :: u170 :: u171 :: u172 :: u173 :: u174 :: u175 :: u176 :: u177 :: u178 :: u179 :: u180 :: u181 :: u182 :: u183 :: u184 :: u185 :: u186 :: u187 :: u188 :: u189 :: u190 :: u191 :: u192 :: u193 :: u194 :: u195 :: u196 :: u197 :: u198 :: c199 :: c200 :: c201 :: c202 :: c203 :: c204 :: c205 :: c206 :: c207 :: c208 :: c209 :: c210 :: c211 :: c212 :: c213 :: c214 :: c215 :: c216 :: c217 :: c218 :: c219 :: c220 :: c221 :: c222 :: c223 :: c224 :: c225 :: c226 :: c227 :: c228 :: c229 :: c230 :: c231 :: c232 :: c233 :: c234 :: c235 :: c236 :: c237 :: c238 :: c239 :: c240 :: c241 :: c242 :: c243 :: c244 :: c245 :: c246 :: c247 :: c248 :: c249 :: c250 :: c251 :: c252 :: c253 :: c254 :: c255 :: c256 :: c257 :: c258 :: c259 :: c260 :: c261 :: c262 :: c263 :: c264 :: c265 :: c266 :: c267 :: c268 :: c269 :: c270 :: c271 :: c272 :: c273 :: c274 :: c275 :: c276 :: c277 :: c278 :: c279 :: c280 :: c281 :: c282 :: c283 :: c284 :: c285 :: c286 :: c287 :: c288 :: c289 :: c290 :: c291 :: c292 :: c293 :: c294 :: c295 :: c296 :: c297 :: c298 :: c299 :: c300 :: c301 :: c302 :: c303 :: c304 :: c305 :: []).toArray, []⟩ wr := by
  have HD := hide hd
  have HH := hide hh
  have Hb := hide hb
  have lh := hh.blk.lt
  clear hd hh hb
  let bp0 : Exit → Act → World → Prop := bodyPost Try.prog Try.f38 (fun _ _ => True)
  have H3 := hide h3
  clear h3
  conv => arg 2; arg 1; whnf
  go_loopw [14, 15] (fun s1 s2 wr => ∃ (dn r : List Nat) (h : Int) (M FO LO : Nat → Int) (lp : Int), R3 w v n nt ni pl md af nx fi la fo lo cl cf K T X F L A N CI CM CF len t s1 s2 wr dn r h M FO LO lp) (fun _ s2 _ => (8192 - (intOf s2 + 8192) % 8192).toNat)
  case atStart => exact ⟨_, _, _, _, _, _, _, H3.out⟩
  case round =>
    obtain ⟨dn, r, h, M, FO, LO, lp, hR3⟩ := hrel
    have HR3 := hide hR3
    obtain rfl := hR3.s1
    obtain rfl := hR3.s2
    clear hR3 H3
    cases r with
    | cons p r =>
      obtain rfl : h = (p : Int) := HR3.out.isl.1
      have hpr := HR3.out.at_.run
      have hpn : p < n := hpr.1.1
      have hdx := HD.out.rw p hpn hpr.1.2.1
      obtain ⟨x, hx⟩ := Int.eq_ofNat_of_zero_le hdx.2.2.1
      have hxn : x < ni := by omega
      clear hdx hpr
      have HX := hide hx
      have HH' := HH.out.below HR3.out.mem.bel
      obtain ⟨k0, -, -⟩ := HH'.cells
      rcases HH'.sl with h0 | ⟨bo, off, rfl, hbl, hcl⟩
      · omega
      have c0 := hcl (p * 3) (by omega)
      have c2 := hcl (p * 3 + 2) (by omega)
      rw [opCell0] at c0
      rw [opCell2, ← Nat.add_assoc, hx] at c2
      clear hcl HH' hx
      go_upto_region 26 with fail
      go_cut [16] (fun c w' => c = .int .i32 x ∧ w' = wr)
      case first =>
        as_aux_lemma =>
          go_wp2
          go_meet
          case rel => exact ⟨rfl, rfl⟩
      obtain ⟨rfl, rfl⟩ := hcut
      clear c0 c2 k0
      go_step; go_step
      go_cut [14] (fun s w' => ∃ (FO2 : Nat → Int) (lp2 : Int) (f : Nat), CA w v n nt ni pl md af nx fi la fo lo cl cf K T X F L A N CI CM CF len dn p x M LO s w' FO2 lp2 f)
      case first =>
        have q1 := HR3.out.mem.bfo.rcell x hxn
        have q2 := HR3.out.mem.bfo.free
        obtain ⟨q, hq⟩ : ∃ q, FO x = q := ⟨_, rfl⟩
        rw [hq] at q1
        have HQ := hide hq
        clear hq
        by_cases h0 : q < 0
        · have HF := hide (HR3.out.p1.first HR3.out.at_ HX.out hxn (by rw [HQ.out]; exact h0))
          cases b
          · have e3 : ¬ v = 3 := fun e => by have := Hb.out.2 e; simp at this
            rw [if_neg e3] at HF
            clear e3
            as_aux_lemma =>
              go_wp2
              go_meet
              case rel => exact ⟨_, _, p, rfl, HR3.out.mem.set_fo x p, upd_same _ _ _, hpn, HF.out.2, HF.out.1⟩
          · have e3 : v = 3 := Hb.out.1 rfl
            rw [if_pos e3] at HF
            clear e3
            as_aux_lemma =>
              go_wp2
              go_meet
              case rel => exact ⟨_, _, p, rfl, HR3.out.mem.set_fo x p, upd_same _ _ _, hpn, HF.out.2, HF.out.1⟩
        · have HF := hide (HR3.out.p1.again HR3.out.at_ HX.out hxn (by rw [HQ.out]; omega))
          as_aux_lemma =>
            go_wp2
            go_meet
            case rel =>
              obtain ⟨f, e1, e2, e3⟩ := HF.out.2
              exact ⟨_, _, f, rfl, HR3.out.mem, e1, e2, e3, HF.out.1⟩
      obtain ⟨FO2, lp2, f, hCA⟩ := hcut
      have HCA := hide hCA
      obtain rfl := hCA.s
      have hfn := hCA.fn
      have q1 := hCA.mem.bfo.rcell x hxn
      rw [hCA.fx] at q1
      clear hCA
      go_wp2
      clear q1
      go_cut [] (fun w' => NP w w' v n nt ni pl md af nx fi la fo lo cl cf (upd M f (max (M f) (needAt K p))) A N F L FO2 LO CI CM CF len)
      case first =>
        have HH' := HH.out.below HCA.out.mem.bel
        obtain ⟨k0, -, -⟩ := HH'.cells
        rcases HH'.sl with h0 | ⟨bo2, off2, e2, hbl2, hcl2⟩
        · omega
        obtain ⟨rfl, rfl⟩ : bo2 = bo ∧ off2 = off := by simpa using e2.symm
        have c0 := hcl2 (p * 3) (by omega)
        rw [opCell0] at c0
        have m1 := HCA.out.mem.bmd.rcell f hfn
        have m2 := HCA.out.mem.bmd.free
        have m3 : wc.cell? ⟨pl, 0, none⟩ = some (.slice (some ⟨md, 0, none⟩) n n) := HCA.out.mem.bpl.cell 0
        clear hcl2 HH' e2
        rcases HH.out.sl with h0 | ⟨bo3, off3, e3, hbl3, -⟩
        · omega
        obtain ⟨rfl, rfl⟩ : bo3 = bo2 ∧ off3 = off2 := by simpa using e3.symm
        clear e3
        have nw := HCA.out.mem.new
        have n1 : md ≠ pl := nd_ne (i := 1) (j := 0) HCA.out.mem.nd rfl rfl (by decide)
        have n2 : md ≠ bh := by omega
        have n3 : md ≠ bo3 := by omega
        have n1' := n1.symm
        have n2' := n2.symm
        have n3' := n3.symm
        clear nw
        have eN : needAt K p = need (K p) := rfl
        by_cases hmx : M f < need (K p)
        · have hMX := hide (show max (M f) (needAt K p) = need (K p) by omega)
          clear eN
          as_aux_lemma =>
            go_still_tail 23, (by kernel_rfl)
            still_call (neededby_any (K p) _)
            repeat still_step
            refine wpStill_nil ?_
            go_wp2
            all_goals (go_meet; case rel => first | (rw [hMX.out]; exact (HCA.out.mem.set_md f _).drew) | (exfalso; omega))
        · have hMX := hide (show max (M f) (needAt K p) = M f by omega)
          clear eN
          as_aux_lemma =>
            go_still_tail 23, (by kernel_rfl)
            still_call (neededby_any (K p) _)
            repeat still_step
            refine wpStill_nil ?_
            go_wp2
            all_goals (go_meet; case rel => first | (rw [hMX.out]; exact (HCA.out.mem.set_md f _).drew) | (exfalso; omega))
      have HNP3 := hide hcut
      have HLp := hide (HR3.out.at_.link HR3.out.isl.2)
      clear hcut
      have m1 := HNP3.out.blo.rcell x hxn
      have m2 := HNP3.out.blo.free
      have m3 := HNP3.out.bla.rcell p hpn
      have m4 : lo ≠ la := nd_ne (i := 7) (j := 5) HNP3.out.nd rfl rfl (by decide)
      go_wp2
      go_roundw
      case rel => exact ⟨_, _, _, _, _, _, _, r3_next HR3.out HCA.out (HNP3.out.set_lo x p)⟩
      case measure => have := HLp.out; simp [intOf]; omega
    | nil =>
      obtain rfl : h = -1 := HR3.out.isl
      as_aux_lemma =>
        go_wp2
        first | exact hexit HR3.out | exact ⟨_, _, _, _, HR3.out⟩ | exact HR3.out
end Go.Proofs.Qxb6605516a
